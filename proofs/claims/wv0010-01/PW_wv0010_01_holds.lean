import PyProof.Rows.All
import Wide.All
import OpenK.AllK
import Wide.FinOn
import KE.KCallOwn
import KE.KBytesWalk
import KE.KBytesCut
import KE.KSortTup
import PySem.Challenge.RW_wv0010_01
set_option Elab.async false
set_option linter.unusedVariables false
set_option maxRecDepth 100000
set_option maxHeartbeats 8000000
section
open PySem PySem.Calls PySem.W PyProof.Rows
namespace Mine
inductive D where
  | val (v:Value)
  | int (i:Int)
  | str (x:Str)
  | bytes (b:Array UInt8)
  | tup (ds:List D)
  | lst (ds:List D)
  | rng (a b c:Int)
noncomputable abbrev D.bool (b:Bool):D:=.val (.bool b)
noncomputable abbrev D.nil:D:=.val .none
noncomputable abbrev tupO (vs:List Value) (n:Nat):Obj:={ cls:=.type "tuple",data:=.seq vs.toArray n }
noncomputable abbrev lstO (vs:List Value) (n:Nat):Obj:={ cls:=.type "list",data:=.seq vs.toArray n }
mutual
inductive Rep (X:List Addr) (h:Heap):Value→D→Prop
  | val (v:Value):Rep X h v (.val v)
  | int (i:Int) (t:Tok):Rep X h (.int i t) (.int i)
  | str (x:Str) (t:Tok):Rep X h (.str x t) (.str x)
  | bytes (b:Array UInt8) (t:Tok):Rep X h (.bytes b t) (.bytes b)
  | tup {a:Addr} {vs:List Value} {n:Nat} {ds:List D}:a∉X→h.get? a=some (tupO vs n)→RepL X h vs ds→Rep X h (.ref a) (.tup ds)
  | lst {a:Addr} {vs:List Value} {n:Nat} {ds:List D}:a∉X→h.get? a=some (lstO vs n)→RepL X h vs ds→Rep X h (.ref a) (.lst ds)
  | rng {r:Addr} {a b c:Int} {t u v:Tok}:r∉X→IsRange h r a b c t u v→Rep X h (.ref r) (.rng a b c)
inductive RepL (X:List Addr) (h:Heap):List Value→List D→Prop
  | nil:RepL X h [] []
  | cons {v:Value} {vs:List Value} {d:D} {ds:List D}:Rep X h v d→RepL X h vs ds→RepL X h (v::vs) (d::ds)
end
section
variable {X X':List Addr} {h h':Heap} (hk:∀ b o,b∉X→h.get? b=some o→b∉X'∧h'.get? b=some o)
include hk
theorem Rep.mono {v:Value} {d:D} (r:Rep X h v d):Rep X' h' v d :=
  Rep.rec (motive_1:=fun v d _=>Rep X' h' v d) (motive_2:=fun vs ds _=>RepL X' h' vs ds) .val .int .str .bytes (fun a e _ r=>.tup (hk _ _ a e).1 (hk _ _ a e).2 r) (fun a e _ r=>.lst (hk _ _ a e).1 (hk _ _ a e).2 r) (fun a e=>.rng (hk _ _ a e).1 (hk _ _ a e).2) .nil (fun _ _ a r=>.cons a r) r
theorem RepL.mono {vs:List Value} {ds:List D} (r:RepL X h vs ds):RepL X' h' vs ds :=
  RepL.rec (motive_1:=fun v d _=>Rep X' h' v d) (motive_2:=fun vs ds _=>RepL X' h' vs ds) .val .int .str .bytes (fun a e _ r=>.tup (hk _ _ a e).1 (hk _ _ a e).2 r) (fun a e _ r=>.lst (hk _ _ a e).1 (hk _ _ a e).2 r) (fun a e=>.rng (hk _ _ a e).1 (hk _ _ a e).2) .nil (fun _ _ a r=>.cons a r) r
end
noncomputable def Rep.Shape (X:List Addr) (h:Heap) (v:Value):D→Prop
  | .val w=>w=v
  | .int i=>∃ t,Value.int i t=v
  | .str x=>∃ t,Value.str x t=v
  | .bytes b=>∃ t,Value.bytes b t=v
  | .tup ds=>∃ a vs n,Value.ref a=v∧a∉X∧h.get? a=some (tupO vs n)∧RepL X h vs ds
  | .lst ds=>∃ a vs n,Value.ref a=v∧a∉X∧h.get? a=some (lstO vs n)∧RepL X h vs ds
  | .rng a b c=>∃ r t u w,Value.ref r=v∧r∉X∧IsRange h r a b c t u w
section
variable {X:List Addr} {h:Heap} {v:Value}
theorem Rep.inv {d:D} (r:Rep X h v d):Rep.Shape X h v d:=Rep.casesOn (motive_1:=fun v d _=>Rep.Shape X h v d) r (fun _=>rfl) (fun _ t=>⟨t,rfl⟩) (fun _ t=>⟨t,rfl⟩) (fun _ t=>⟨t,rfl⟩) (fun a b c=>⟨_,_,_,rfl,a,b,c⟩) (fun a b c=>⟨_,_,_,rfl,a,b,c⟩) (fun a b=>⟨_,_,_,_,rfl,a,b⟩)
theorem Rep.vI {w:Value} (r:Rep X h v (.val w)):w=v:=r.inv
theorem Rep.iI {i:Int} (r:Rep X h v (.int i)):∃ t,Value.int i t=v:=r.inv
theorem Rep.sI {x:Str} (r:Rep X h v (.str x)):∃ t,Value.str x t=v:=r.inv
theorem Rep.bI {b:Array UInt8} (r:Rep X h v (.bytes b)):∃ t,Value.bytes b t=v:=r.inv
theorem Rep.tI {ds:List D} (r:Rep X h v (.tup ds)):∃ a vs n,Value.ref a=v∧a∉X∧h.get? a=some (tupO vs n)∧RepL X h vs ds:=r.inv
theorem Rep.lI {ds:List D} (r:Rep X h v (.lst ds)):∃ a vs n,Value.ref a=v∧a∉X∧h.get? a=some (lstO vs n)∧RepL X h vs ds:=r.inv
theorem RepL.ind {M:List Value→List D→Prop} (n:M [] []) (c:∀ v vs d ds,Rep X h v d→RepL X h vs ds→M vs ds→M (v::vs) (d::ds)) {vs:List Value} {ds:List D} (r:RepL X h vs ds):M vs ds :=
  RepL.rec (motive_1:=fun _ _ _=>True) (motive_2:=fun vs ds _=>M vs ds) (fun _=>trivial) (fun _ _=>trivial) (fun _ _=>trivial) (fun _ _=>trivial) (fun _ _ _ _=>trivial) (fun _ _ _ _=>trivial) (fun _ _=>trivial) n (fun a r _ ih=>c _ _ _ _ a r ih) r
noncomputable def RepL.Shape (X:List Addr) (h:Heap) (vs:List Value):List D→Prop
  | []=>[]=vs
  | d::ds=>∃ v ws,v::ws=vs∧Rep X h v d∧RepL X h ws ds
theorem RepL.inv {vs:List Value} {ds:List D} (r:RepL X h vs ds):RepL.Shape X h vs ds:=r.ind rfl fun _ _ _ _ a r _=>⟨_,_,rfl,a,r⟩
theorem RepL.nI {vs:List Value} (r:RepL X h vs []):[]=vs:=r.inv
theorem RepL.cI {vs:List Value} {d:D} {ds:List D} (r:RepL X h vs (d::ds)):∃ v ws,v::ws=vs∧Rep X h v d∧RepL X h ws ds:=r.inv
end
theorem lenS {vs:List Value} {n:Nat} (h:vs.length=n+1):∃ a r,List.length r=n∧vs=a::r:=by
  cases vs with
  | nil=>cases h
  | cons a r=>exact ⟨a,r,Nat.succ.inj h,rfl⟩
theorem len1 {vs:List Value} (h:vs.length=1):∃ a,vs=[a]:=(lenS h).elim fun a q=>q.elim fun r q=>⟨a,q.2.trans (congrArg (a::·) (List.eq_nil_of_length_eq_zero q.1))⟩
theorem len2 {vs:List Value} (h:vs.length=2):∃ a b,vs=[a,b]:=(lenS h).elim fun a q=>q.elim fun r q=>(len1 q.1).elim fun b e=>⟨a,b,q.2.trans (congrArg (a::·) e)⟩
theorem len3 {vs:List Value} (h:vs.length=3):∃ a b c,vs=[a,b,c]:=(lenS h).elim fun a q=>q.elim fun r q=>(len2 q.1).elim fun b e=>e.elim fun c e=>⟨a,b,c,q.2.trans (congrArg (a::·) e)⟩
theorem len4 {vs:List Value} (h:vs.length=4):∃ a b c d,vs=[a,b,c,d]:=(lenS h).elim fun a q=>q.elim fun r q=>(len3 q.1).elim fun b e=>e.elim fun c e=>e.elim fun d e=>⟨a,b,c,d,q.2.trans (congrArg (a::·) e)⟩
theorem len7 {vs:List Value} (h:vs.length=7):∃ a b c d e f g,vs=[a,b,c,d,e,f,g]:=by
  obtain ⟨a,r,h1,rfl⟩:=lenS h
  obtain ⟨b,r2,h2,rfl⟩:=lenS h1
  obtain ⟨c,r3,h3,rfl⟩:=lenS h2
  obtain ⟨d,e,f,g,rfl⟩:=len4 h3
  exact ⟨a,b,c,d,e,f,g,rfl⟩
section
variable {X:List Addr} {h:Heap} {vs ws:List Value} {ds es:List D} {v:Value} {d:D}
theorem RepL.length (r:RepL X h vs ds):vs.length=ds.length:=r.ind (M:=fun vs ds=>vs.length=ds.length) rfl fun _ _ _ _ _ _ ih=>congrArg (·+1) ih
theorem RepL.append (r:RepL X h vs ds) (q:RepL X h ws es):RepL X h (vs++ws) (ds++es):=r.ind (M:=fun vs ds=>RepL X h (vs++ws) (ds++es)) q fun _ _ _ _ a _ ih=>.cons a ih
theorem RepL.snoc (r:RepL X h vs ds) (q:Rep X h v d):RepL X h (vs++[v]) (ds++[d]):=r.append (.cons q .nil)
theorem RepL.get (r:RepL X h vs ds) {k:Nat} {d:D} (hk:ds[k]?=some d):∃ v,vs[k]?=some v∧Rep X h v d :=
  r.ind (M:=fun vs ds=>∀ k,ds[k]?=some d→∃ v,vs[k]?=some v∧Rep X h v d) (fun _ e=>nomatch (List.getElem?_nil.symm.trans e)) (fun v _ _ _ a _ ih k=>Nat.casesOn k (fun e=>⟨v,rfl,Option.some.inj e ▸ a⟩) fun k e=>ih k e) k hk
theorem RepL.get' (r:RepL X h vs ds) {k:Nat} {v:Value} (hk:vs[k]?=some v):∃ d,ds[k]?=some d∧Rep X h v d :=
  r.ind (M:=fun vs ds=>∀ k,vs[k]?=some v→∃ d,ds[k]?=some d∧Rep X h v d) (fun _ e=>nomatch (List.getElem?_nil.symm.trans e)) (fun _ _ d _ a _ ih k=>Nat.casesOn k (fun e=>⟨d,rfl,Option.some.inj e ▸ a⟩) fun k e=>ih k e) k hk
theorem RepL.set (r:RepL X h vs ds) (k:Nat) (q:Rep X h v d):RepL X h (vs.set k v) (ds.set k d) :=
  r.ind (M:=fun vs ds=>∀ k,RepL X h (vs.set k v) (ds.set k d)) (fun _=>.nil) (fun _ _ _ _ a r ih k=>Nat.casesOn k (.cons q r) fun k=>.cons a (ih k)) k
theorem RepL.take (r:RepL X h vs ds) (k:Nat):RepL X h (vs.take k) (ds.take k) :=
  r.ind (M:=fun vs ds=>∀ k,RepL X h (vs.take k) (ds.take k)) (fun k=>Nat.casesOn k .nil fun _=>.nil) (fun _ _ _ _ a _ ih k=>Nat.casesOn k .nil fun k=>.cons a (ih k)) k
theorem RepL.drop (r:RepL X h vs ds) (k:Nat):RepL X h (vs.drop k) (ds.drop k) :=
  r.ind (M:=fun vs ds=>∀ k,RepL X h (vs.drop k) (ds.drop k)) (fun k=>Nat.casesOn k .nil fun _=>.nil) (fun _ _ _ _ a r ih k=>Nat.casesOn k (.cons a r) fun k=>ih k) k
theorem RepL.reverse (r:RepL X h vs ds):RepL X h vs.reverse ds.reverse :=
  r.ind (M:=fun vs ds=>RepL X h vs.reverse ds.reverse) .nil fun _ _ _ _ a _ ih=>by rw [List.reverse_cons,List.reverse_cons];exact ih.snoc a
end
structure Cx where
  prog:Program
  w:World
  K:Frag
  hb:Heap
  P:List Addr
  mg:Str→Option Value
  mb:Str→Option Value
  os:OsState
noncomputable abbrev Cx.M (C:Cx):Model:=model C.prog C.w
structure Base (C:Cx):Prop where
  g:C.hb.Ns mainGlobals C.mg
  b:C.hb.Ns builtinsNs C.mb
  lim:C.hb.NoLimit
  bi:∀ x:Str,x≠"__name__"→C.mb x=bootBuiltins x
  X:C.K.In C.hb
  gP:mainGlobals∉C.P
  bP:builtinsNs∉C.P
  sP:cStatics∉C.P
  KP:∀ a o,C.K.lookup a=some o→a∉C.P
noncomputable def Tab (C:Cx) (h:Heap) (p:Addr):Prop:=∃ c ps₀ more,c∉C.P∧C.hb.TableAt c p ps₀∧h.TableAt c p (ps₀++more)∧h.IsCode c p (ps₀++more)
structure Inv (C:Cx) (X:List Addr) (s:Shared):Prop where
  base:Base C
  keep:∀ b o,b∉C.P→C.hb.get? b=some o→s.heap.get? b=some o
  tab:∀ p∈C.P,Tab C s.heap p
  os:s.os=C.os
  gens:AllBare s.gens
  pin:∀ p∈C.P,p∈X
  new:∀ a∈X,a∉C.P→C.hb.get? a=none
  occ:∀ a∈X,∃ o,s.heap.get? a=some o
structure Ext (C:Cx) (S:List Addr) (s s':Shared):Prop where
  keep:∀ b o,b∉S→b∉C.P→s.heap.get? b=some o→s'.heap.get? b=some o
  occ:∀ b o,s.heap.get? b=some o→∃ o',s'.heap.get? b=some o'
  tab:(∀ p∈C.P,Tab C s.heap p)→∀ p∈C.P,Tab C s'.heap p
  os:s'.os=s.os
  gens:AllBare s.gens→AllBare s'.gens
theorem Tab.keeps {C:Cx} {h h':Heap} {p:Addr} (t:Tab C h p) (hk:∀ b o,h.get? b=some o→h'.get? b=some o):Tab C h' p:=by
  obtain ⟨c,ps₀,more,hc,a,b,i⟩:=t
  exact ⟨c,ps₀,more,hc,a,b.keeps hk,i.keeps hk⟩
theorem Ext.refl (C:Cx) (S:List Addr) (s:Shared):Ext C S s s:=⟨fun _ _ _ _ e=>e,fun _ o e=>⟨o,e⟩,fun t=>t,rfl,fun g=>g⟩
theorem Ext.trans {C:Cx} {S:List Addr} {s s₁ s₂:Shared} (a:Ext C S s s₁) (b:Ext C S s₁ s₂):Ext C S s s₂ :=
  ⟨fun x o h1 h2 e=>b.keep x o h1 h2 (a.keep x o h1 h2 e),fun x o e=>let ⟨o',e'⟩:=a.occ x o e;b.occ x o' e',fun t=>b.tab (a.tab t),b.os.trans a.os,fun g=>b.gens (a.gens g)⟩
theorem Ext.of_keeps {C:Cx} {S:List Addr} {s s':Shared} (k:∀ b o,s.heap.get? b=some o→s'.heap.get? b=some o) (os:s'.os=s.os) (g:s'.gens=s.gens):Ext C S s s' :=
  ⟨fun b o _ _ e=>k b o e,fun b o e=>⟨o,k b o e⟩,fun t p hp=>(t p hp).keeps k,os,fun x=>g ▸ x⟩
theorem Ext.up {C:Cx} {S:List Addr} {s:Shared} {h':Heap} {tk:Nat} (k:∀ b o,s.heap.get? b=some o→h'.get? b=some o):Ext C S s { s with heap:=h',toks:=tk }:=.of_keeps k rfl rfl
theorem Ext.tok {C:Cx} {S:List Addr} {s:Shared} {tk:Nat}:Ext C S s { s with toks:=tk }:=.of_keeps (fun _ _ e=>e) rfl rfl
theorem Ext.push {C:Cx} {S:List Addr} {s:Shared} {o:Obj} {tk:Nat}:Ext C S s { s with heap:=s.heap.push o,toks:=tk }:=.up fun _ _ e=>Heap.get?_push_of_some _ e
theorem Ext.push' {C:Cx} {S:List Addr} {s:Shared} {o:Obj}:Ext C S s { s with heap:=s.heap.push o }:=.up fun _ _ e=>Heap.get?_push_of_some _ e
theorem Ext.wider {C:Cx} {S S':List Addr} {s s':Shared} (a:Ext C S s s') (h:∀ b∈S,b∈S'∨s.heap.get? b=none):Ext C S' s s' :=
  ⟨fun b o h1 h2 e=>a.keep b o (fun hb=>(h b hb).elim h1 fun z=>by rw [z] at e;cases e) h2 e,a.occ,a.tab,a.os,a.gens⟩
theorem Ext.same {C : Cx} {S : List Addr} {s : Shared} {h' : Heap} {tk : Nat} {a : Addr} (hs : Heap.SameBut a s.heap h') (ha : a ∈ S) (hn : C.hb.get? a = none)
    (ho:∀ o,s.heap.get? a=some o→∃ o',h'.get? a=some o'):Ext C S s { s with heap:=h',toks:=tk }:=by
  refine ⟨fun b o h1 _ e=>(hs.2 b (fun q=>h1 (q ▸ ha))).trans e,fun b o e=>?_,fun t p hp=>?_,rfl,fun g=>g⟩
  · by_cases q:b=a
    · subst q;exact ho o e
    · exact ⟨o,(hs.2 b q).trans e⟩
  · obtain ⟨c,ps₀,more,hc,x,y,i⟩:=t p hp
    have hca:c≠a:=by
      rintro rfl
      obtain ⟨⟨o,vs,e,_⟩,_⟩:=x
      rw [hn] at e;cases e
    have hpa:p≠a:=by
      rintro rfl
      obtain ⟨_,e⟩:=x
      rw [hn] at e;cases e
    refine ⟨c,ps₀,more,hc,x,y.sameBut hs hca hpa,?_⟩
    exact i.extBut hs.extBut hca hpa
section
variable {C:Cx} {X S:List Addr} {s s':Shared}
theorem Inv.ext (I:Inv C X s) (e:Ext C S s s') (hS:∀ a∈S,C.hb.get? a=none):Inv C X s' where
  base:=I.base
  keep:=fun b o hb h=>e.keep b o (fun q=>by rw [hS b q] at h;cases h) hb (I.keep b o hb h)
  tab:=e.tab I.tab
  os:=e.os.trans I.os
  gens:=e.gens I.gens
  pin:=I.pin
  new:=I.new
  occ:=fun a ha=>let ⟨o,h⟩:=I.occ a ha;e.occ a o h
theorem Inv.ext0 (I:Inv C X s) (e:Ext C [] s s'):Inv C X s':=I.ext e fun _ h=>nomatch h
theorem Rep.ext {v:Value} {d:D} (r:Rep X s.heap v d) (e:Ext C S s s') (hS:∀ a∈S,a∈X) (hP:∀ p∈C.P,p∈X):Rep X s'.heap v d :=
  r.mono fun b o hb h=>⟨hb,e.keep b o (fun q=>hb (hS b q)) (fun q=>hb (hP b q)) h⟩
theorem RepL.ext {v:List Value} {d:List D} (r:RepL X s.heap v d) (e:Ext C S s s') (hS:∀ a∈S,a∈X) (hP:∀ p∈C.P,p∈X):RepL X s'.heap v d :=
  r.mono fun b o hb h=>⟨hb,e.keep b o (fun q=>hb (hS b q)) (fun q=>hb (hP b q)) h⟩
end
noncomputable abbrev NoE:Value→Shared→Prop:=fun _ _=>False
end Mine
end
section
open PySem PySem.Calls PySem.W PyProof.Rows
namespace Mine
structure Room (A:Around) (k:Nat):Prop where
  h:A.handled=none
  d:A.depth+10*k≤900
  u:A.units+100*k≤9000
  g:A.guards=some []
noncomputable def Bound (h:Heap) (env:Env) (x:Str) (v:Value):Prop :=
  (env.kindOf x=some .local∧∃ m,h.Ns env.locals m∧m x=some v) ∨
  ((env.kindOf x=some .cell∨env.kindOf x=some .free)∧∃ c,env.cells.lookup x=some c∧h.IsCell c (some v))
structure EnvOk (C:Cx) (X:List Addr) (h:Heap) (env:Env):Prop where
  kind:env.scope.kind=.function
  glob:env.globals=mainGlobals
  bi:env.builtins=builtinsNs
  ns:∃ m,h.Ns env.locals m
  inX:env.locals∈X
  lP:env.locals∉C.P
  cel:∀ x c,env.cells.lookup x=some c→c∉C.P∧c≠env.locals∧∃ v,h.IsCell c v
  own:∀ x c,env.kindOf x=some .cell→env.cells.lookup x=some c→c∈X
  inj:∀ x y c,env.cells.lookup x=some c→env.cells.lookup y=some c→x=y
inductive Mut where
  | lst (ds:List D)
  | acc (cls:Addr) (dx:Addr) (ds:List D)
  | inst (cls:Addr) (dx:Addr)
  | ba (b:Array UInt8)
  | obj (o:Obj) (dx:Addr) (od:Obj)
noncomputable def Mut.more:Mut→List Addr
  | .acc _ dx _=>[dx]
  | .inst _ dx=>[dx]
  | .obj _ dx _=>[dx]
  | _=>[]
noncomputable def doms (μ:List (Addr × Mut)):List Addr:=μ.flatMap fun p=>p.1::p.2.more
noncomputable def accO (cls dx:Addr) (vs:List Value) (n:Nat):Obj:={ cls:=.ref cls,dict:=some dx,data:=.seq vs.toArray n }
noncomputable def MutOk (X:List Addr) (h:Heap) (a:Addr):Mut→Prop
  | .lst ds=>∃ vs n,h.get? a=some (lstO vs n)∧RepL X h vs ds
  | .acc cls dx ds=>(∃ vs n,h.get? a=some (accO cls dx vs n)∧RepL X h vs ds)∧dx≠a∧∃ (hsh:Int) (t u:Tok) (n:Nat),h.get? dx=some (dictOf [⟨hsh,.str "_initial_size" t,.int 0 u⟩] n)
  | .inst cls dx=>(∃ sl,h.get? a=some ⟨.ref cls,some dx,.plain,sl⟩)∧dx≠a∧∃ (hsh:Int) (t:Tok) (v:Value) (n:Nat),h.get? dx=some (dictOf [⟨hsh,.str "passwd" t,v⟩] n)
  | .ba b=>∃ n,h.get? a=some { cls:=.type "bytearray",data:=.bytearray b n }
  | .obj o dx od=>h.get? a=some o∧dx≠a∧h.get? dx=some od
structure G where
  C:Cx
  A:Around
  X:List Addr
  env:Env
  ns:List Str
structure St (g:G) (ρ:List (Option D)) (μ:List (Addr × Mut)) (s:Shared):Prop where
  inv:Inv g.C g.X s
  envOk:EnvOk g.C g.X s.heap g.env
  vars:∀ (i:Nat) x d,g.ns[i]?=some x→ρ[i]?=some (some d)→∃ v,Bound s.heap g.env x v∧Rep g.X s.heap v d
  muts:∀ p∈μ,MutOk g.X s.heap p.1 p.2
  mX:∀ a∈doms μ,a∈g.X∧a∉g.C.P∧a≠g.env.locals∧∀ x c,g.env.cells.lookup x=some c→a≠c
  apart:(doms μ).Nodup
  nd:g.ns.Nodup
theorem Bound.ext {C : Cx} {S X : List Addr} {s s' : Shared} {env : Env} {x : Str} {v : Value} (b : Bound s.heap env x v) (e : Ext C S s s') (k : EnvOk C X s.heap env)
    (hL:env.locals∉S) (hC:∀ y c,env.cells.lookup y=some c→c∉S):Bound s'.heap env x v:=by
  rcases b with ⟨hk,m,hn,hm⟩ | ⟨hk,c,hc,o,ho,hd⟩
  · exact .inl ⟨hk,m,hn.at' fun o e'=>e.keep _ o hL k.lP e',hm⟩
  · exact .inr ⟨hk,c,hc,o,e.keep _ o (hC _ _ hc) (k.cel _ _ hc).1 ho,hd⟩
theorem EnvOk.ext {C : Cx} {S X : List Addr} {s s' : Shared} {env : Env} (k : EnvOk C X s.heap env) (e : Ext C S s s') (hL : env.locals ∉ S) (hC : ∀ y c, env.cells.lookup y = some c → c ∉ S) :
    EnvOk C X s'.heap env where
  kind:=k.kind
  glob:=k.glob
  bi:=k.bi
  ns:=let ⟨m,hn⟩:=k.ns;⟨m,hn.at' fun o e'=>e.keep _ o hL k.lP e'⟩
  inX:=k.inX
  lP:=k.lP
  cel:=fun x c h=>let ⟨a,b,v,o,ho,hd⟩:=k.cel x c h;⟨a,b,v,o,e.keep _ o (hC _ _ h) a ho,hd⟩
  own:=k.own
  inj:=k.inj
theorem nil_doms {l:List Addr} {b:Addr} (h:b∈l++doms []):b∈l:=(List.mem_append.mp h).elim id fun q=>nomatch q
theorem one_dom {a b:Addr} {ds:List D} (h:b∈doms [(a,.lst ds)]):b=a:=List.mem_singleton.mp h
theorem ba_dom {a b:Addr} {ds:Array UInt8} (h:b∈doms [(a,.ba ds)]):b=a:=List.mem_singleton.mp h
theorem inst_dom {a b c d:Addr} (h:b∈doms [(a,.inst c d)]):b=a∨b=d:=(List.mem_cons.mp h).imp id List.mem_singleton.mp
theorem mem_doms {μ:List (Addr × Mut)} {p:Addr × Mut} (h:p∈μ):p.1∈doms μ:=List.mem_flatMap.mpr ⟨p,h,.head _⟩
theorem more_doms {μ:List (Addr × Mut)} {p:Addr × Mut} {b:Addr} (h:p∈μ) (hb:b∈p.2.more):b∈doms μ:=List.mem_flatMap.mpr ⟨p,h,.tail _ hb⟩
theorem MutOk.mono {X : List Addr} {h h' : Heap} {a : Addr} {m : Mut} (x : MutOk X h a m) (ha : ∀ o, h.get? a = some o → h'.get? a = some o) (hm : ∀ b ∈ m.more, ∀ o, h.get? b = some o → h'.get? b = some o)
    (hk:∀ b o,b∉X→h.get? b=some o→h'.get? b=some o):MutOk X h' a m:=by
  cases m with
  | lst ds=>obtain ⟨vs,n,e,r⟩:=x;exact ⟨vs,n,ha _ e,r.mono fun b o hb e=>⟨hb,hk b o hb e⟩⟩
  | acc cls dx ds =>
    obtain ⟨⟨vs,n,e,r⟩,hne,hsh,t,u,n',e2⟩:=x
    exact ⟨⟨vs,n,ha _ e,r.mono fun b o hb e=>⟨hb,hk b o hb e⟩⟩,hne,hsh,t,u,n',hm dx (.head _) _ e2⟩
  | inst cls dx =>
    obtain ⟨⟨sl,e⟩,hne,hsh,t,v,n,e2⟩:=x
    exact ⟨⟨sl,ha _ e⟩,hne,hsh,t,v,n,hm dx (.head _) _ e2⟩
  | ba b=>obtain ⟨n,e⟩:=x;exact ⟨n,ha _ e⟩
  | obj o dx od=>exact ⟨ha _ x.1,x.2.1,hm dx (.head _) _ x.2.2⟩
theorem St.ext {g:G} {ρ:List (Option D)} {μ:List (Addr × Mut)} {s s':Shared} (x:St g ρ μ s) (e:Ext g.C [] s s'):St g ρ μ s' where
  inv:=x.inv.ext0 e
  envOk:=x.envOk.ext e (fun h=>nomatch h) fun _ _ _ h=>nomatch h
  vars:=fun i y d h1 h2=>let ⟨v,b,r⟩:=x.vars i y d h1 h2;⟨v,b.ext e x.envOk (fun h=>nomatch h) (fun _ _ _ h=>nomatch h),r.ext e (fun _ h=>nomatch h) x.inv.pin⟩
  muts:=fun p hp=>(x.muts p hp).mono (fun o h=>e.keep _ o (fun h=>nomatch h) (x.mX _ (mem_doms hp)).2.1 h) (fun b hb o h=>e.keep _ o (fun h=>nomatch h) (x.mX _ (more_doms hp hb)).2.1 h)
    fun b o hb h=>e.keep _ o (fun h=>nomatch h) (fun q=>hb (x.inv.pin _ q)) h
  mX:=x.mX
  apart:=x.apart
  nd:=x.nd
noncomputable def Dn {α:Type} (C:Cx) (A:Around) (S:List Addr) (s:Shared) (t:Sem α) (Φ:α→Shared→Prop):Prop :=
  wpAny C.M A t (fun v s'=>Ext C S s s'∧Φ v s') NoE s
section
variable {α β:Type} {C:Cx} {A:Around} {S:List Addr} {s:Shared} {t:Sem α} {Φ Ψ:α→Shared→Prop}
theorem Dn.mono (h:Dn C A S s t Φ) (k:∀ v s',Ext C S s s'→Φ v s'→Ψ v s'):Dn C A S s t Ψ:=wpAny_mono h (fun _ _ q=>⟨q.1,k _ _ q.1 q.2⟩) fun _ _ e=>e
theorem Dn.use (h:Dn C A S s t Φ) {Q:α→Shared→Prop} {E:Value→Shared→Prop} (k:∀ v s',Ext C S s s'→Φ v s'→Q v s'):wpAny C.M A t Q E s:=wpAny_mono h (fun _ _ q=>k _ _ q.1 q.2) fun _ _ e=>e.elim
theorem Dn.bind {f:α→Sem β} {Ψ:β→Shared→Prop} (h:Dn C A S s t fun v s'=>Dn C A S s' (f v) Ψ):Dn C A S s (t >>= f) Ψ :=
  wpAny_bind (wpAny_mono h (fun _ _ q=>wpAny_mono q.2 (fun _ _ z=>⟨q.1.trans z.1,z.2⟩) fun _ _ e=>e) fun _ _ e=>e)
theorem Dn.pure {a:α} (h:Φ a s):Dn C A S s (Pure.pure a) Φ:=wpAny_pure ⟨.refl C S s,h⟩
theorem Dn.wider {S':List Addr} (h:Dn C A S s t Φ) (k:∀ b∈S,b∈S'∨s.heap.get? b=none):Dn C A S' s t Φ:=wpAny_mono h (fun _ _ q=>⟨q.1.wider k,q.2⟩) fun _ _ e=>e
theorem Dn.wide (h:Dn C A [] s t Φ):Dn C A S s t Φ:=h.wider fun _ h=>nomatch h
end
noncomputable def Ev (g:G) (ρ:List (Option D)) (μ:List (Addr × Mut)) (e:Expr) (d:D):Prop:=∀ s,St g ρ μ s→Dn g.C g.A [] s (eval e g.env) fun v s'=>Rep g.X s'.heap v d
noncomputable def EvT (g:G) (ρ:List (Option D)) (μ:List (Addr × Mut)) (e:Expr) (b:Bool):Prop:=∀ s,St g ρ μ s→Dn g.C g.A [] s (isTrue e g.env (eval e g.env)) fun v _=>v=b
noncomputable def Bin (op:Operator) (a b d:D):Prop:=∀ (C:Cx) (A:Around) X s va vb,Inv C X s→Room A 0→Rep X s.heap va a→Rep X s.heap vb b→Dn C A [] s (binaryOp op va vb) fun v s'=>Rep X s'.heap v d
noncomputable def Cmp (op:CmpOp) (a b d:D):Prop:=∀ (C:Cx) (A:Around) X s va vb,Inv C X s→Room A 0→Rep X s.heap va a→Rep X s.heap vb b→Dn C A [] s (compareOp op va vb) fun v s'=>Rep X s'.heap v d
noncomputable def Tru (a:D) (b:Bool):Prop:=∀ (C:Cx) (A:Around) X s va,Inv C X s→Room A 0→Rep X s.heap va a→Dn C A [] s (truthy va) fun v _=>v=b
section
variable {g:G} {ρ:List (Option D)} {μ:List (Addr × Mut)}
theorem Ev.dn {e : Expr} {d : D} {s : Shared} (h : Ev g ρ μ e d) (x : St g ρ μ s) {β : Type} {f : Value → Sem β} {S : List Addr} {Ψ : β → Shared → Prop}
    (k:∀ v s',St g ρ μ s'→Rep g.X s'.heap v d→Ext g.C [] s s'→Dn g.C g.A S s' (f v) Ψ):Dn g.C g.A S s (eval e g.env >>= f) Ψ :=
  Dn.bind (wpAny_mono (h s x) (fun v s' q=>⟨q.1.wider (fun _ h=>nomatch h),k v s' (x.ext q.1) q.2 q.1⟩) fun _ _ e=>e)
theorem Ev.wp {e : Expr} {d : D} {s : Shared} (h : Ev g ρ μ e d) (x : St g ρ μ s) {Q : Value → Shared → Prop} {E : Value → Shared → Prop}
    (k:∀ v s',St g ρ μ s'→Rep g.X s'.heap v d→Ext g.C [] s s'→Q v s'):wpAny g.C.M g.A (eval e g.env) Q E s :=
  (h s x).use fun v s' q r=>k v s' (x.ext q) r q
theorem EvT.wp {e : Expr} {b : Bool} {s : Shared} (h : EvT g ρ μ e b) (x : St g ρ μ s) {Q : Bool → Shared → Prop} {E : Value → Shared → Prop}
    (k:∀ s',St g ρ μ s'→Ext g.C [] s s'→Q b s'):wpAny g.C.M g.A (isTrue e g.env (eval e g.env)) Q E s :=
  (h s x).use fun v s' q r=>by subst r;exact k s' (x.ext q) q
theorem Ev.name (i : Nat) {x : Str} {pos : Pos} {d : D} (h1 : g.ns[i]? = some x) (h2 : ρ[i]? = some (some d)) (hd : (x == ("__debug__" : Str)) = false := by decide)
    (hc:(x == ("__classdict__":Str))=false:=by decide):Ev g ρ μ (.Name x pos) d:=fun s y=>by
  obtain ⟨v,b,r⟩:=y.vars i x d h1 h2
  refine wpAny_Name ?_ hd
  rcases b with ⟨hk,m,hn,hm⟩ | ⟨hk | hk,c,hcl,hv⟩
  · exact wpAny_loadName_local y.envOk.kind hk hn hm ⟨.refl ..,r⟩
  · exact wpAny_loadName_cell y.envOk.kind hk hcl hv ⟨.refl ..,r⟩
  · exact wpAny_loadName_free y.envOk.kind hk hcl hv ⟨.refl ..,r⟩ hc
theorem St.mg {s:Shared} (y:St g ρ μ s):s.heap.Ns mainGlobals g.C.mg:=y.inv.base.g.at' fun o e=>y.inv.keep _ o y.inv.base.gP e
theorem St.mb {s:Shared} (y:St g ρ μ s):s.heap.Ns builtinsNs g.C.mb:=y.inv.base.b.at' fun o e=>y.inv.keep _ o y.inv.base.bP e
theorem Ev.glob {x:Str} {pos:Pos} {v:Value} (h:g.C.mg x=some v) (hx:g.env.kindOf x=some .globalImplicit) (hd:(x == ("__debug__":Str))=false:=by decide):Ev g ρ μ (.Name x pos) (.val v):=fun s y =>
  Name_function_global y.envOk.kind hx (loadGlobal_global (by rw [y.envOk.glob];exact y.mg) h ⟨.refl ..,.val v⟩) hd
theorem Ev.bltn {x : Str} {pos : Pos} {v : Value} (h : g.C.mg x = none) (hb : bootBuiltins x = some v) (hx : g.env.kindOf x = some .globalImplicit) (hn : x ≠ "__name__" := by decide) (hd : (x == ("__debug__" : Str)) = false := by decide) :
    Ev g ρ μ (.Name x pos) (.val v):=fun s y =>
  Name_function_global y.envOk.kind hx (loadGlobal_builtin (by rw [y.envOk.glob];exact y.mg) h (by rw [y.envOk.bi];exact y.mb) ((y.inv.base.bi x hn).trans hb) ⟨.refl ..,.val v⟩) hd
theorem Ev.int {i:Int} {k:Nat} {pos:Pos}:Ev g ρ μ (.Constant (.int i) k pos) (.int i):=fun s _=>wpAny_Constant_int (env:=g.env) (k:=k) (pos:=pos) ⟨.tok,.int ..⟩
theorem Ev.str {x:Str} {k:Nat} {pos:Pos}:Ev g ρ μ (.Constant (.str x) k pos) (.str x):=fun s _=>Constant_str ⟨.tok,.str ..⟩
theorem Ev.none {k:Nat} {pos:Pos}:Ev g ρ μ (.Constant .none k pos) D.nil:=fun s _=>wpAny_Constant_none ⟨.refl ..,.val _⟩
theorem Ev.bool {b:Bool} {k:Nat} {pos:Pos}:Ev g ρ μ (.Constant (.bool b) k pos) (D.bool b):=fun s _=>wpAny_Constant_bool ⟨.refl ..,.val _⟩
theorem Ev.bin {l r:Expr} {op:Operator} {pos:Pos} {a b d:D} (R:Room g.A 0) (hl:Ev g ρ μ l a) (hr:Ev g ρ μ r b) (o:Bin op a b d):Ev g ρ μ (.BinOp l op r pos) d:=fun s x =>
  wpAny_BinOp (hl.wp x fun va s₁ x₁ r₁ e₁=>hr.wp x₁ fun vb s₂ x₂ r₂ e₂=>(o _ _ _ _ _ _ x₂.inv R (r₁.ext e₂ (fun _ h=>nomatch h) x₁.inv.pin) r₂).use fun v s₃ e₃ r₃=>⟨(e₁.trans e₂).trans e₃,r₃⟩)
theorem Ev.cmp {l r:Expr} {op:CmpOp} {pos:Pos} {a b d:D} (R:Room g.A 0) (hl:Ev g ρ μ l a) (hr:Ev g ρ μ r b) (o:Cmp op a b d) (hm:behindInMarks op r=false:=by with_unfolding_all rfl):Ev g ρ μ (.Compare l [op] [r] pos) d:=fun s x =>
  wpAny_Compare1 (hl.wp x fun va s₁ x₁ r₁ e₁=>hr.wp x₁ fun vb s₂ x₂ r₂ e₂=>(o _ _ _ _ _ _ x₂.inv R (r₁.ext e₂ (fun _ h=>nomatch h) x₁.inv.pin) r₂).use fun v s₃ e₃ r₃=>⟨(e₁.trans e₂).trans e₃,r₃⟩) hm
theorem EvT.cmp {l r : Expr} {op : CmpOp} {pos : Pos} {a b : D} {c : Bool} (R : Room g.A 0) (hl : Ev g ρ μ l a) (hr : Ev g ρ μ r b) (o : Cmp op a b (D.bool c)) (hm : behindInMarks op r = false := by with_unfolding_all rfl) :
    EvT g ρ μ (.Compare l [op] [r] pos) c:=fun s x =>
  wpAny_isTrue_Compare1 (hl.wp x fun va s₁ x₁ r₁ e₁=>hr.wp x₁ fun vb s₂ x₂ r₂ e₂=>(o _ _ _ _ _ _ x₂.inv R (r₁.ext e₂ (fun _ h=>nomatch h) x₁.inv.pin) r₂).use fun v s₃ e₃ r₃=>by
    (first | obtain rfl:=r₃.vI | obtain ⟨_,rfl⟩:=r₃.iI | obtain ⟨_,rfl⟩:=r₃.sI | obtain ⟨_,rfl⟩:=r₃.bI | obtain rfl:=r₃.nI | cases r₃);exact wpAny_truthy_bool ⟨(e₁.trans e₂).trans e₃,rfl⟩) hm
theorem EvT.not {e:Expr} {pos:Pos} {b:Bool} (h:EvT g ρ μ e b):EvT g ρ μ (.UnaryOp .Not e pos) (!b):=fun s x=>wpAny_isTrue_Not (h.wp x fun s' _ e=>⟨e,rfl⟩)
theorem EvT.val {e:Expr} {d:D} {b:Bool} (R:Room g.A 0) (h:Ev g ρ μ e d) (t:Tru d b) (he:isTrue e g.env (eval e g.env)=(do let v ← eval e g.env;standAt e.pos;holding [v] (truthy v)):=by rfl):EvT g ρ μ e b:=fun s x =>
  wpAny_isTrue_value (h.wp x fun v s₁ x₁ r₁ e₁=>(t _ _ _ _ _ x₁.inv R r₁).use fun v s₂ e₂ r₂=>⟨e₁.trans e₂,r₂⟩) he
theorem Tru.bool (b:Bool):Tru (D.bool b) b:=fun C A X s va _ _ r=>by (first | obtain rfl:=r.vI | obtain ⟨_,rfl⟩:=r.iI | obtain ⟨_,rfl⟩:=r.sI | obtain ⟨_,rfl⟩:=r.bI | obtain rfl:=r.nI | cases r);exact wpAny_truthy_bool ⟨.refl ..,rfl⟩
noncomputable def EvAnd (g:G) (ρ:List (Option D)) (μ:List (Addr × Mut)) (es:List Expr) (b:Bool):Prop:=∀ s,St g ρ μ s→Dn g.C g.A [] s (allTrue .And es g.env) fun v _=>v=b
noncomputable def EvOr (g:G) (ρ:List (Option D)) (μ:List (Addr × Mut)) (es:List Expr) (b:Bool):Prop:=∀ s,St g ρ μ s→Dn g.C g.A [] s (allTrue .Or es g.env) fun v _=>v=b
theorem EvAnd.nil:EvAnd g ρ μ [] true:=fun s _=>wpAny_allTrue_And_nil ⟨.refl ..,rfl⟩
theorem EvOr.nil:EvOr g ρ μ [] false:=fun s _=>wpAny_allTrue_Or_nil ⟨.refl ..,rfl⟩
theorem EvAnd.cons {e:Expr} {es:List Expr} {a b:Bool} (h:EvT g ρ μ e a) (k:a=true→EvAnd g ρ μ es b):EvAnd g ρ μ (e::es) (a && b):=fun s x=>wpAny_allTrue_And_cons (h.wp x fun s₁ x₁ e₁=>by
  cases a with
  | true=>exact (k rfl s₁ x₁).use fun v s₂ e₂ r=>⟨e₁.trans e₂,r⟩
  | false=>exact ⟨e₁,rfl⟩)
theorem EvOr.cons {e:Expr} {es:List Expr} {a b:Bool} (h:EvT g ρ μ e a) (k:a=false→EvOr g ρ μ es b):EvOr g ρ μ (e::es) (a || b):=fun s x=>wpAny_allTrue_Or_cons (h.wp x fun s₁ x₁ e₁=>by
  cases a with
  | true=>exact ⟨e₁,rfl⟩
  | false=>exact (k rfl s₁ x₁).use fun v s₂ e₂ r=>⟨e₁.trans e₂,r⟩)
theorem EvT.and {es:List Expr} {pos:Pos} {b:Bool} (h:EvAnd g ρ μ es b):EvT g ρ μ (.BoolOp .And es pos) b:=fun s x=>wpAny_isTrue_BoolOp (h s x)
theorem EvT.or {es:List Expr} {pos:Pos} {b:Bool} (h:EvOr g ρ μ es b):EvT g ρ μ (.BoolOp .Or es pos) b:=fun s x=>wpAny_isTrue_BoolOp (h s x)
theorem boolOp_cons2 (pos : Pos) (op : BoolOp) (x y : Sem Value) (rest : List (Sem Value)) : boolOp pos op (x :: y :: rest) = (do
    let v ← x
    standAt pos
    let t ← holding [v] (truthy v)
    match op,t with
    | .And,false | .Or,true=>pure v
    | _,_=>boolOp pos op (y::rest)):=rfl
noncomputable def EvAndV (g:G) (ρ:List (Option D)) (μ:List (Addr × Mut)) (pos:Pos) (es:List Expr) (d:D):Prop:=∀ s,St g ρ μ s→Dn g.C g.A [] s (boolOp pos .And (evalEach es g.env)) fun v s'=>Rep g.X s'.heap v d
noncomputable def EvOrV (g:G) (ρ:List (Option D)) (μ:List (Addr × Mut)) (pos:Pos) (es:List Expr) (d:D):Prop:=∀ s,St g ρ μ s→Dn g.C g.A [] s (boolOp pos .Or (evalEach es g.env)) fun v s'=>Rep g.X s'.heap v d
theorem EvAndV.one {pos:Pos} {e:Expr} {d:D} (h:Ev g ρ μ e d):EvAndV g ρ μ pos [e] d:=fun s x=>h s x
theorem EvOrV.one {pos:Pos} {e:Expr} {d:D} (h:Ev g ρ μ e d):EvOrV g ρ μ pos [e] d:=fun s x=>h s x
theorem EvAndV.cons {pos:Pos} {e e':Expr} {es:List Expr} {a b:Bool} (h:Ev g ρ μ e (D.bool a)) (k:a=true→EvAndV g ρ μ pos (e'::es) (D.bool b)):EvAndV g ρ μ pos (e::e'::es) (D.bool (a && b)):=fun s x=>by
  show Dn g.C g.A [] s (boolOp pos .And (eval e g.env::eval e' g.env::evalEach es g.env)) _
  rw [boolOp_cons2]
  refine wpAny_bind (h.wp x fun v s₁ x₁ r e₁=>wpAny_bind (wpAny_standAt (wpAny_bind (wpAny_holding ?_))))
  (first | obtain rfl:=r.vI | obtain ⟨_,rfl⟩:=r.iI | obtain ⟨_,rfl⟩:=r.sI | obtain ⟨_,rfl⟩:=r.bI | obtain rfl:=r.nI | cases r)
  refine wpAny_truthy_bool ?_
  cases a with
  | true=>exact (k rfl s₁ x₁).use fun v s₂ e₂ r=>⟨e₁.trans e₂,r⟩
  | false=>exact wpAny_pure ⟨e₁,.val _⟩
theorem EvOrV.cons {pos:Pos} {e e':Expr} {es:List Expr} {a b:Bool} (h:Ev g ρ μ e (D.bool a)) (k:a=false→EvOrV g ρ μ pos (e'::es) (D.bool b)):EvOrV g ρ μ pos (e::e'::es) (D.bool (a || b)):=fun s x=>by
  show Dn g.C g.A [] s (boolOp pos .Or (eval e g.env::eval e' g.env::evalEach es g.env)) _
  rw [boolOp_cons2]
  refine wpAny_bind (h.wp x fun v s₁ x₁ r e₁=>wpAny_bind (wpAny_standAt (wpAny_bind (wpAny_holding ?_))))
  (first | obtain rfl:=r.vI | obtain ⟨_,rfl⟩:=r.iI | obtain ⟨_,rfl⟩:=r.sI | obtain ⟨_,rfl⟩:=r.bI | obtain rfl:=r.nI | cases r)
  refine wpAny_truthy_bool ?_
  cases a with
  | true=>exact wpAny_pure ⟨e₁,.val _⟩
  | false=>exact (k rfl s₁ x₁).use fun v s₂ e₂ r=>⟨e₁.trans e₂,r⟩
theorem Ev.and {es:List Expr} {pos:Pos} {d:D} (h:EvAndV g ρ μ pos es d):Ev g ρ μ (.BoolOp .And es pos) d:=fun s x=>h s x
theorem Ev.or {es:List Expr} {pos:Pos} {d:D} (h:EvOrV g ρ μ pos es d):Ev g ρ μ (.BoolOp .Or es pos) d:=fun s x=>h s x
theorem Ev.ite {t b o:Expr} {pos:Pos} {c:Bool} {d:D} (h:EvT g ρ μ t c) (h1:c=true→Ev g ρ μ b d) (h2:c=false→Ev g ρ μ o d):Ev g ρ μ (.IfExp t b o pos) d:=fun s x=>wpAny_IfExp (h.wp x fun s₁ x₁ e₁=>by
  cases c with
  | true=>exact (h1 rfl s₁ x₁).use fun v s₂ e₂ r=>⟨e₁.trans e₂,r⟩
  | false=>exact (h2 rfl s₁ x₁).use fun v s₂ e₂ r=>⟨e₁.trans e₂,r⟩)
theorem Ev.not {e:Expr} {pos:Pos} {d:D} {b:Bool} (R:Room g.A 0) (h:Ev g ρ μ e d) (t:Tru d b):Ev g ρ μ (.UnaryOp .Not e pos) (D.bool (!b)):=fun s x =>
  wpAny_UnaryOp (h.wp x fun v s₁ x₁ r e₁=>not_value ((t _ _ _ _ _ x₁.inv R r).use fun v s₂ e₂ q=>by subst q;exact ⟨e₁.trans e₂,.val _⟩))
noncomputable def EvL (g:G) (ρ:List (Option D)) (μ:List (Addr × Mut)) (pos:Pos) (es:List Expr) (ds:List D):Prop:=∀ s,St g ρ μ s→Dn g.C g.A [] s (spliced (backTo pos (starEach es g.env))) fun vs s'=>RepL g.X s'.heap vs ds
theorem EvL.nil {pos:Pos}:EvL g ρ μ pos [] []:=fun s _=>spliced_nil ⟨.refl ..,.nil⟩
theorem EvL.cons {pos : Pos} {e : Expr} {es : List Expr} {d : D} {ds : List D} (h : Ev g ρ μ e d) (k : EvL g ρ μ pos es ds) (he : starEach (e :: es) g.env = (false, eval e g.env) :: starEach es g.env := by rfl) :
    EvL g ρ μ pos (e::es) (d::ds):=fun s x=>by
  show wpAny _ _ (spliced (backTo pos (starEach (e::es) g.env))) _ _ _
  rw [he]
  exact spliced_cons (h.wp x fun v s₁ x₁ r e₁=>(k s₁ x₁).use fun vs s₂ e₂ q=>⟨e₁.trans e₂,.cons (r.ext e₂ (fun _ h=>nomatch h) x₁.inv.pin) q⟩)
theorem Inv.fresh {C:Cx} {X:List Addr} {s:Shared} (I:Inv C X s):s.heap.objs.size∉X:=fun h=>by
  obtain ⟨o,e⟩:=I.occ _ h
  exact Nat.lt_irrefl _ (Heap.lt_size e)
theorem newTuple_rep {C:Cx} {A:Around} {X:List Addr} {s:Shared} {vs:List Value} {ds:List D} (I:Inv C X s) (r:RepL X s.heap vs ds) (hsz:ds.length≤sizeLine):Dn C A [] s (newTuple vs) fun v s'=>Rep X s'.heap v (.tup ds) :=
  wpAny_newObj_type ⟨.push',.tup I.fresh (Heap.get?_push_size _ rfl) (r.mono fun b o hb e=>⟨hb,Heap.get?_push_of_some _ e⟩)⟩ (by show vs.toArray.size≤sizeLine;rw [List.size_toArray,r.length];exact hsz)
theorem newList_rep {C:Cx} {A:Around} {X:List Addr} {s:Shared} {vs:List Value} {ds:List D} (I:Inv C X s) (r:RepL X s.heap vs ds) (hsz:ds.length≤sizeLine):Dn C A [] s (newList vs) fun v s'=>Rep X s'.heap v (.lst ds) :=
  wpAny_newObj_type ⟨.push',.lst I.fresh (Heap.get?_push_size _ rfl) (r.mono fun b o hb e=>⟨hb,Heap.get?_push_of_some _ e⟩)⟩ (by show vs.toArray.size≤sizeLine;rw [List.size_toArray,r.length];exact hsz)
theorem Ev.tup {es:List Expr} {k:Nat} {pos:Pos} {ds:List D} (h:EvL g ρ μ pos es ds) (hsz:ds.length≤sizeLine:=by decide):Ev g ρ μ (.Tuple es k pos) (.tup ds):=fun s x =>
  Tuple_ ((h s x).use fun vs s₁ e₁ r=>(newTuple_rep (x.ext e₁).inv r hsz).use fun v s₂ e₂ q=>⟨e₁.trans e₂,q⟩)
theorem Ev.lst {es:List Expr} {pos:Pos} {ds:List D} (h:EvL g ρ μ pos es ds) (hsz:ds.length≤sizeLine:=by decide):Ev g ρ μ (.List es pos) (.lst ds):=fun s x =>
  List_ ((h s x).use fun vs s₁ e₁ r=>(newList_rep (x.ext e₁).inv r hsz).use fun v s₂ e₂ q=>⟨e₁.trans e₂,q⟩)
noncomputable def Sub (value slice:Expr) (a b d:D):Prop:=∀ (C:Cx) (A:Around) X s va vb,Inv C X s→Room A 0→Rep X s.heap va a→Rep X s.heap vb b→Dn C A [] s (subscriptTail value slice va vb) fun v s'=>Rep X s'.heap v d
theorem Ev.sub {v i:Expr} {pos:Pos} {a b d:D} (R:Room g.A 0) (hl:Ev g ρ μ v a) (hr:Ev g ρ μ i b) (o:Sub v i a b d):Ev g ρ μ (.Subscript v i pos) d:=fun s x =>
  Subscript_ (hl.wp x fun va s₁ x₁ r₁ e₁=>hr.wp x₁ fun vb s₂ x₂ r₂ e₂=>(o _ _ _ _ _ _ x₂.inv R (r₁.ext e₂ (fun _ h=>nomatch h) x₁.inv.pin) r₂).use fun v s₃ e₃ r₃=>⟨(e₁.trans e₂).trans e₃,r₃⟩)
end
section
variable {a b:Int}
theorem Bin.add:Bin .Add (.int a) (.int b) (.int (a+b)):=fun C A X s va vb _ _ r q=>by (first | obtain rfl:=r.vI | obtain ⟨_,rfl⟩:=r.iI | obtain ⟨_,rfl⟩:=r.sI | obtain ⟨_,rfl⟩:=r.bI | obtain rfl:=r.nI | cases r);(first | obtain rfl:=q.vI | obtain ⟨_,rfl⟩:=q.iI | obtain ⟨_,rfl⟩:=q.sI | obtain ⟨_,rfl⟩:=q.bI | obtain rfl:=q.nI | cases q);exact P.add_int ⟨.tok,.int ..⟩
theorem Bin.minus:Bin .Sub (.int a) (.int b) (.int (a - b)):=fun C A X s va vb _ _ r q=>by (first | obtain rfl:=r.vI | obtain ⟨_,rfl⟩:=r.iI | obtain ⟨_,rfl⟩:=r.sI | obtain ⟨_,rfl⟩:=r.bI | obtain rfl:=r.nI | cases r);(first | obtain rfl:=q.vI | obtain ⟨_,rfl⟩:=q.iI | obtain ⟨_,rfl⟩:=q.sI | obtain ⟨_,rfl⟩:=q.bI | obtain rfl:=q.nI | cases q);exact P.sub_int ⟨.tok,.int ..⟩
theorem Bin.mul (h:IntMulOk a b):Bin .Mult (.int a) (.int b) (.int (a*b)):=fun C A X s va vb _ _ r q=>by (first | obtain rfl:=r.vI | obtain ⟨_,rfl⟩:=r.iI | obtain ⟨_,rfl⟩:=r.sI | obtain ⟨_,rfl⟩:=r.bI | obtain rfl:=r.nI | cases r);(first | obtain rfl:=q.vI | obtain ⟨_,rfl⟩:=q.iI | obtain ⟨_,rfl⟩:=q.sI | obtain ⟨_,rfl⟩:=q.bI | obtain rfl:=q.nI | cases q);exact P.mul_int ⟨.tok,.int ..⟩ h
theorem Cmp.eq:Cmp .Eq (.int a) (.int b) (D.bool (a == b)):=fun C A X s va vb _ _ r q=>by (first | obtain rfl:=r.vI | obtain ⟨_,rfl⟩:=r.iI | obtain ⟨_,rfl⟩:=r.sI | obtain ⟨_,rfl⟩:=r.bI | obtain rfl:=r.nI | cases r);(first | obtain rfl:=q.vI | obtain ⟨_,rfl⟩:=q.iI | obtain ⟨_,rfl⟩:=q.sI | obtain ⟨_,rfl⟩:=q.bI | obtain rfl:=q.nI | cases q);exact P.eq_int ⟨.refl ..,.val _⟩
theorem Cmp.ne:Cmp .NotEq (.int a) (.int b) (D.bool (a != b)):=fun C A X s va vb _ _ r q=>by (first | obtain rfl:=r.vI | obtain ⟨_,rfl⟩:=r.iI | obtain ⟨_,rfl⟩:=r.sI | obtain ⟨_,rfl⟩:=r.bI | obtain rfl:=r.nI | cases r);(first | obtain rfl:=q.vI | obtain ⟨_,rfl⟩:=q.iI | obtain ⟨_,rfl⟩:=q.sI | obtain ⟨_,rfl⟩:=q.bI | obtain rfl:=q.nI | cases q);exact P.ne_int ⟨.refl ..,.val _⟩
theorem Cmp.lt:Cmp .Lt (.int a) (.int b) (D.bool (decide (a < b))):=fun C A X s va vb _ _ r q=>by (first | obtain rfl:=r.vI | obtain ⟨_,rfl⟩:=r.iI | obtain ⟨_,rfl⟩:=r.sI | obtain ⟨_,rfl⟩:=r.bI | obtain rfl:=r.nI | cases r);(first | obtain rfl:=q.vI | obtain ⟨_,rfl⟩:=q.iI | obtain ⟨_,rfl⟩:=q.sI | obtain ⟨_,rfl⟩:=q.bI | obtain rfl:=q.nI | cases q);exact P.lt_int ⟨.refl ..,.val _⟩
theorem Cmp.le:Cmp .LtE (.int a) (.int b) (D.bool (decide (a≤b))):=fun C A X s va vb _ _ r q=>by (first | obtain rfl:=r.vI | obtain ⟨_,rfl⟩:=r.iI | obtain ⟨_,rfl⟩:=r.sI | obtain ⟨_,rfl⟩:=r.bI | obtain rfl:=r.nI | cases r);(first | obtain rfl:=q.vI | obtain ⟨_,rfl⟩:=q.iI | obtain ⟨_,rfl⟩:=q.sI | obtain ⟨_,rfl⟩:=q.bI | obtain rfl:=q.nI | cases q);exact P.le_int ⟨.refl ..,.val _⟩
theorem Cmp.gt:Cmp .Gt (.int a) (.int b) (D.bool (decide (a > b))):=fun C A X s va vb _ _ r q=>by (first | obtain rfl:=r.vI | obtain ⟨_,rfl⟩:=r.iI | obtain ⟨_,rfl⟩:=r.sI | obtain ⟨_,rfl⟩:=r.bI | obtain rfl:=r.nI | cases r);(first | obtain rfl:=q.vI | obtain ⟨_,rfl⟩:=q.iI | obtain ⟨_,rfl⟩:=q.sI | obtain ⟨_,rfl⟩:=q.bI | obtain rfl:=q.nI | cases q);exact P.gt_int ⟨.refl ..,.val _⟩
theorem Cmp.ge:Cmp .GtE (.int a) (.int b) (D.bool (decide (a≥b))):=fun C A X s va vb _ _ r q=>by (first | obtain rfl:=r.vI | obtain ⟨_,rfl⟩:=r.iI | obtain ⟨_,rfl⟩:=r.sI | obtain ⟨_,rfl⟩:=r.bI | obtain rfl:=r.nI | cases r);(first | obtain rfl:=q.vI | obtain ⟨_,rfl⟩:=q.iI | obtain ⟨_,rfl⟩:=q.sI | obtain ⟨_,rfl⟩:=q.bI | obtain rfl:=q.nI | cases q);exact P.ge_int ⟨.refl ..,.val _⟩
end
section
variable {x y:Str}
theorem Cmp.eqS:Cmp .Eq (.str x) (.str y) (D.bool (x.cps.toList == y.cps.toList)):=fun C A X s va vb _ _ r q=>by (first | obtain rfl:=r.vI | obtain ⟨_,rfl⟩:=r.iI | obtain ⟨_,rfl⟩:=r.sI | obtain ⟨_,rfl⟩:=r.bI | obtain rfl:=r.nI | cases r);(first | obtain rfl:=q.vI | obtain ⟨_,rfl⟩:=q.iI | obtain ⟨_,rfl⟩:=q.sI | obtain ⟨_,rfl⟩:=q.bI | obtain rfl:=q.nI | cases q);exact P.eq_str ⟨.refl ..,.val _⟩
theorem Cmp.neS:Cmp .NotEq (.str x) (.str y) (D.bool (x.cps.toList != y.cps.toList)):=fun C A X s va vb _ _ r q=>by (first | obtain rfl:=r.vI | obtain ⟨_,rfl⟩:=r.iI | obtain ⟨_,rfl⟩:=r.sI | obtain ⟨_,rfl⟩:=r.bI | obtain rfl:=r.nI | cases r);(first | obtain rfl:=q.vI | obtain ⟨_,rfl⟩:=q.iI | obtain ⟨_,rfl⟩:=q.sI | obtain ⟨_,rfl⟩:=q.bI | obtain rfl:=q.nI | cases q);exact P.ne_str ⟨.refl ..,.val _⟩
theorem Cmp.ltS:Cmp .Lt (.str x) (.str y) (D.bool (x.cps.toList < y.cps.toList)):=fun C A X s va vb _ _ r q=>by (first | obtain rfl:=r.vI | obtain ⟨_,rfl⟩:=r.iI | obtain ⟨_,rfl⟩:=r.sI | obtain ⟨_,rfl⟩:=r.bI | obtain rfl:=r.nI | cases r);(first | obtain rfl:=q.vI | obtain ⟨_,rfl⟩:=q.iI | obtain ⟨_,rfl⟩:=q.sI | obtain ⟨_,rfl⟩:=q.bI | obtain rfl:=q.nI | cases q);exact P.lt_str ⟨.refl ..,.val _⟩
theorem Cmp.gtS:Cmp .Gt (.str x) (.str y) (D.bool (y.cps.toList < x.cps.toList)):=fun C A X s va vb _ _ r q=>by (first | obtain rfl:=r.vI | obtain ⟨_,rfl⟩:=r.iI | obtain ⟨_,rfl⟩:=r.sI | obtain ⟨_,rfl⟩:=r.bI | obtain rfl:=r.nI | cases r);(first | obtain rfl:=q.vI | obtain ⟨_,rfl⟩:=q.iI | obtain ⟨_,rfl⟩:=q.sI | obtain ⟨_,rfl⟩:=q.bI | obtain rfl:=q.nI | cases q);exact P.gt_str ⟨.refl ..,.val _⟩
end
end Mine
end
section
open PySem PySem.Calls PySem.W PyProof.Rows
namespace Mine
theorem Ns.unique {h:Heap} {a:Addr} {m m':Str→Option Value} (x:h.Ns a m) (y:h.Ns a m'):m=m':=by
  obtain ⟨o,es,ep,e,d,_,f⟩:=x
  obtain ⟨o',es',ep',e',d',_,f'⟩:=y
  rw [e] at e';cases e'
  rw [d] at d';cases d'
  funext n
  rw [← f n,← f' n]
noncomputable def Stored (g:G) (S:List Addr) (x:Str):Prop:=(g.env.kindOf x=some .local∧g.env.locals∈S)∨(g.env.kindOf x=some .cell∧∃ c,g.env.cells.lookup x=some c∧c∈S)
section
variable {g:G} {ρ:List (Option D)} {μ:List (Addr × Mut)} {S:List Addr} {s:Shared}
theorem St.change {a : Addr} {h' : Heap} {tk : Nat} {i : Nat} {d : D} {n : Str} {v : Value} (y : St g ρ μ s) (h1 : g.ns[i]? = some n) (hs : Heap.SameBut a s.heap h') (haX : a ∈ g.X) (haP : a ∉ g.C.P) (haS : a ∉ doms μ)
    (ho:∀ o,s.heap.get? a=some o→∃ o',h'.get? a=some o') (hE:EnvOk g.C g.X h' g.env) (hB:Bound h' g.env n v) (hO:∀ x w,x≠n→Bound s.heap g.env x w→Bound h' g.env x w) (r:Rep g.X s.heap v d) :
    Ext g.C [a] s { s with heap:=h',toks:=tk }∧St g (ρ.set i (some d)) μ { s with heap:=h',toks:=tk }:=by
  have hn:=y.inv.new a haX haP
  have e:Ext g.C [a] s { s with heap:=h',toks:=tk }:=Ext.same hs (.head _) hn ho
  have up:∀ b o,b∉g.X→s.heap.get? b=some o→b∉g.X∧h'.get? b=some o:=fun b o hb q=>⟨hb,(hs.2 b (fun z=>hb (z ▸ haX))).trans q⟩
  refine ⟨e,⟨y.inv.ext e (fun b hb=>by rw [List.mem_singleton.mp hb];exact hn),hE,fun j x d' hj hr=>?_,fun p hp=>(y.muts p hp).mono (fun o q=>(hs.2 _ (fun z=>haS (z ▸ mem_doms hp))).trans q)
    (fun b hb o q=>(hs.2 _ (fun z=>haS (z ▸ more_doms hp hb))).trans q) (fun b o hb q=>(up b o hb q).2),y.mX,y.apart,y.nd⟩⟩
  by_cases hij:j=i
  · subst hij
    rw [h1] at hj;cases hj
    have hlt:j < ρ.length:=by
      by_cases q:j < ρ.length
      · exact q
      · rw [List.getElem?_set,if_pos rfl,if_neg q] at hr;cases hr
    rw [List.getElem?_set,if_pos rfl,if_pos hlt] at hr
    cases hr
    exact ⟨v,hB,r.mono up⟩
  · rw [List.getElem?_set,if_neg (fun z=>hij z.symm)] at hr
    obtain ⟨w,b,q⟩:=y.vars j x d' hj hr
    refine ⟨w,hO x w (fun z=>?_) b,q.mono up⟩
    subst z
    obtain ⟨hj1,hj2⟩:=List.getElem?_eq_some_iff.mp hj
    obtain ⟨hi1,hi2⟩:=List.getElem?_eq_some_iff.mp h1
    exact hij ((List.getElem_inj y.nd).mp (hj2.trans hi2.symm))
theorem St.store {i:Nat} {n:Str} {v:Value} {d:D} (y:St g ρ μ s) (h1:g.ns[i]?=some n) (hk:Stored g S n) (r:Rep g.X s.heap v d):Dn g.C g.A S s (storeName g.env n v) fun _ s'=>St g (ρ.set i (some d)) μ s':=by
  obtain ⟨m₀,hn₀⟩:=y.envOk.ns
  rcases hk with ⟨hk,hS⟩ | ⟨hk,c,hc,hS⟩
  · refine wpAny_storeName_local hk hn₀ (fun h' hn' hs'=>?_) (by rw [y.envOk.kind];rfl)
    have q:=y.change (a:=g.env.locals) (h':=h') (tk:=s.toks+1) (d:=d) (v:=v) h1 hs' y.envOk.inX y.envOk.lP (fun z=>(y.mX _ z).2.2.1 rfl) (fun o _=>let ⟨o',_,_,e,_⟩:=hn';⟨o',e⟩)
      ⟨y.envOk.kind,y.envOk.glob,y.envOk.bi,⟨_,hn'⟩,y.envOk.inX,y.envOk.lP,fun x c h=>let ⟨a,b,w,t⟩:=y.envOk.cel x c h;⟨a,b,w,t.sameBut hs' b⟩,y.envOk.own,y.envOk.inj⟩
      (.inl ⟨hk,_,hn',by simp⟩) (fun x w hx b=>by
        rcases b with ⟨hk',m,hn,hm⟩ | ⟨hk',c,hc,t⟩
        · exact .inl ⟨hk',_,hn',by rw [if_neg hx,Ns.unique hn₀ hn];exact hm⟩
        · exact .inr ⟨hk',c,hc,t.sameBut hs' (y.envOk.cel x c hc).2.1⟩) r
    exact ⟨q.1.wider (fun b hb=>.inl (by rw [List.mem_singleton.mp hb];exact hS)),q.2⟩
  · obtain ⟨a1,a2,w₀,t₀⟩:=y.envOk.cel n c hc
    refine wpAny_storeName_cell y.envOk.kind hk hc t₀ (fun h' t' hs'=>?_)
    have q:=y.change (a:=c) (h':=h') (tk:=s.toks) (d:=d) (v:=v) h1 hs' (y.envOk.own n c hk hc) a1 (fun z=>(y.mX _ z).2.2.2 n c hc rfl) (fun o _=>let ⟨o',e,_⟩:=t';⟨o',e⟩)
      ⟨y.envOk.kind,y.envOk.glob,y.envOk.bi,⟨m₀,hn₀.sameBut hs' (Ne.symm a2)⟩,y.envOk.inX,y.envOk.lP,fun x c' h=>by
        obtain ⟨b1,b2,w,t⟩:=y.envOk.cel x c' h
        by_cases z:c'=c
        · subst z;exact ⟨b1,b2,_,t'⟩
        · exact ⟨b1,b2,w,t.sameBut hs' z⟩,y.envOk.own,y.envOk.inj⟩
      (.inr ⟨.inl hk,c,hc,t'⟩) (fun x w hx b=>by
        rcases b with ⟨hk',m,hn,hm⟩ | ⟨hk',c',hc',t⟩
        · exact .inl ⟨hk',m,hn.sameBut hs' (Ne.symm a2),hm⟩
        · exact .inr ⟨hk',c',hc',t.sameBut hs' fun z=>hx (y.envOk.inj x n c (z ▸ hc') hc)⟩) r
    exact ⟨q.1.wider (fun b hb=>.inl (by rw [List.mem_singleton.mp hb];exact hS)),q.2⟩
noncomputable def Ex (g:G) (S:List Addr) (ρ:List (Option D)) (μ:List (Addr × Mut)) (ss:List Stmt) (Φ:Flow→Shared→Prop):Prop:=∀ s,St g ρ μ s→Dn g.C g.A S s (execs ss g.env) Φ
variable {Φ:Flow→Shared→Prop} {rest:List Stmt}
theorem Ex.nil (h:∀ s,St g ρ μ s→Φ .next s):Ex g S ρ μ [] Φ:=fun s x=>wpAny_execs_nil ⟨.refl ..,h s x⟩
theorem Ex.step {st:Stmt} (h:∀ s,St g ρ μ s→Dn g.C g.A S s (exec st g.env) fun f s'=>match f with | .next=>Dn g.C g.A S s' (execs rest g.env) Φ | f=>Φ f s'):Ex g S ρ μ (st::rest) Φ:=fun s x =>
  wpAny_execs_cons (wpAny_mono (h s x) (fun f s' q=>by
    obtain ⟨e,q⟩:=q
    cases f with
    | next=>exact q.use fun v s₂ e₂ r=>⟨e.trans e₂,r⟩
    | brk=>exact ⟨e,q⟩
    | cont=>exact ⟨e,q⟩
    | ret v=>exact ⟨e,q⟩) fun _ _ e=>e)
theorem Ex.assign (i : Nat) {x : Str} {p pos : Pos} {e : Expr} {d : D} (h1 : g.ns[i]? = some x) (hk : Stored g S x) (he : Ev g ρ μ e d) (k : Ex g S (ρ.set i (some d)) μ rest Φ)
    (hs:swapsWith e (some (.Name x p)) pos.line g.env=pure false:=by rfl):Ex g S ρ μ (.Assign [.Name x p] e pos::rest) Φ:=Ex.step fun s y =>
  wpAny_Assign_Name (he.wp y fun v s₁ y₁ r e₁=>(y₁.store h1 hk r).use fun _ s₂ e₂ y₂=>⟨(e₁.wider (fun _ h=>nomatch h)).trans e₂,k s₂ y₂⟩) hs
noncomputable def Inp (op:Operator) (a b d:D):Prop:=∀ (C:Cx) (A:Around) X s va vb,Inv C X s→Room A 0→Rep X s.heap va a→Rep X s.heap vb b→Dn C A [] s (inplaceOp op va vb) fun v s'=>Rep X s'.heap v d
theorem Inp.add {a b:Int}:Inp .Add (.int a) (.int b) (.int (a+b)):=fun C A X s va vb _ _ r q=>by (first | obtain rfl:=r.vI | obtain ⟨_,rfl⟩:=r.iI | obtain ⟨_,rfl⟩:=r.sI | obtain ⟨_,rfl⟩:=r.bI | obtain rfl:=r.nI | cases r);(first | obtain rfl:=q.vI | obtain ⟨_,rfl⟩:=q.iI | obtain ⟨_,rfl⟩:=q.sI | obtain ⟨_,rfl⟩:=q.bI | obtain rfl:=q.nI | cases q);exact P.iadd_int ⟨.tok,.int ..⟩
theorem Inp.minus {a b:Int}:Inp .Sub (.int a) (.int b) (.int (a - b)):=fun C A X s va vb _ _ r q=>by (first | obtain rfl:=r.vI | obtain ⟨_,rfl⟩:=r.iI | obtain ⟨_,rfl⟩:=r.sI | obtain ⟨_,rfl⟩:=r.bI | obtain rfl:=r.nI | cases r);(first | obtain rfl:=q.vI | obtain ⟨_,rfl⟩:=q.iI | obtain ⟨_,rfl⟩:=q.sI | obtain ⟨_,rfl⟩:=q.bI | obtain rfl:=q.nI | cases q);exact P.isub_int ⟨.tok,.int ..⟩
theorem Ex.aug (i : Nat) {x : Str} {p pos : Pos} {op : Operator} {e : Expr} {a b d : D} (R : Room g.A 0) (h1 : g.ns[i]? = some x) (h2 : ρ[i]? = some (some a)) (hk : Stored g S x) (he : Ev g ρ μ e b) (o : Inp op a b d) (k : Ex g S (ρ.set i (some d)) μ rest Φ)
    (hd:(x == ("__debug__":Str))=false:=by decide) (hc:(x == ("__classdict__":Str))=false:=by decide):Ex g S ρ μ (.AugAssign (.Name x p) op e pos::rest) Φ:=Ex.step fun s y=>by
  have nm:=Ev.name (g:=g) (ρ:=ρ) (μ:=μ) i (pos:=p) h1 h2 hd hc
  have ld:Dn g.C g.A [] s (loadName g.env x) fun v s'=>Rep g.X s'.heap v a:=by
    obtain ⟨v,b,r⟩:=y.vars i x a h1 h2
    rcases b with ⟨hk,m,hn,hm⟩ | ⟨hk | hk,c,hcl,hv⟩
    · exact wpAny_loadName_local y.envOk.kind hk hn hm ⟨.refl ..,r⟩
    · exact wpAny_loadName_cell y.envOk.kind hk hcl hv ⟨.refl ..,r⟩
    · exact wpAny_loadName_free y.envOk.kind hk hcl hv ⟨.refl ..,r⟩ hc
  refine wpAny_AugAssign_Name (ld.use fun va s₁ e₁ r₁=>he.wp (y.ext e₁) fun vb s₂ y₂ r₂ e₂=>(o _ _ _ _ _ _ y₂.inv R (r₁.ext e₂ (fun _ h=>nomatch h) y.inv.pin) r₂).use fun v s₃ e₃ r₃ =>
    ((y₂.ext e₃).store h1 hk r₃).use fun _ s₄ e₄ y₄=>⟨(((e₁.trans e₂).trans e₃).wider (fun _ h=>nomatch h)).trans e₄,k s₄ y₄⟩)
theorem Ex.ret {e:Expr} {pos:Pos} {d:D} (he:Ev g ρ μ e d) (k:∀ v s,St g ρ μ s→Rep g.X s.heap v d→Φ (.ret v) s):Ex g S ρ μ (.Return (some e) pos::rest) Φ:=Ex.step fun s y =>
  wpAny_Return_some (he.wp y fun v s₁ y₁ r e₁=>⟨e₁.wider (fun _ h=>nomatch h),k v s₁ y₁ r⟩)
theorem Ex.ret0 {pos:Pos} (k:∀ s,St g ρ μ s→Φ (.ret .none) s):Ex g S ρ μ (.Return none pos::rest) Φ:=Ex.step fun s y=>wpAny_Return_none ⟨.refl ..,k s y⟩
theorem Ex.pass {pos:Pos} (k:Ex g S ρ μ rest Φ):Ex g S ρ μ (.Pass pos::rest) Φ:=Ex.step fun s y=>wpAny_Pass ⟨.refl ..,k s y⟩
theorem Ex.brk {pos:Pos} (k:∀ s,St g ρ μ s→Φ .brk s):Ex g S ρ μ (.Break pos::rest) Φ:=Ex.step fun s y=>wpAny_Break ⟨.refl ..,k s y⟩
noncomputable def Then (g:G) (S:List Addr) (rest:List Stmt) (Φ:Flow→Shared→Prop) (f:Flow) (s:Shared):Prop:=match f with | .next=>Dn g.C g.A S s (execs rest g.env) Φ | f=>Φ f s
theorem Ex.ite {t:Expr} {b o:List Stmt} {pos:Pos} {c:Bool} (ht:EvT g ρ μ t c) (h1:c=true→Ex g S ρ μ b (Then g S rest Φ)) (h2:c=false→Ex g S ρ μ o (Then g S rest Φ)):Ex g S ρ μ (.If t b o pos::rest) Φ:=Ex.step fun s y =>
  wpAny_If (ht.wp y fun s₁ y₁ e₁=>by
    cases c with
    | true=>exact (h1 rfl s₁ y₁).use fun v s₂ e₂ r=>⟨(e₁.wider (fun _ h=>nomatch h)).trans e₂,by cases v <;> exact r⟩
    | false=>exact (h2 rfl s₁ y₁).use fun v s₂ e₂ r=>⟨(e₁.wider (fun _ h=>nomatch h)).trans e₂,by cases v <;> exact r⟩)
theorem Ex.on {g':G} {S':List Addr} (k:∀ s,St g ρ μ s→Dn g'.C g'.A S' s (execs rest g'.env) Φ):Ex g S ρ μ [] (Then g' S' rest Φ):=fun s y=>wpAny_execs_nil ⟨.refl ..,k s y⟩
theorem Ex.go (k:Ex g S ρ μ rest Φ):Ex g S ρ μ [] (Then g S rest Φ):=Ex.on k
theorem Ex.expr {e:Expr} {pos:Pos} {d:D} (he:Ev g ρ μ e d) (k:Ex g S ρ μ rest Φ) (hi:interactive g.env=false:=by rfl) (hs:swapsWith e none pos.line g.env=pure false:=by rfl):Ex g S ρ μ (.Expr e pos::rest) Φ:=Ex.step fun s y =>
  wpAny_Expr_any (he.wp y fun v s₁ y₁ r e₁=>⟨e₁.wider (fun _ h=>nomatch h),k s₁ y₁⟩) hi hs
theorem Ex.mono {ss:List Stmt} {Ψ:Flow→Shared→Prop} (h:Ex g S ρ μ ss Φ) (k:∀ f s,Φ f s→Ψ f s):Ex g S ρ μ ss Ψ:=fun s y=>(h s y).mono fun f s' _ q=>k f s' q
end
end Mine
end
section
open PySem PySem.Calls PySem.W PyProof.Rows
namespace Mine
noncomputable def Fn (C:Cx) (k:Nat) (f:Value) (args:List D) (d:D):Prop:=∀ (A:Around) X s vals,Room A k→Inv C X s→RepL X s.heap vals args →
  codeAny C.M A (.call f ⟨vals,[]⟩) (fun r s'=>∃ v,r=.ok (.ret v)∧Ext C [] s s'∧Rep X s'.heap v d) s
noncomputable def FnM (C:Cx) (k:Nat) (f:Value) (args:List D) (μ:List (Addr × Mut)) (d:D) (μ':List (Addr × Mut)):Prop:=∀ (A:Around) X s vals,Room A k→Inv C X s→RepL X s.heap vals args →
  (∀ p∈μ,MutOk X s.heap p.1 p.2)→(∀ a∈doms μ,a∈X∧a∉C.P)→(doms μ).Nodup →
  codeAny C.M A (.call f ⟨vals,[]⟩) (fun r s'=>∃ v,r=.ok (.ret v)∧Ext C (doms μ) s s'∧Rep X s'.heap v d∧∀ p∈μ',MutOk X s'.heap p.1 p.2) s
noncomputable def ownS (env:Env):List Addr:=env.locals::env.cells.map (·.2)
theorem Stored.l {g:G} {S:List Addr} {x:Str} (h:g.env.kindOf x=some .local) (hS:g.env.locals∈S):Stored g S x:=.inl ⟨h,hS⟩
theorem Stored.c {g:G} {S:List Addr} {x:Str} (h:g.env.kindOf x=some .cell) (hc:(g.env.cells.lookup x).isSome=true) (hS:∀ a∈g.env.cells.map (·.2),a∈S):Stored g S x:=by
  obtain ⟨c,hc⟩:=Option.isSome_iff_exists.mp hc
  exact .inr ⟨h,c,hc,hS _ (List.mem_map.mpr ⟨_,mem_of_lookup hc,rfl⟩)⟩
theorem bind_lookup {kindOf : Str → Option NameKind} : ∀ {binds : List (Str × Value)} (m cm : Str → Option Value), (binds.map (·.1)).Nodup → ∀ {n : Str} {v : Value}, (n, v) ∈ binds →
    (kindOf n=some .local→bindL kindOf binds m n=some v)∧(kindOf n≠some .local→bindC kindOf binds cm n=some v):=by
  have keepL:∀ (binds:List (Str × Value)) (m:Str→Option Value) (n:Str),n∉binds.map (·.1)→bindL kindOf binds m n=m n:=by
    intro binds
    induction binds with
    | nil=>intro m n _;rfl
    | cons p r ih =>
      intro m n hn
      obtain ⟨k,v⟩:=p
      simp only [List.map_cons,List.mem_cons,not_or] at hn
      unfold bindL
      rw [ih _ _ hn.2]
      split
      · simp [hn.1]
      · rfl
  have keepC:∀ (binds:List (Str × Value)) (m:Str→Option Value) (n:Str),n∉binds.map (·.1)→bindC kindOf binds m n=m n:=by
    intro binds
    induction binds with
    | nil=>intro m n _;rfl
    | cons p r ih =>
      intro m n hn
      obtain ⟨k,v⟩:=p
      simp only [List.map_cons,List.mem_cons,not_or] at hn
      unfold bindC
      rw [ih _ _ hn.2]
      split
      · rfl
      · simp [hn.1]
  intro binds
  induction binds with
  | nil=>intro m cm _ n v h;cases h
  | cons p r ih =>
    intro m cm hnd n v h
    obtain ⟨k,w⟩:=p
    simp only [List.map_cons,List.nodup_cons] at hnd
    rcases List.mem_cons.mp h with e | h
    · cases e
      refine ⟨fun hk=>?_,fun hk=>?_⟩
      · unfold bindL;rw [if_pos hk,keepL _ _ _ hnd.1];simp
      · unfold bindC;rw [if_neg hk,keepC _ _ _ hnd.1];simp
    · unfold bindL bindC
      exact ih _ _ hnd.2 h
section
variable {C:Cx} {A:Around} {X:List Addr} {s:Shared}
theorem Room.deeper {k:Nat} {env:Env} (R:Room A (k+1)):Room (A.deeper env) k:=⟨R.h,by have:=R.d;show A.depth+1+10*k≤900;lia,by have:=R.u;show A.units+3+100*k≤9000;lia,R.g⟩
theorem Room.less {k j:Nat} (R:Room A k) (h:j≤k):Room A j:=⟨R.h,by have:=R.d;lia,by have:=R.u;lia,R.g⟩
theorem Room.in1 {k:Nat} (R:Room A (k+1)):Room A.in1 k:=⟨R.h,by have:=R.d;show A.depth+10*k≤900;lia,by have:=R.u;show A.units+1+100*k≤9000;lia,R.g⟩
theorem Room.depth {k:Nat} (R:Room A k):A.depth < recursionLimit:=by have:=R.d;show A.depth < 1000;lia
theorem Room.units {k:Nat} (R:Room A k):A.units < cLine:=by have:=R.u;show A.units < 9900;lia
theorem Room.units1 {k:Nat} (R:Room A k):A.in1.units < cLine:=by have:=R.u;show A.units+1 < 9900;lia
theorem Inv.K (I:Inv C X s):C.K.In s.heap:=fun a o h=>I.keep a o (I.base.KP a o h) (I.base.X a o h)
theorem Inv.lim (I:Inv C X s):s.heap.NoLimit:=let ⟨mc,a,b⟩:=I.base.lim;⟨mc,a.at' fun o e=>I.keep _ o I.base.sP e,b⟩
theorem Inv.lt (I:Inv C X s) {a:Addr} (h:a∈X):a < s.heap.objs.size:=let ⟨o,e⟩:=I.occ a h;Heap.lt_size e
theorem Inv.ltP (I:Inv C X s) {a:Addr} (h:a∈C.P):a < s.heap.objs.size:=I.lt (I.pin a h)
theorem none_of_ge {h:Heap} {a:Addr} (hs:h.objs.size≤a):h.get? a=none:=by
  cases e:h.get? a with
  | none=>rfl
  | some o=>exact absurd (Heap.lt_size e) (Nat.not_lt.mpr hs)
theorem Inv.hb_none (I:Inv C X s) {a:Addr} (ha:s.heap.get? a=none) (hP:a∉C.P):C.hb.get? a=none:=by
  cases e:C.hb.get? a with
  | none=>rfl
  | some o=>rw [I.keep a o hP e] at ha;cases ha
theorem Rep.more {X X':List Addr} {h h':Heap} {v:Value} {d:D} (r:Rep X h v d) (hk:∀ b o,h.get? b=some o→h'.get? b=some o) (hX:∀ a∈X',a∈X∨h.get? a=none):Rep X' h' v d :=
  r.mono fun b o hb e=>⟨fun q=>(hX b q).elim hb (fun z=>by rw [z] at e;cases e),hk b o e⟩
theorem RepL.more {X X':List Addr} {h h':Heap} {v:List Value} {d:List D} (r:RepL X h v d) (hk:∀ b o,h.get? b=some o→h'.get? b=some o) (hX:∀ a∈X',a∈X∨h.get? a=none):RepL X' h' v d :=
  r.mono fun b o hb e=>⟨fun q=>(hX b q).elim hb (fun z=>by rw [z] at e;cases e),hk b o e⟩
theorem MutOk.more {X X':List Addr} {h h':Heap} {a:Addr} {m:Mut} (x:MutOk X h a m) (hk:∀ b o,h.get? b=some o→h'.get? b=some o) (hX:∀ a∈X',a∈X∨h.get? a=none):MutOk X' h' a m:=by
  cases m with
  | lst ds=>obtain ⟨vs,n,e,r⟩:=x;exact ⟨vs,n,hk _ _ e,r.more hk hX⟩
  | acc cls dx ds=>obtain ⟨⟨vs,n,e,r⟩,hne,hsh,t,u,n',e2⟩:=x;exact ⟨⟨vs,n,hk _ _ e,r.more hk hX⟩,hne,hsh,t,u,n',hk _ _ e2⟩
  | inst cls dx=>obtain ⟨⟨sl,e⟩,hne,hsh,t,v,n,e2⟩:=x;exact ⟨⟨sl,hk _ _ e⟩,hne,hsh,t,v,n,hk _ _ e2⟩
  | ba b=>obtain ⟨n,e⟩:=x;exact ⟨n,hk _ _ e⟩
  | obj o dx od=>exact ⟨hk _ _ x.1,x.2.1,hk _ _ x.2.2⟩
noncomputable def RetAs (X:List Addr) (d:D) (μ':List (Addr × Mut)) (fl:Flow) (s':Shared):Prop:=Rep X s'.heap (match fl with | .ret v=>v | _=>.none) d∧∀ p∈μ',MutOk X s'.heap p.1 p.2
theorem cells_lookup {sc:List (Str × NameKind)} {L:Nat} (hcn:((cellsFrom 0 sc []).map (·.1)).Nodup) {n:Str} {c:Addr} (h:(n,c)∈cellsFrom L sc []):(cellsFrom L sc []).lookup n=some c :=
  lookup_of_mem_nodup (cellsFrom_names sc 0 L [] [] rfl ▸ hcn) h
theorem Rep.sub {X X':List Addr} {h:Heap} {v:Value} {d:D} (r:Rep X h v d) (hX:∀ a∈X',a∈X):Rep X' h v d:=r.mono fun b o hb e=>⟨fun q=>hb (hX b q),e⟩
theorem RepL.sub {X X':List Addr} {h:Heap} {v:List Value} {d:List D} (r:RepL X h v d) (hX:∀ a∈X',a∈X):RepL X' h v d:=r.mono fun b o hb e=>⟨fun q=>hb (hX b q),e⟩
theorem MutOk.sub {X X':List Addr} {h:Heap} {a:Addr} {m:Mut} (x:MutOk X h a m) (hX:∀ a∈X',a∈X):MutOk X' h a m:=x.more (fun _ _ e=>e) fun a ha=>.inl (hX a ha)
variable {oc:Value} {od:Option Addr} {osl:Array (Option Value)} {fd:FuncData} {body:List Stmt} {f:Addr}
theorem FnM.intro {k : Nat} {ds : List D} {μ μ' : List (Addr × Mut)} {d : D} (pn others : List Str) (j : Nat)
    (ho:C.K.lookup f=some ⟨oc,od,.func fd,osl⟩) (hcd:codeIn C.K fd.code fd.qualname=true) (hbody:fd.body=.stmts body) (hclo:fd.closure=[]) (hgl:fd.globals=mainGlobals) (hbi:fd.builtins=builtinsNs)
    (hbind:∀ vals:List Value,vals.length=ds.length→bindArgs fd ⟨vals,[]⟩=pure (pn.zip vals)) (hlen:pn.length=ds.length)
    (hnd:(pn++others).Nodup) (hkind:∀ n,∀ x∈pn,fd.scope.names.lookup x=some .local∨(fd.scope.names.lookup x=some .cell∧((cellsFrom n fd.scope.names []).lookup x).isSome=true))
    (hcn:((cellsFrom 0 fd.scope.names []).map (·.1)).Nodup)
    (h:∀ (A:Around) (X:List Addr) (L:Addr),Room A k→(∀ a∈doms μ,a∈X∧a≠L∧a∉C.P) →
      Ex ⟨C,A,ownS (callEnvC fd L f)++X,callEnvC fd L f,pn++others⟩ (ownS (callEnvC fd L f)++doms μ) (ds.map some++List.replicate j none) μ body (RetAs (ownS (callEnvC fd L f)++X) d μ'))
    (hco:fd.scope.isCoroutine=false:=by rfl) (hgen:fd.scope.isGenerator=false:=by rfl) (hk:fd.scope.kind=.function:=by rfl):FnM C (k+1) (.ref f) ds μ d μ':=by
  intro A X s vals R I rv hm hmX hmd
  have hvl:vals.length=ds.length:=rv.length
  refine codeAny_call_cells (fd:=fd) (body:=body) R.depth (I.K _ _ ho) rfl I.lim (codeRec_of I.K hcd) hbody (hbind vals hvl) hclo
    (fun x hx=>hkind _ x.1 (List.of_mem_zip hx).1) (fun s₁ x=>?_) hco hgen hk
  generalize hL:s.heap.objs.size=L at x ⊢
  obtain ⟨⟨h₁,tk,rfl⟩,xns,xkeep,xfresh⟩:=x.toInCall
  have hLn:s.heap.get? L=none:=none_of_ge (by lia)
  have own:∀ a∈ownS (callEnvC fd L f),s.heap.get? a=none:=by
    intro a ha
    rcases List.mem_cons.mp ha with rfl | ha
    · exact hLn
    · obtain ⟨⟨n,c⟩,hc,rfl⟩:=List.mem_map.mp ha
      have:=x.above n c hc
      exact none_of_ge (Nat.le_of_lt (by rw [hL];exact this))
  have ownP:∀ a∈ownS (callEnvC fd L f),a∉C.P:=fun a ha hP=>by
    obtain ⟨o,e⟩:=I.occ a (I.pin a hP)
    rw [own a ha] at e;cases e
  have hcells:∀ n c,(callEnvC fd L f).cells.lookup n=some c→c∈ownS (callEnvC fd L f) :=
    fun n c hc=>.tail _ (List.mem_map.mpr ⟨_,mem_of_lookup hc,rfl⟩)
  have hXnew:∀ a∈ownS (callEnvC fd L f)++X,a∈X∨s.heap.get? a=none:=fun a ha =>
    (List.mem_append.mp ha).elim (fun q=>.inr (own a q)) .inl
  have hdl:∀ a∈doms μ,a≠L:=fun a ha e=>by
    obtain ⟨o,q⟩:=I.occ a (hmX a ha).1
    rw [e,hLn] at q;(first | obtain rfl:=q.vI | obtain ⟨_,rfl⟩:=q.iI | obtain ⟨_,rfl⟩:=q.sI | obtain ⟨_,rfl⟩:=q.bI | obtain rfl:=q.nI | cases q)
  have st:St ⟨C,A.deeper (callEnvC fd L f),ownS (callEnvC fd L f)++X,callEnvC fd L f,pn++others⟩ (ds.map some++List.replicate j none) μ { s with heap:=h₁,toks:=tk }:=by
    refine ⟨⟨I.base,fun b o hb e=>xkeep b o (I.keep b o hb e),fun p hp=>(I.tab p hp).keeps xkeep,I.os,I.gens,fun p hp=>List.mem_append_right _ (I.pin p hp),fun a ha hP=>?_,fun a ha=>?_⟩,
      ⟨hk,hgl,hbi,⟨_,xns⟩,.head _,ownP _ (.head _),fun n c hc=>⟨ownP c (hcells n c hc),Nat.ne_of_gt (x.above n c (mem_of_lookup hc)),_,x.cell n c hc⟩,fun n c _ hc=>List.mem_append_left _ (hcells n c hc),fun n n' c hc hc'=>name_of_addr x.apart (mem_of_lookup hc) (mem_of_lookup hc')⟩,
      fun i n d' hn hd=>?_,fun p hp=>(hm p hp).more xkeep hXnew,fun a ha=>⟨List.mem_append_right _ (hmX a ha).1,(hmX a ha).2,hdl a ha,fun n c hc e=>?_⟩,hmd,hnd⟩
    · rcases List.mem_append.mp ha with q | q
      · exact I.hb_none (own a q) hP
      · exact I.new a q hP
    · rcases List.mem_append.mp ha with q | q
      · rcases List.mem_cons.mp q with rfl | q
        · obtain ⟨o,_,_,e,_⟩:=xns;exact ⟨o,e⟩
        · obtain ⟨⟨n,c⟩,hc,rfl⟩:=List.mem_map.mp q
          obtain ⟨o,e,_⟩:=x.cell n c (cells_lookup hcn hc)
          exact ⟨o,e⟩
      · obtain ⟨o,e⟩:=I.occ a q
        exact ⟨o,xkeep a o e⟩
    · have hi:i < ds.length:=by
        by_cases q:i < ds.length
        · exact q
        · rw [List.getElem?_append_right (by rw [List.length_map];lia)] at hd
          have:=List.mem_of_getElem? hd
          rw [List.mem_replicate] at this
          cases this.2
      rw [List.getElem?_append_left (by rw [List.length_map];exact hi),List.getElem?_map] at hd
      rw [List.getElem?_append_left (by lia)] at hn
      cases hdi:ds[i]? with
      | none=>rw [hdi] at hd;cases hd
      | some d₀ =>
        rw [hdi] at hd;cases hd
        obtain ⟨v,hv,r⟩:=rv.get hdi
        have hz:(pn.zip vals)[i]?=some (n,v):=List.getElem?_zip_eq_some.mpr ⟨hn,hv⟩
        have hnn:((pn.zip vals).map (·.1)).Nodup:=by
          rw [List.map_fst_zip (by lia)]
          exact (List.nodup_append.mp hnd).1
        have bl:=bind_lookup (kindOf:=(callEnvC fd L f).kindOf) (fun _=>none) (fun _=>none) hnn (List.mem_of_getElem? hz)
        refine ⟨v,?_,r.more xkeep hXnew⟩
        rcases hkind (L+1) n (List.mem_of_getElem? hn) with q | ⟨q,q'⟩
        · exact .inl ⟨q,_,xns,bl.1 q⟩
        · obtain ⟨c,hc⟩:=Option.isSome_iff_exists.mp q'
          have hkc:(callEnvC fd L f).kindOf n=some .cell:=q
          exact .inr ⟨.inl hkc,c,hc,(bl.2 (by rw [hkc];decide)) ▸ x.cell n c hc⟩
    · subst e
      obtain ⟨o,q⟩:=I.occ a (hmX a ha).1
      rw [own a (hcells n a hc)] at q;(first | obtain rfl:=q.vI | obtain ⟨_,rfl⟩:=q.iI | obtain ⟨_,rfl⟩:=q.sI | obtain ⟨_,rfl⟩:=q.bI | obtain rfl:=q.nI | cases q)
  refine wpAny_mono (h _ X L R.deeper (fun a ha=>⟨(hmX a ha).1,hdl a ha,(hmX a ha).2⟩) _ st) (fun fl s' q=>?_) fun _ _ e=>e.elim
  obtain ⟨e,r,m⟩:=q
  have e₁:Ext C (doms μ) s { s with heap:=h₁,toks:=tk }:=.up xkeep
  have e':Ext C (ownS (callEnvC fd L f)++doms μ) s s':=(e₁.wider fun b hb=>.inl (List.mem_append_right _ hb)).trans e
  exact ⟨_,rfl,e'.wider (fun b hb=>(List.mem_append.mp hb).elim (fun q=>.inr (own b q)) .inl),r.sub fun a ha=>List.mem_append_right _ ha,fun p hp=>(m p hp).sub fun a ha=>List.mem_append_right _ ha⟩
theorem Fn.of_M {k:Nat} {f:Value} {ds:List D} {d:D} (h:FnM C k f ds [] d []):Fn C k f ds d:=fun A X s vals R I rv =>
  codeAny_mono (h A X s vals R I rv (fun _ h=>nomatch h) (fun _ h=>nomatch h) List.nodup_nil) fun r s' q=>by
    obtain ⟨v,e,x,r',_⟩:=q
    exact ⟨v,e,x,r'⟩
end
section
variable {g:G} {ρ:List (Option D)} {μ:List (Addr × Mut)}
theorem Ev.call {func e : Expr} {es : List Expr} {pos : Pos} {k : Nat} {f : Value} {ds : List D} {d : D} (R : Room g.A k) (hf : Ev g ρ μ func (.val f)) (hkeep : keepIn g.C.K f = true) (ha : EvL g ρ μ pos (e :: es) ds) (hc : Fn g.C k f ds d)
    (he:starEach (e::es) g.env=(false,eval e g.env)::starEach es g.env:=by rfl) (hplain:(backTo pos (starEach es g.env)).any (·.1)=false:=by rfl)
    (hq:eval (.Call func (e::es) [] pos) g.env=(eval func g.env >>= fun v=>callWith pos v [] (backTo pos (starEach (e::es) g.env)) []):=by rfl):Ev g ρ μ (.Call func (e::es) [] pos) d:=fun s x=>by
  show wpAny _ _ _ _ _ _
  rw [hq]
  refine wpAny_bind (hf.wp x fun v s₁ x₁ r₁ e₁=>?_)
  (first | obtain rfl:=r₁.vI | obtain ⟨_,rfl⟩:=r₁.iI | obtain ⟨_,rfl⟩:=r₁.sI | obtain ⟨_,rfl⟩:=r₁.bI | obtain rfl:=r₁.nI | cases r₁)
  refine callWith_K (h₀:=s₁.heap) x₁.inv.K hkeep ((ha s₁ x₁).use fun vs s₂ e₂ r₂=>⟨(x₁.ext e₂).inv.K,wpAny_call (codeAny_mono (hc _ _ _ _ R (x₁.ext e₂).inv r₂) fun r s₃ q=>?_)⟩) he hplain
  obtain ⟨v,rfl,e₃,r₃⟩:=q
  exact ⟨(e₁.trans e₂).trans e₃,r₃⟩
end
end Mine
end
section
open PySem PySem.Calls PySem.W PyProof.Rows
namespace Mine
noncomputable def ownedKinds:List String:=["enumerate","zip","dict_itemiterator","dict_reverseitemiterator","odict_iterator","itertools.zip_longest","itertools.pairwise"]
theorem letOwned_skip {M : Model} {A : Around} {E : Value → Shared → Prop} {s : Shared} {target : Expr} {I : Addr} {v : Value} {Q : Unit → Shared → Prop} {o : Obj} {n : String} (ho : s.heap.get? I = some o) (hc : o.cls = .type n) (hn : ownedKinds.contains n = false) (h : Q () s) :
    wpAny M A (letOwnedTupleGo target (.ref I) v) Q E s:=by
  have body : wpAny M A (do
      let (.ref r,.ref a):=(Value.ref I,v) | return
      let o ← load r
      match o.cls,o.data with
      | .type n,.fields vs =>
        if ["enumerate","zip","dict_itemiterator","dict_reverseitemiterator","odict_iterator","itertools.zip_longest","itertools.pairwise"].contains n && vs[0]? == some (rawInt a) then
          rule "for.unpacks-the-owned-tuple"
          updateField r 0 .none
      | _,_=>pure ():Sem Unit) Q E s:=by
    cases v <;> first | exact wpAny_pure h | skip
    rename_i a
    refine wpAny_bind (wpAny_load ho ?_)
    rw [hc]
    cases o.data <;> first | exact wpAny_pure h | skip
    rename_i vs
    show wpAny M A (if (["enumerate","zip","dict_itemiterator","dict_reverseitemiterator","odict_iterator","itertools.zip_longest","itertools.pairwise"].contains n && vs[0]? == some (rawInt a))=true then _ else _) Q E s
    rw [if_neg (by
      have:(["enumerate","zip","dict_itemiterator","dict_reverseitemiterator","odict_iterator","itertools.zip_longest","itertools.pairwise"]:List String).contains n=false:=hn
      rw [this];simp)]
    exact wpAny_pure h
  cases target <;> first | exact wpAny_pure h | exact body
structure IterAt (C:Cx) (A:Around) (X:List Addr) (s₀:Shared) (I:Addr) (fp wr:List Addr) (P:Nat→Value→Prop) (W:Nat→Heap→Prop) (ds:List D):Prop where
  walk:Walks C.prog C.w A I fp wr ds.length P W
  new:∀ b∈wr,s₀.heap.get? b=none
  fpX:∀ b∈fp,b∈wr∨(b∉X∧∃ o,s₀.heap.get? b=some o)
  occ:∀ i h,W i h→∀ b∈wr,∃ o,h.get? b=some o
  item:∀ i v h',(∀ b o,b∉X→s₀.heap.get? b=some o→h'.get? b=some o)→P i v→∃ d,ds[i]?=some d∧Rep X h' v d
  lt:∀ i (s:Shared) (A':Around) target v (Q:Unit→Shared→Prop) (E:Value→Shared→Prop),W i s.heap→Q () s→wpAny C.M A' (letOwnedTupleGo target (.ref I) v) Q E s
noncomputable def Src (d:D) (ds:List D):Prop:=∀ (C:Cx) (A:Around) X s v (Q:Value→Shared→Prop) (E:Value→Shared→Prop),Inv C X s→A.handled=none→Rep X s.heap v d →
  (∀ I fp wr P W s',Ext C [] s s'→IterAt C A X s I fp wr P W ds→W 0 s'.heap→Q (.ref I) s')→wpAny C.M A (pyIter v) Q E s
theorem Src.lst {ds:List D}:Src (.lst ds) ds:=fun C A X s v Q E I hh r h=>by
  cases r with
  | @lst a vs n _ ha e rl =>
    have hl:s.heap.IsList a vs.toArray:=⟨_,e,rfl,n,rfl⟩
    have hne:a≠s.heap.objs.size:=Nat.ne_of_lt (Heap.lt_size e)
    have hlen:vs.toArray.size=ds.length:=by simp [rl.length]
    have W:=Walks.list (prog:=C.prog) (w:=C.w) hh s.heap.objs.size a hne vs.toArray
    rw [hlen] at W
    refine wpAny_pyIter_list hl (h _ _ _ _ _ _ .push' ⟨W,?_,?_,?_,?_,?_⟩ ⟨⟨_,Heap.get?_push_size _ rfl,rfl,rfl⟩,hl.at fun o e=>Heap.get?_push_of_some _ e⟩)
    · intro b hb;rw [List.mem_singleton.mp hb];exact none_of_ge (Nat.le_refl _)
    · intro b hb
      rcases List.mem_cons.mp hb with rfl | hb
      · exact .inl (.head _)
      · rw [List.mem_singleton.mp hb];exact .inr ⟨ha,_,e⟩
    · rintro i h' ⟨⟨o,e,_⟩,_⟩ b hb;rw [List.mem_singleton.mp hb];exact ⟨o,e⟩
    · intro i v h' hk hv
      have hv':vs[i]?=some v:=by simpa using hv
      obtain ⟨d,hd,r⟩:=rl.get' hv'
      exact ⟨d,hd,r.mono fun b o hb e=>⟨hb,hk b o hb e⟩⟩
    · rintro i s' A' t v Q E ⟨⟨o,e,hc,_⟩,_⟩ hq
      exact letOwned_skip e hc (by decide) hq
theorem Src.tup {ds:List D}:Src (.tup ds) ds:=fun C A X s v Q E I hh r h=>by
  cases r with
  | @tup a vs n _ ha e rl =>
    have hl:s.heap.IsTuple a vs.toArray:=⟨_,e,rfl,n,rfl⟩
    have hne:a≠s.heap.objs.size:=Nat.ne_of_lt (Heap.lt_size e)
    have hlen:vs.toArray.size=ds.length:=by simp [rl.length]
    have W:=Walks.tuple (prog:=C.prog) (w:=C.w) hh s.heap.objs.size a hne vs.toArray
    rw [hlen] at W
    refine wpAny_pyIter_tuple hl (h _ _ _ _ _ _ .push' ⟨W,?_,?_,?_,?_,?_⟩ ⟨⟨_,Heap.get?_push_size _ rfl,rfl,rfl⟩,hl.at fun o e=>Heap.get?_push_of_some _ e⟩)
    · intro b hb;rw [List.mem_singleton.mp hb];exact none_of_ge (Nat.le_refl _)
    · intro b hb
      rcases List.mem_cons.mp hb with rfl | hb
      · exact .inl (.head _)
      · rw [List.mem_singleton.mp hb];exact .inr ⟨ha,_,e⟩
    · rintro i h' ⟨⟨o,e,_⟩,_⟩ b hb;rw [List.mem_singleton.mp hb];exact ⟨o,e⟩
    · intro i v h' hk hv
      have hv':vs[i]?=some v:=by simpa using hv
      obtain ⟨d,hd,r⟩:=rl.get' hv'
      exact ⟨d,hd,r.mono fun b o hb e=>⟨hb,hk b o hb e⟩⟩
    · rintro i s' A' t v Q E ⟨⟨o,e,hc,_⟩,_⟩ hq
      exact letOwned_skip e hc (by decide) hq
noncomputable def rngD (a c:Int) (n:Nat):List D:=(List.range n).map fun i=>D.int (a+(i:Nat)*c)
theorem Src.rng {a b c:Int} (n:Nat) (hsmall:Builtin.Range.small a b c=true) (hn:Builtin.Range.rangeSize a b c=(n:Int)):Src (.rng a b c) (rngD a c n):=fun C A X s v Q E I hh r h=>by
  cases r with
  | @rng r _ _ _ t u w ha e =>
    have W:=Walks.range (prog:=C.prog) (w:=C.w) hh s.heap.objs.size a c n
    have hlen:(rngD a c n).length=n:=by simp [rngD]
    rw [← hlen] at W
    refine wpAny_pyIter_range e hsmall (h _ _ _ _ _ _ .push' ⟨W.bound,?_,?_,?_,?_,?_⟩ ?_)
    · intro b hb;rw [List.mem_singleton.mp hb];exact none_of_ge (Nat.le_refl _)
    · intro b hb;exact .inl hb
    · intro i h' e b hb;rw [List.mem_singleton.mp hb];exact ⟨_,e⟩
    · rintro i v h' hk ⟨hi,t,rfl⟩
      rw [hlen] at hi
      exact ⟨.int (a+(i:Nat)*c),by simp [rngD,hi],.int ..⟩
    · intro i s' A' t v Q E e hq
      exact letOwned_skip e rfl (by decide) hq
    · show IsRangeIter _ _ _ _ _
      rw [hn,hlen]
      simpa using Heap.get?_push_size _ rfl
section
variable {g:G} {ρ:List (Option D)} {μ:List (Addr × Mut)} {S:List Addr} {s:Shared} {Φ:Flow→Shared→Prop} {rest:List Stmt}
theorem St.iter {X' : List Addr} {wr : List Addr} {h' : Heap} {tk : Nat} (y : St { g with X := wr ++ g.X } ρ μ s) (hk : ∀ b o, b ∉ wr → s.heap.get? b = some o → h'.get? b = some o)
    (hX:∀ a∈X',a∈wr++g.X) (hX':∀ a∈g.X,a∈X') (ho:∀ a∈wr,a∈X'→∃ o,h'.get? a=some o) (hw:∀ a∈wr,a∉g.X∧a∉g.C.P∧g.C.hb.get? a=none∧∀ x c,g.env.cells.lookup x=some c→a≠c)
    (hμ:∀ a∈doms μ,a∈g.X) (hE:EnvOk g.C g.X s.heap g.env) (hP:∀ p∈g.C.P,p∈g.X):St { g with X:=X' } ρ μ { s with heap:=h',toks:=tk }:=by
  have nP:∀ p∈g.C.P,p∉wr:=fun p hp hq=>(hw p hq).2.1 hp
  have hL:g.env.locals∉wr:=fun q=>(hw _ q).1 hE.inX
  have hcell:∀ x c,g.env.cells.lookup x=some c→c∉wr:=fun x c hc q=>(hw c q).2.2.2 x c hc rfl
  have up:∀ b o,b∉wr++g.X→s.heap.get? b=some o→b∉X'∧h'.get? b=some o:=fun b o hb e=>⟨fun q=>hb (hX b q),hk b o (fun q=>hb (List.mem_append_left _ q)) e⟩
  have bd:∀ x v,Bound s.heap g.env x v→Bound h' g.env x v:=fun x v b=>by
    rcases b with ⟨hk',m,hn,hm⟩ | ⟨hk',c,hc,o,e,hd⟩
    · exact .inl ⟨hk',m,hn.at' fun o e=>hk _ o hL e,hm⟩
    · exact .inr ⟨hk',c,hc,o,hk _ o (hcell x c hc) e,hd⟩
  refine ⟨⟨y.inv.base,fun b o hb e=>hk b o (fun q=>by rw [(hw b q).2.2.1] at e;cases e) (y.inv.keep b o hb e),fun p hp=>?_,y.inv.os,y.inv.gens,fun p hp=>hX' _ (hP p hp),fun a ha=>y.inv.new a (hX a ha),fun a ha=>?_⟩,
    ⟨hE.kind,hE.glob,hE.bi,let ⟨m,hn⟩:=hE.ns;⟨m,hn.at' fun o e=>hk _ o hL e⟩,hX' _ hE.inX,hE.lP,fun x c hc=>let ⟨a,b,v,o,e,hd⟩:=hE.cel x c hc;⟨a,b,v,o,hk _ o (hcell x c hc) e,hd⟩,fun x c h1 h2=>hX' _ (hE.own x c h1 h2),hE.inj⟩,
    fun i x d h1 h2=>let ⟨v,b,r⟩:=y.vars i x d h1 h2;⟨v,bd x v b,r.mono up⟩,fun p hp=>?_,fun a ha=>⟨hX' _ (hμ a ha),(y.mX a ha).2⟩,y.apart,y.nd⟩
  · obtain ⟨c,ps₀,more,hc,x,z,i⟩:=y.inv.tab p hp
    have hcw:c∉wr:=fun q=>by
      obtain ⟨⟨o,vs,e,_⟩,_⟩:=x
      rw [(hw c q).2.2.1] at e;cases e
    obtain ⟨⟨o,vs,e,e2,e3,e4⟩,e5⟩:=z
    refine ⟨c,ps₀,more,hc,x,⟨⟨o,vs,hk _ _ hcw e,e2,e3,e4⟩,hk _ _ (nP p hp) e5⟩,?_⟩
    obtain ⟨o,vs,file,tf,flags,tg,inF,text,tt,op,ho,hd,h11,h2,h7,h9,h10,hop,r⟩:=i
    exact ⟨o,vs,file,tf,flags,tg,inF,text,tt,op,hk _ _ hcw ho,hd,h11,h2,h7,h9,h10,hk _ _ (nP p hp) hop,r⟩
  · rcases List.mem_append.mp (hX a ha) with q | q
    · exact ho a q ha
    · obtain ⟨o,e⟩:=y.inv.occ a (List.mem_append_right _ q)
      exact ⟨o,hk _ o (fun z=>(hw a z).1 q) e⟩
  · have mo:=y.muts p hp
    have h1:p.1∉wr:=fun q=>(hw _ q).1 (hμ _ (mem_doms hp))
    have h2:∀ b∈p.2.more,b∉wr:=fun b hb q=>(hw _ q).1 (hμ _ (more_doms hp hb))
    have mo':MutOk (wr++g.X) h' p.1 p.2:=mo.mono (fun o e=>hk _ o h1 e) (fun b hb o e=>hk _ o (h2 b hb) e) (fun b o hb e=>(up b o hb e).2)
    exact mo'.sub fun a ha=>hX a ha
theorem St.wide {wr:List Addr} {s':Shared} (y:St g ρ μ s) (e:Ext g.C [] s s') (hn:∀ b∈wr,s.heap.get? b=none) (ho:∀ b∈wr,∃ o,s'.heap.get? b=some o):St { g with X:=wr++g.X } ρ μ s':=by
  have y':=y.ext e
  have up:∀ b o,b∉g.X→s.heap.get? b=some o→b∉wr++g.X∧s'.heap.get? b=some o:=fun b o hb q=>⟨fun z=>(List.mem_append.mp z).elim (fun z=>by rw [hn b z] at q;(first | obtain rfl:=q.vI | obtain ⟨_,rfl⟩:=q.iI | obtain ⟨_,rfl⟩:=q.sI | obtain ⟨_,rfl⟩:=q.bI | obtain rfl:=q.nI | cases q)) hb,e.keep b o (fun h=>nomatch h) (fun z=>hb (y.inv.pin _ z)) q⟩
  have nP:∀ b∈wr,b∉g.C.P:=fun b hb hP=>by
    obtain ⟨o,q⟩:=y.inv.occ b (y.inv.pin b hP)
    rw [hn b hb] at q;(first | obtain rfl:=q.vI | obtain ⟨_,rfl⟩:=q.iI | obtain ⟨_,rfl⟩:=q.sI | obtain ⟨_,rfl⟩:=q.bI | obtain rfl:=q.nI | cases q)
  refine ⟨⟨y'.inv.base,y'.inv.keep,y'.inv.tab,y'.inv.os,y'.inv.gens,fun p hp=>List.mem_append_right _ (y'.inv.pin p hp),fun a ha hP=>?_,fun a ha=>?_⟩,
    ⟨y'.envOk.kind,y'.envOk.glob,y'.envOk.bi,y'.envOk.ns,List.mem_append_right _ y'.envOk.inX,y'.envOk.lP,y'.envOk.cel,fun x c h1 h2=>List.mem_append_right _ (y'.envOk.own x c h1 h2),y'.envOk.inj⟩,
    fun i x d h1 h2=>?_,fun p hp=>?_,fun a ha=>⟨List.mem_append_right _ (y'.mX a ha).1,(y'.mX a ha).2⟩,y'.apart,y'.nd⟩
  · rcases List.mem_append.mp ha with q | q
    · exact y.inv.hb_none (hn a q) hP
    · exact y'.inv.new a q hP
  · rcases List.mem_append.mp ha with q | q
    · exact ho a q
    · exact y'.inv.occ a q
  · obtain ⟨v,b,r⟩:=y.vars i x d h1 h2
    exact ⟨v,b.ext e y.envOk (fun h=>nomatch h) (fun _ _ _ h=>nomatch h),r.mono up⟩
  · have m:=y.muts p hp
    have k:∀ b o,b∉g.C.P→s.heap.get? b=some o→s'.heap.get? b=some o:=fun b o hb q=>e.keep b o (fun h=>nomatch h) hb q
    cases hm:p.2 with
    | lst ds=>rw [hm] at m;obtain ⟨vs,n,z,r⟩:=m;exact ⟨vs,n,k _ _ (y.mX _ (mem_doms hp)).2.1 z,r.mono up⟩
    | acc cls dx ds =>
      rw [hm] at m;obtain ⟨⟨vs,n,z,r⟩,hne,hsh,t,u,n',z2⟩:=m
      exact ⟨⟨vs,n,k _ _ (y.mX _ (mem_doms hp)).2.1 z,r.mono up⟩,hne,hsh,t,u,n',k _ _ (y.mX _ (more_doms hp (by rw [hm];exact .head _))).2.1 z2⟩
    | inst cls dx =>
      rw [hm] at m;obtain ⟨⟨sl,z⟩,hne,hsh,t,v,n,z2⟩:=m
      exact ⟨⟨sl,k _ _ (y.mX _ (mem_doms hp)).2.1 z⟩,hne,hsh,t,v,n,k _ _ (y.mX _ (more_doms hp (by rw [hm];exact .head _))).2.1 z2⟩
    | ba b=>rw [hm] at m;obtain ⟨n,z⟩:=m;exact ⟨n,k _ _ (y.mX _ (mem_doms hp)).2.1 z⟩
    | obj o dx od=>rw [hm] at m;exact ⟨k _ _ (y.mX _ (mem_doms hp)).2.1 m.1,m.2.1,k _ _ (y.mX _ (more_doms hp (by rw [hm];exact .head _))).2.1 m.2.2⟩
end
end Mine
end
section
open PySem PySem.Calls PySem.W PyProof.Rows
namespace Mine
section
variable {g:G} {ρ:List (Option D)} {μ:List (Addr × Mut)} {S:List Addr} {s:Shared} {Φ:Flow→Shared→Prop} {rest:List Stmt}
theorem Ext.iter {C : Cx} {s₀ s : Shared} {wr : List Addr} {h' : Heap} {tk : Nat} (e : Ext C S s₀ s) (hk : ∀ b o, b ∉ wr → s.heap.get? b = some o → h'.get? b = some o) (hn : ∀ b ∈ wr, s₀.heap.get? b = none)
    (hw:∀ b∈wr,C.hb.get? b=none):Ext C S s₀ { s with heap:=h',toks:=tk } where
  keep:=fun b o h1 h2 q=>hk b o (fun z=>by rw [hn b z] at q;(first | obtain rfl:=q.vI | obtain ⟨_,rfl⟩:=q.iI | obtain ⟨_,rfl⟩:=q.sI | obtain ⟨_,rfl⟩:=q.bI | obtain rfl:=q.nI | cases q)) (e.keep b o h1 h2 q)
  occ:=fun b o q=>let ⟨o',q'⟩:=e.occ b o q;⟨o',hk b o' (fun z=>by rw [hn b z] at q;(first | obtain rfl:=q.vI | obtain ⟨_,rfl⟩:=q.iI | obtain ⟨_,rfl⟩:=q.sI | obtain ⟨_,rfl⟩:=q.bI | obtain rfl:=q.nI | cases q)) q'⟩
  tab:=fun t p hp=>by
    obtain ⟨c,ps₀,more,hc,x,z,i⟩:=e.tab t p hp
    have hcw:c∉wr:=fun q=>by
      obtain ⟨⟨o,vs,e,_⟩,_⟩:=x
      rw [hw c q] at e;cases e
    have hpw:p∉wr:=fun q=>by
      obtain ⟨_,e⟩:=x
      rw [hw p q] at e;cases e
    obtain ⟨⟨o,vs,e,e2,e3,e4⟩,e5⟩:=z
    refine ⟨c,ps₀,more,hc,x,⟨⟨o,vs,hk _ _ hcw e,e2,e3,e4⟩,hk _ _ hpw e5⟩,?_⟩
    obtain ⟨o,vs,file,tf,flags,tg,inF,text,tt,op,ho,hd,h11,h2,h7,h9,h10,hop,r⟩:=i
    exact ⟨o,vs,file,tf,flags,tg,inF,text,tt,op,hk _ _ hcw ho,hd,h11,h2,h7,h9,h10,hk _ _ hpw hop,r⟩
  os:=e.os
  gens:=e.gens
noncomputable def Turn (g:G) (J:List (Option D)→List (Addr × Mut)→Prop) (B:List (Option D)→List (Addr × Mut)→Prop) (Φ:Flow→Shared→Prop) (fl:Flow) (s':Shared):Prop:=match fl with
  | .next | .cont=>∃ ρ' μ',J ρ' μ'∧St g ρ' μ' s'
  | .brk=>∃ ρ' μ',B ρ' μ'∧St g ρ' μ' s'
  | .ret v=>Φ (.ret v) s'
theorem Ex.for {target iter : Expr} {body : List Stmt} {pos : Pos} {d : D} {ds : List D} (R : Room g.A 0) (hS : ∀ a ∈ S, a ∈ g.X) (hi : Ev g ρ μ iter d) (src : Src d ds)
    (J:Nat→List (Option D)→List (Addr × Mut)→Prop) (B:List (Option D)→List (Addr × Mut)→Prop) (upd:List (Option D)→D→List (Option D))
    (hμ:∀ i ρ' μ',J i ρ' μ'→doms μ'=doms μ) (hB:∀ ρ' μ',B ρ' μ'→doms μ'=doms μ) (j0:J 0 ρ μ)
    (asg:∀ X',(∀ a∈g.X,a∈X')→∀ ρ' μ' a s v,St { g with X:=X' } ρ' μ' s→Rep X' s.heap v a→a∈ds→Dn g.C g.A S s (PySem.assign target g.env v) fun _ s'=>St { g with X:=X' } (upd ρ' a) μ' s')
    (turn:∀ wr i a ρ' μ',ds[i]?=some a→J i ρ' μ'→Ex { g with X:=wr++g.X } S (upd ρ' a) μ' body (Turn { g with X:=wr++g.X } (J (i+1)) B Φ))
    (done:∀ ρ' μ',J ds.length ρ' μ'→Ex g S ρ' μ' rest Φ) (brk:∀ ρ' μ',B ρ' μ'→Ex g S ρ' μ' rest Φ)
    (hs:∀ x,foldedSetIterable iter g.env x=pure x:=by intro _;rfl):Ex g S ρ μ (.For target iter body [] pos::rest) Φ:=Ex.step fun s y=>by
  refine wpAny_For (hi.wp y fun v s₁ y₁ r₁ e₁=>src g.C g.A g.X s₁ v _ _ y₁.inv R.h r₁ fun I fp wr P W s₂ e₂ it w0=>?_) hs
  have hwX:∀ a∈wr,a∉g.X:=fun a ha q=>by
    obtain ⟨o,e⟩:=y₁.inv.occ a q
    rw [it.new a ha] at e;cases e
  have hwP:∀ a∈wr,a∉g.C.P:=fun a ha q=>hwX a ha (y₁.inv.pin a q)
  have hwn:∀ a∈wr,g.C.hb.get? a=none:=fun a ha=>y₁.inv.hb_none (it.new a ha) (hwP a ha)
  have hwc:∀ a∈wr,∀ x c,g.env.cells.lookup x=some c→a≠c:=fun a ha x c hc e=>by
    obtain ⟨_,_,v,o,q,_⟩:=y₁.envOk.cel x c hc
    rw [← e,it.new a ha] at q;(first | obtain rfl:=q.vI | obtain ⟨_,rfl⟩:=q.iI | obtain ⟨_,rfl⟩:=q.sI | obtain ⟨_,rfl⟩:=q.bI | obtain rfl:=q.nI | cases q)
  have hwS:∀ a∈wr,a∉S:=fun a ha q=>hwX a ha (hS a q)
  have frame:∀ i (t t':Shared),Ext g.C S s₁ t→Ext g.C S t t'→W i t.heap→W i t'.heap:=fun i t t' e0 e w=>it.walk.frame i _ _ w fun b hb o q=>by
    rcases it.fpX b hb with hb' | ⟨hb',_⟩
    · exact e.keep b o (hwS b hb') (hwP b hb') q
    · exact e.keep b o (fun z=>hb' (hS b z)) (fun z=>hb' (y₁.inv.pin b z)) q
  have y₂:St { g with X:=wr++g.X } ρ μ s₂:=y₁.wide e₂ it.new (it.occ _ _ w0)
  have wide0:∀ {t t':Shared},Ext g.C [] t t'→Ext g.C S t t':=fun e=>e.wider fun _ h=>nomatch h
  refine codeAny_forLoop_any (fun n t=>∃ i ρ' μ',i≤ds.length∧n=ds.length+1 - i∧J i ρ' μ'∧W i t.heap∧St { g with X:=wr++g.X } ρ' μ' t∧EnvOk g.C g.X t.heap g.env∧Ext g.C S s₁ t) ?_ (ds.length+1)
    ⟨0,ρ,μ,Nat.zero_le _,rfl,j0,w0,y₂,y₁.envOk.ext e₂ (fun h=>nomatch h) (fun _ _ _ h=>nomatch h),wide0 e₂⟩
  rintro n t ⟨i,ρ',μ',hle,rfl,hj,hw,yt,ht,et⟩
  have hμ':∀ a∈doms μ',a∈g.X:=fun a ha=>(y.mX a (by rw [hμ i ρ' μ' hj] at ha;exact ha)).1
  have hwall:∀ a∈wr,a∉g.X∧a∉g.C.P∧g.C.hb.get? a=none∧∀ x c,g.env.cells.lookup x=some c→a≠c:=fun a ha=>⟨hwX a ha,hwP a ha,hwn a ha,hwc a ha⟩
  by_cases hlt:i < ds.length
  · refine it.walk.item i _ _ _ hlt hw fun v h' tk hP hw' hk=>?_
    have et':Ext g.C S s₁ { t with heap:=h',toks:=tk }:=et.iter hk it.new hwn
    have y':St { g with X:=wr++g.X } ρ' μ' { t with heap:=h',toks:=tk }:=yt.iter hk (fun _ h=>h) (fun _ h=>List.mem_append_right _ h) (fun a ha _=>it.occ _ _ hw' a ha) hwall hμ' ht y.inv.pin
    obtain ⟨a,ha,ra⟩:=it.item i v h' (fun b o hb q=>et'.keep b o (fun z=>hb (hS b z)) (fun z=>hb (y₁.inv.pin b z)) q) hP
    have ra':Rep (wr++g.X) h' v a:=by
      obtain ⟨d',hd',rr⟩:=it.item i v s₁.heap (fun b o _ q=>q) hP
      rw [ha] at hd';cases hd'
      exact rr.mono fun b o hb q=>⟨fun z=>(List.mem_append.mp z).elim (fun z=>by rw [it.new b z] at q;(first | obtain rfl:=q.vI | obtain ⟨_,rfl⟩:=q.iI | obtain ⟨_,rfl⟩:=q.sI | obtain ⟨_,rfl⟩:=q.bI | obtain rfl:=q.nI | cases q)) hb,et'.keep b o (fun z=>hb (hS b z)) (fun z=>hb (y₁.inv.pin b z)) q⟩
    refine it.lt (i+1) { t with heap:=h',toks:=tk } g.A target v _ _ hw' ?_
    refine (asg (wr++g.X) (fun _ h=>List.mem_append_right _ h) ρ' μ' a _ v y' ra' (List.mem_of_getElem? ha)).use fun _ s₃ e₃ y₃=>?_
    refine (turn wr i a ρ' μ' ha hj s₃ y₃).use fun fl s₄ e₄ q=>?_
    have e₃₄:=e₃.trans e₄
    have fin:∀ ρ'' μ'',J (i+1) ρ'' μ''→St { g with X:=wr++g.X } ρ'' μ'' s₄→∃ m,m < ds.length+1 - i∧∃ i ρ' μ',i≤ds.length∧m=ds.length+1 - i∧J i ρ' μ'∧W i s₄.heap∧St { g with X:=wr++g.X } ρ' μ' s₄∧EnvOk g.C g.X s₄.heap g.env∧Ext g.C S s₁ s₄:=fun ρ'' μ'' hj'' y₄ =>
      ⟨ds.length+1 - (i+1),by lia,i+1,ρ'',μ'',hlt,rfl,hj'',frame _ _ _ et' e₃₄ hw',y₄,⟨y₄.envOk.kind,y₄.envOk.glob,y₄.envOk.bi,y₄.envOk.ns,y.envOk.inX,y₄.envOk.lP,y₄.envOk.cel,y.envOk.own,y₄.envOk.inj⟩,et'.trans e₃₄⟩
    cases fl with
    | next=>obtain ⟨ρ'',μ'',hj'',y₄⟩:=q;exact fin ρ'' μ'' hj'' y₄
    | cont=>obtain ⟨ρ'',μ'',hj'',y₄⟩:=q;exact fin ρ'' μ'' hj'' y₄
    | brk =>
      obtain ⟨ρ'',μ'',hb,y₄⟩:=q
      have hμ'':∀ a∈doms μ'',a∈g.X:=fun a ha=>(y.mX a (by rw [hB ρ'' μ'' hb] at ha;exact ha)).1
      have y₅:St g ρ'' μ'' s₄:=y₄.iter (X':=g.X) (h':=s₄.heap) (tk:=s₄.toks) (fun b o _ e=>e) (fun a h=>List.mem_append_right _ h) (fun _ h=>h) (fun a ha q=>absurd q (hwX a ha)) hwall hμ''
        ⟨y₄.envOk.kind,y₄.envOk.glob,y₄.envOk.bi,y₄.envOk.ns,y.envOk.inX,y₄.envOk.lP,y₄.envOk.cel,y.envOk.own,y₄.envOk.inj⟩ y.inv.pin
      exact ⟨(wide0 e₁).trans (et'.trans e₃₄),brk ρ'' μ'' hb s₄ y₅⟩
    | ret v=>exact ⟨(wide0 e₁).trans (et'.trans e₃₄),q⟩
  · have hi':i=ds.length:=by lia
    subst hi'
    refine it.walk.done _ _ _ hw fun h' tk hk=>?_
    have et':Ext g.C S s₁ { t with heap:=h',toks:=tk }:=et.iter hk it.new hwn
    have y':St g ρ' μ' { t with heap:=h',toks:=tk }:=yt.iter (X':=g.X) hk (fun _ h=>List.mem_append_right _ h) (fun _ h=>h) (fun a ha q=>absurd q (hwX a ha)) hwall hμ' ht y.inv.pin
    exact wpAny_execs_nil ⟨(wide0 e₁).trans et',done ρ' μ' hj _ y'⟩
theorem asg_name {x : Str} {p : Pos} (i : Nat) (h1 : g.ns[i]? = some x) (hk : Stored g S x) {X' : List Addr} {ρ' : List (Option D)} {μ' : List (Addr × Mut)} {a : D} {v : Value} (y : St { g with X := X' } ρ' μ' s) (r : Rep X' s.heap v a) :
    Dn g.C g.A S s (assign (.Name x p) g.env v) fun _ s'=>St { g with X:=X' } (ρ'.set i (some a)) μ' s' :=
  wpAny_assign_Name (St.store (g:={ g with X:=X' }) y h1 hk r)
theorem Ex.forN (i : Nat) {x : Str} {p : Pos} {iter : Expr} {body : List Stmt} {pos : Pos} {d : D} {ds : List D} (R : Room g.A 0) (h1 : g.ns[i]? = some x) (hk : Stored g S x) (hS : ∀ a ∈ S, a ∈ g.X) (hi : Ev g ρ μ iter d) (src : Src d ds)
    (J:Nat→List (Option D)→List (Addr × Mut)→Prop) (B:List (Option D)→List (Addr × Mut)→Prop)
    (hμ:∀ i ρ' μ',J i ρ' μ'→doms μ'=doms μ) (hB:∀ ρ' μ',B ρ' μ'→doms μ'=doms μ) (j0:J 0 ρ μ)
    (turn:∀ wr j a ρ' μ',ds[j]?=some a→J j ρ' μ'→Ex { g with X:=wr++g.X } S (ρ'.set i (some a)) μ' body (Turn { g with X:=wr++g.X } (J (j+1)) B Φ))
    (done:∀ ρ' μ',J ds.length ρ' μ'→Ex g S ρ' μ' rest Φ) (brk:∀ ρ' μ',B ρ' μ'→Ex g S ρ' μ' rest Φ)
    (hs:∀ x,foldedSetIterable iter g.env x=pure x:=by intro _;rfl):Ex g S ρ μ (.For (.Name x p) iter body [] pos::rest) Φ :=
  Ex.for R hS hi src J B (fun ρ a=>ρ.set i (some a)) hμ hB j0 (fun X' _ ρ' μ' a s v y r _=>asg_name i h1 hk y r) turn done brk hs
theorem Ex.while {test : Expr} {body : List Stmt} {pos : Pos} (J : Nat → List (Option D) → List (Addr × Mut) → Prop) (B : List (Option D) → List (Addr × Mut) → Prop) (n : Nat) (j0 : J n ρ μ)
    (turn:∀ n ρ' μ',J n ρ' μ'→∃ b,EvT g ρ' μ' test b∧(b=true→Ex g S ρ' μ' body (Turn g (fun ρ'' μ''=>∃ m,m < n∧J m ρ'' μ'') B Φ))∧(b=false→Ex g S ρ' μ' rest Φ)) (brk:∀ ρ' μ',B ρ' μ'→Ex g S ρ' μ' rest Φ) :
    Ex g S ρ μ (.While test body [] pos::rest) Φ:=Ex.step fun s y=>by
  refine wpAny_While (codeAny_whileLoop (fun n t=>∃ ρ' μ',J n ρ' μ'∧St g ρ' μ' t∧Ext g.C S s t) ?_ n ⟨ρ,μ,j0,y,.refl ..⟩)
  rintro n t ⟨ρ',μ',hj,yt,et⟩
  obtain ⟨b,hb,h1,h2⟩:=turn n ρ' μ' hj
  refine hb.wp yt fun s₁ y₁ e₁=>?_
  have e₁':Ext g.C S s s₁:=et.trans (e₁.wider fun _ h=>nomatch h)
  cases b with
  | false=>exact wpAny_execs_nil ⟨e₁',h2 rfl s₁ y₁⟩
  | true =>
    refine (h1 rfl s₁ y₁).use fun fl s₂ e₂ q=>?_
    cases fl with
    | next=>obtain ⟨ρ'',μ'',⟨m,hm,hj'⟩,y₂⟩:=q;exact ⟨m,hm,ρ'',μ'',hj',y₂,e₁'.trans e₂⟩
    | cont=>obtain ⟨ρ'',μ'',⟨m,hm,hj'⟩,y₂⟩:=q;exact ⟨m,hm,ρ'',μ'',hj',y₂,e₁'.trans e₂⟩
    | brk=>obtain ⟨ρ'',μ'',hb',y₂⟩:=q;exact ⟨e₁'.trans e₂,brk ρ'' μ'' hb' s₂ y₂⟩
    | ret v=>exact ⟨e₁'.trans e₂,q⟩
end
end Mine
end
section
open PySem PySem.Calls PySem.W PyProof.Rows
namespace Mine
noncomputable def closL (cells:List (Str × Addr)):List (Str × NameKind)→List (Str × Addr)→List (Str × Addr)
  | [],acc=>acc
  | (n,k)::r,acc=>if k == .free then closL cells r (match cells.lookup n with | some c=>(n,c)::acc | none=>acc) else closL cells r acc
theorem closureFor_is {scope:Scope} {env:Env} (h:∀ x∈scope.names,x.2=.free→(env.cells.lookup x.1).isSome=true):closureFor scope env=pure (closL env.cells scope.names []):=by
  have key : ∀ (l : List (Str × NameKind)) (acc : List (Str × Addr)), (∀ x ∈ l, x.2 = .free → (env.cells.lookup x.1).isSome = true) →
      (forIn l acc fun (x:Str × NameKind) (r:List (Str × Addr))=>match x with
        | (name,kind)=>if (kind == .free)=true then (do let c ← cellOf env name;pure (ForInStep.yield ((name,c)::r))) else pure (ForInStep.yield r):Sem (List (Str × Addr)))=pure (closL env.cells l acc):=by
    intro l
    induction l with
    | nil=>intro acc _;rfl
    | cons x r ih =>
      intro acc hx
      obtain ⟨n,k⟩:=x
      rw [List.forIn_cons]
      dsimp only
      cases hk:(k == NameKind.free) with
      | false =>
        simp only [Bool.false_eq_true,if_false,pure_bind]
        rw [ih _ fun y hy=>hx y (.tail _ hy)]
        simp only [closL,hk,Bool.false_eq_true,if_false]
      | true =>
        obtain ⟨c,hc⟩:=Option.isSome_iff_exists.mp (hx (n,k) (.head _) (by simpa using hk))
        simp only [if_true]
        have e:cellOf env n=pure c:=by unfold cellOf;rw [hc]
        rw [e]
        simp only [pure_bind]
        rw [ih _ fun y hy=>hx y (.tail _ hy)]
        simp only [closL,hk,if_true,hc]
  have:=key scope.names [] h
  unfold closureFor
  refine Eq.trans ?_ this
  show (forIn scope.names ([]:List (Str × Addr)) _ >>= fun r=>pure r)=_
  rw [bind_pure]
theorem closL_lookup {cells:List (Str × Addr)} {x:Str} {c:Addr} (hc:cells.lookup x=some c):∀ (l:List (Str × NameKind)) (acc:List (Str × Addr)),((x,.free)∈l∨acc.lookup x=some c)→(closL cells l acc).lookup x=some c
  | [],acc,h=>h.elim (fun h=>nomatch h) id
  | (n,k)::r,acc,h=>by
    unfold closL
    by_cases hk:k=.free
    · subst hk
      simp only [beq_self_eq_true,if_true]
      by_cases hn:n=x
      · subst hn
        rw [hc]
        exact closL_lookup hc r _ (.inr (by simp))
      · have hxn:(x == n)=false:=beq_eq_false_iff_ne.mpr (Ne.symm hn)
        refine closL_lookup hc r _ ?_
        rcases h with h | h
        · rcases List.mem_cons.mp h with e | h
          · exact absurd (by injection e with a b;exact a.symm) hn
          · exact .inl h
        · right
          cases cells.lookup n with
          | none=>exact h
          | some c'=>simp only [List.lookup_cons,hxn];exact h
    · have hk':(k == NameKind.free)=false:=by simpa using hk
      simp only [hk',Bool.false_eq_true,if_false]
      refine closL_lookup hc r _ (h.imp (fun h=>?_) id)
      rcases List.mem_cons.mp h with e | h
      · exact absurd (by injection e with a b;exact b.symm) hk
      · exact h
theorem closL_mem {cells:List (Str × Addr)} {x:Str} {c:Addr}:∀ (l:List (Str × NameKind)) (acc:List (Str × Addr)),(x,c)∈closL cells l acc→(x,c)∈acc∨(cells.lookup x=some c∧(x,NameKind.free)∈l)
  | [],acc,h=>.inl h
  | (n,k)::r,acc,h=>by
    unfold closL at h
    by_cases hk:k=.free
    · subst hk
      simp only [beq_self_eq_true,if_true] at h
      rcases closL_mem r _ h with h | h
      · cases hc:cells.lookup n with
        | none=>rw [hc] at h;exact .inl h
        | some c' =>
          rw [hc] at h
          rcases List.mem_cons.mp h with e | h
          · injection e with a b;subst a;subst b;exact .inr ⟨hc,.head _⟩
          · exact .inl h
      · exact .inr ⟨h.1,.tail _ h.2⟩
    · have hk':(k == NameKind.free)=false:=by simpa using hk
      simp only [hk',Bool.false_eq_true,if_false] at h
      rcases closL_mem r _ h with h | h
      · exact .inl h
      · exact .inr ⟨h.1,.tail _ h.2⟩
theorem closL_apart {cells : List (Str × Addr)} (inj : ∀ x y c, cells.lookup x = some c → cells.lookup y = some c → x = y) : ∀ (l : List (Str × NameKind)) (acc : List (Str × Addr)), (l.map (·.1)).Nodup →
    (∀ x c,(x,c)∈acc→cells.lookup x=some c∧x∉l.map (·.1))→acc.Pairwise (fun a b=>a.2≠b.2)→(closL cells l acc).Pairwise fun a b=>a.2≠b.2
  | [],acc,_,_,h=>h
  | (n,k)::r,acc,hnd,hacc,h=>by
    simp only [List.map_cons,List.nodup_cons] at hnd
    have hacc':∀ x c,(x,c)∈acc→cells.lookup x=some c∧x∉r.map (·.1):=fun x c hx=>⟨(hacc x c hx).1,fun q=>(hacc x c hx).2 (by simp only [List.map_cons];exact .tail _ q)⟩
    unfold closL
    split
    · cases hc:cells.lookup n with
      | none=>exact closL_apart inj r acc hnd.2 hacc' h
      | some c =>
        refine closL_apart inj r _ hnd.2 (fun x c' hx=>?_) (List.pairwise_cons.mpr ⟨fun b hb e=>?_,h⟩)
        · rcases List.mem_cons.mp hx with e | hx
          · injection e with a b;subst a;subst b;exact ⟨hc,hnd.1⟩
          · exact hacc' x c' hx
        · obtain ⟨x,c'⟩:=b
          have e':c=c':=e
          subst e'
          have:=inj n x c hc (hacc x c hb).1
          exact (hacc x c hb).2 (by rw [← this];simp)
    · exact closL_apart inj r acc hnd.2 hacc' h
theorem cellsFrom_old {x:Str}:∀ (l:List (Str × NameKind)) (k:Nat) (acc:List (Str × Addr)),(x,NameKind.cell)∉l→(cellsFrom k l acc).lookup x=acc.lookup x
  | [],_,_,_=>rfl
  | (n,kd)::r,k,acc,h=>by
    have hr:(x,NameKind.cell)∉r:=fun q=>h (.tail _ q)
    unfold cellsFrom
    split
    · rename_i hk
      rw [cellsFrom_old r _ _ hr]
      have hne:(x == n)=false:=beq_eq_false_iff_ne.mpr fun e=>h (by
        have:kd=NameKind.cell:=by simpa using hk
        rw [e,this];exact .head _)
      simp only [List.lookup_cons,hne]
    · exact cellsFrom_old r _ _ hr
theorem cellsFrom_cases:∀ (l:List (Str × NameKind)) (h:Heap) (acc:List (Str × Addr)) {n:Str} {c:Addr},(n,c)∈cellsFrom h.objs.size l acc→(n,c)∈acc∨(h.objs.size≤c∧(n,NameKind.cell)∈l∧(pushCells h l).IsCell c none)
  | [],_,_,_,_,h=>.inl h
  | (x,k)::r,h,acc,n,c,hm=>by
    unfold cellsFrom at hm
    unfold pushCells
    split
    · rename_i hk
      rw [if_pos hk] at hm
      rw [← Heap.size_push h { cls:=.type "cell",data:=.cell none }] at hm
      rcases cellsFrom_cases r _ _ hm with q | ⟨q1,q2,q3⟩
      · rcases List.mem_cons.mp q with e | q
        · injection e with a b
          subst a;subst b
          refine .inr ⟨Nat.le_refl _,?_,⟨_,pushCells_keeps r _ _ _ (Heap.get?_push_size _ rfl),rfl⟩⟩
          have:k=NameKind.cell:=by simpa using hk
          rw [this];exact .head _
        · exact .inl q
      · exact .inr ⟨by rw [Heap.size_push] at q1;lia,.tail _ q2,q3⟩
    · rename_i hk
      rw [if_neg hk] at hm
      rcases cellsFrom_cases r _ _ hm with q | ⟨q1,q2,q3⟩
      · exact .inl q
      · exact .inr ⟨q1,.tail _ q2,q3⟩
theorem cellsFrom_apart:∀ (l:List (Str × NameKind)) (k:Nat) (acc:List (Str × Addr)),(∀ x c,(x,c)∈acc→c < k)→acc.Pairwise (fun a b=>a.2≠b.2)→(cellsFrom k l acc).Pairwise fun a b=>a.2≠b.2
  | [],_,_,_,h=>h
  | (x,kd)::r,k,acc,hl,h=>by
    unfold cellsFrom
    split
    · refine cellsFrom_apart r _ _ (fun y c hy=>?_) (List.pairwise_cons.mpr ⟨fun b hb e=>?_,h⟩)
      · rcases List.mem_cons.mp hy with e | hy
        · injection e with a b;subst b;exact Nat.lt_succ_self _
        · exact Nat.lt_succ_of_lt (hl y c hy)
      · have h1:b.2 < k:=hl b.1 b.2 hb
        have e':k=b.2:=e
        rw [← e'] at h1
        exact Nat.lt_irrefl _ h1
    · exact cellsFrom_apart r _ _ hl h
noncomputable def compCells (env:Env) (scope:Scope) (L:Addr):List (Str × Addr):=cellsFrom (L+1) scope.names (closL env.cells scope.names [])
noncomputable def cEnv (env:Env) (scope:Scope) (L:Addr):Env:=compEnvC scope (compCells env scope L) L env
theorem newCompEnv {M : Model} {A : Around} {E : Value → Shared → Prop} {s : Shared} {scope : Scope} {env : Env} {Q : Env → Shared → Prop}
    (hQ:Q (newEnv scope s.heap.objs.size env.globals (compCells env scope s.heap.objs.size) env.qual none .none (some env) builtinsNs) { s with heap:=pushCells (s.heap.push { cls:=.type "dict",data:=.dict #[] }) scope.names }) :
    wpAny M A (newFunctionEnv scope env.globals (closL env.cells scope.names []) [] env.qual none .none (some env)) Q E s:=by
  simp only [newFunctionEnv,Option.isSome_some,if_true]
  refine wpAny_bind (wpAny_alloc ?_)
  refine wpAny_bind (wpAny_layCells _ (fun name kind cells=>by cases hkc:kind == NameKind.cell <;> simp [hkc]) _ _ _ _ ?_)
  rw [show ({ s with heap:=s.heap.push { cls:=.type "dict",data:=.dict #[] } }:Shared).heap.objs.size=s.heap.objs.size+1 from Heap.size_push ..]
  rw [List.forIn_nil]
  exact wpAny_bind (wpAny_pure (wpAny_pure hQ))
noncomputable def compOk (env:Env) (gns:List Str) (scope:Scope) (tn:List Str) (cs:List (Nat × Str)):Bool :=
  scope.kind == .function && decide (scope.names.map (·.1)).Nodup && decide (tn++cs.map (·.2)).Nodup && (cs.all fun p=>gns[p.1]? == some p.2 && scope.names.contains (p.2,.free)) &&
  (scope.names.all fun x=>x.2 != .free || ((env.cells.lookup x.1).isSome && (env.kindOf x.1 == some .cell || env.kindOf x.1 == some .free))) &&
  (tn.all fun x=>scope.names.contains (x,.local) || scope.names.contains (x,.cell))
theorem lookup_of_nodup {α:Type}:∀ {l:List (Str × α)} {x:Str} {k:α},(l.map (·.1)).Nodup→(x,k)∈l→l.lookup x=some k
  | (n,k')::r,x,k,hn,h=>by
    simp only [List.map_cons,List.nodup_cons] at hn
    rw [List.lookup_cons]
    rcases List.mem_cons.mp h with e | h
    · injection e with a b;subst a;subst b;simp
    · have hb:(x == n)=false:=beq_eq_false_iff_ne.mpr fun e=>hn.1 (e ▸ List.mem_map.mpr ⟨_,h,rfl⟩)
      rw [hb];exact lookup_of_nodup hn.2 h
theorem cellsFrom_app:∀ (l:List (Str × NameKind)) (k:Nat) (acc:List (Str × Addr)),cellsFrom k l acc=cellsFrom k l []++acc
  | [],_,_=>rfl
  | (n,kd)::r,k,acc=>by
    unfold cellsFrom
    split
    · rw [cellsFrom_app r _ ((n,k)::acc),cellsFrom_app r _ [(n,k)],List.append_assoc];rfl
    · exact cellsFrom_app r _ acc
theorem lookup_relabel {env:Env} {scope:Scope} {x:Str} {k:NameKind} (h:scope.names.lookup x=some k):(relabel scope env).names.lookup x=some (if (k == .free && env.scope.kind == .function && env.kindOf x == some .cell)=true then .cell else k):=by
  unfold relabel
  dsimp only
  generalize scope.names=l at h
  induction l with
  | nil=>cases h
  | cons p r ih =>
    obtain ⟨n,k'⟩:=p
    simp only [List.map_cons]
    by_cases hx:x=n
    · subst hx
      simp only [List.lookup_cons,beq_self_eq_true] at h
      cases h
      by_cases hc:(k == .free && env.scope.kind == .function && env.kindOf x == some .cell)=true
      · rw [if_pos hc,if_pos hc];simp
      · rw [if_neg hc,if_neg hc];simp
    · have hb:(x == n)=false:=beq_eq_false_iff_ne.mpr hx
      simp only [List.lookup_cons,hb] at h
      have:=ih h
      by_cases hc:(k' == .free && env.scope.kind == .function && env.kindOf n == some .cell)=true
      · rw [if_pos hc];simp only [List.lookup_cons,hb];exact this
      · rw [if_neg hc];simp only [List.lookup_cons,hb];exact this
noncomputable def capD (ρ:List (Option D)) (cs:List (Nat × Str)):List (Option D):=cs.map fun p=>(ρ[p.1]?).join
section
variable {g:G} {ρ:List (Option D)} {μ:List (Addr × Mut)} {S:List Addr} {s:Shared}
theorem St.forget {ρ':List (Option D)} (y:St g ρ μ s) (h:∀ (i:Nat) d,ρ'[i]?=some (some d)→ρ[i]?=some (some d)):St g ρ' μ s :=
  ⟨y.inv,y.envOk,fun i x d h1 h2=>y.vars i x d h1 (h i d h2),y.muts,y.mX,y.apart,y.nd⟩
noncomputable def cOwn (scope:Scope) (L:Addr):List Addr:=L::(cellsFrom (L+1) scope.names []).map (·.2)
theorem St.comp {scope : Scope} {tn : List Str} {cs : List (Nat × Str)} {s₃ : Shared} {W : List Addr} (ok : compOk g.env g.ns scope tn cs = true) (y : St g ρ μ s)
    (e:Ext g.C [] s { s₃ with heap:=pushCells (s₃.heap.push { cls:=.type "dict",data:=.dict #[] }) scope.names }) (hle:∀ b o,s.heap.get? b=some o→b < s₃.heap.objs.size)
    (hW:∀ b∈W,s.heap.get? b=none∧∃ o,s₃.heap.get? b=some o) :
    St { g with X:=W++(cOwn scope s₃.heap.objs.size++g.X),env:=cEnv g.env scope s₃.heap.objs.size,ns:=tn++cs.map (·.2) }
      (tn.map (fun _=>none)++capD ρ cs) μ { s₃ with heap:=pushCells (s₃.heap.push { cls:=.type "dict",data:=.dict #[] }) scope.names }:=by
  simp only [compOk,Bool.and_eq_true,decide_eq_true_eq,beq_iff_eq,List.all_eq_true,List.contains_iff_mem,Bool.or_eq_true,bne_iff_ne,ne_eq] at ok
  obtain ⟨⟨⟨⟨⟨k1,k2⟩,k3⟩,k4⟩,k5⟩,k6⟩:=ok
  generalize hH:s₃.heap.push { cls:=.type "dict",data:=.dict #[] }=H at e ⊢
  have hHs:H.objs.size=s₃.heap.objs.size+1:=by rw [← hH,Heap.size_push]
  have hk:∀ b o,s₃.heap.get? b=some o→(pushCells H scope.names).get? b=some o:=fun b o q=>pushCells_keeps _ _ b o (hH ▸ Heap.get?_push_of_some _ q)
  have hns:(pushCells H scope.names).Ns s₃.heap.objs.size (fun _=>none):=(hH ▸ Heap.Ns.new s₃.heap (.type "dict")).keeps (pushCells_keeps _ _)
  generalize hL:s₃.heap.objs.size=L at *
  have fresh:∀ c:Addr,@LE.le Nat _ L c→s.heap.get? c=none:=fun c hc=>by
    cases q:s.heap.get? c with
    | none=>rfl
    | some o=>exact absurd (hle c o q) (Nat.not_lt.mpr hc)
  have own:∀ n c,(n,c)∈cellsFrom (L+1) scope.names []→@LE.le Nat _ (L+1) c∧(n,NameKind.cell)∈scope.names∧(pushCells H scope.names).IsCell c none:=fun n c hm=>by
    rw [← hHs] at hm
    rcases cellsFrom_cases _ _ _ hm with q | q
    · (first | obtain rfl:=q.vI | obtain ⟨_,rfl⟩:=q.iI | obtain ⟨_,rfl⟩:=q.sI | obtain ⟨_,rfl⟩:=q.bI | obtain rfl:=q.nI | cases q)
    · rw [hHs] at q;exact q
  have cc:∀ n c,(n,c)∈compCells g.env scope L→(g.env.cells.lookup n=some c∧(n,NameKind.free)∈scope.names)∨(n,c)∈cellsFrom (L+1) scope.names []:=by
    intro n c hm
    unfold compCells at hm
    rw [cellsFrom_app] at hm
    rcases List.mem_append.mp hm with q | q
    · exact .inr q
    · rcases closL_mem _ _ q with q | q
      · (first | obtain rfl:=q.vI | obtain ⟨_,rfl⟩:=q.iI | obtain ⟨_,rfl⟩:=q.sI | obtain ⟨_,rfl⟩:=q.bI | obtain rfl:=q.nI | cases q)
      · exact .inl q
  have apart:(compCells g.env scope L).Pairwise fun a b=>a.2≠b.2:=by
    refine cellsFrom_apart _ _ _ (fun x c hx=>?_) (closL_apart y.envOk.inj _ _ k2 (fun _ _ h=>nomatch h) List.Pairwise.nil)
    rcases closL_mem _ _ hx with q | q
    · (first | obtain rfl:=q.vI | obtain ⟨_,rfl⟩:=q.iI | obtain ⟨_,rfl⟩:=q.sI | obtain ⟨_,rfl⟩:=q.bI | obtain rfl:=q.nI | cases q)
    · obtain ⟨_,_,v,o,ho,_⟩:=y.envOk.cel x c q.1
      exact Nat.lt_succ_of_lt (hle c o ho)
  have kOwn:∀ a∈cOwn scope L,s.heap.get? a=none∧∃ o,(pushCells H scope.names).get? a=some o:=fun a ha=>by
    rcases List.mem_cons.mp ha with rfl | q
    · obtain ⟨o,_,_,h,_⟩:=hns
      exact ⟨fresh _ (Nat.le_refl _),o,h⟩
    · obtain ⟨⟨n,c⟩,hc,rfl⟩:=List.mem_map.mp q
      obtain ⟨z1,_,o,z2,_⟩:=own n c hc
      exact ⟨fresh c (Nat.le_of_succ_le z1),o,z2⟩
  have new:∀ a∈W++(cOwn scope L++g.X),(s.heap.get? a=none∧∃ o,(pushCells H scope.names).get? a=some o)∨a∈g.X:=by
    intro a ha
    rcases List.mem_append.mp ha with q | q
    · obtain ⟨h1,o,h2⟩:=hW a q
      exact .inl ⟨h1,o,hk _ _ h2⟩
    · rcases List.mem_append.mp q with q | q
      · exact .inl (kOwn a q)
      · exact .inr q
  have inX:∀ a∈g.X,a∈W++(cOwn scope L++g.X):=fun a ha=>List.mem_append_right _ (List.mem_append_right _ ha)
  have ownX:∀ a∈cOwn scope L,a∈W++(cOwn scope L++g.X):=fun a ha=>List.mem_append_right _ (List.mem_append_left _ ha)
  have nP:∀ a,s.heap.get? a=none→a∉g.C.P:=fun a h hP=>by
    obtain ⟨o,q⟩:=y.inv.occ a (y.inv.pin a hP)
    rw [h] at q;(first | obtain rfl:=q.vI | obtain ⟨_,rfl⟩:=q.iI | obtain ⟨_,rfl⟩:=q.sI | obtain ⟨_,rfl⟩:=q.bI | obtain rfl:=q.nI | cases q)
  have y':=y.ext e
  have up:∀ b o,b∉g.X→s.heap.get? b=some o→b∉W++(cOwn scope L++g.X)∧(pushCells H scope.names).get? b=some o:=fun b o hb q =>
    ⟨fun z=>(new b z).elim (fun z=>by rw [z.1] at q;(first | obtain rfl:=q.vI | obtain ⟨_,rfl⟩:=q.iI | obtain ⟨_,rfl⟩:=q.sI | obtain ⟨_,rfl⟩:=q.bI | obtain rfl:=q.nI | cases q)) hb,e.keep b o (fun h=>nomatch h) (fun z=>hb (y.inv.pin b z)) q⟩
  have clo:∀ x c,(cEnv g.env scope L).cells.lookup x=some c→(g.env.cells.lookup x=some c∧(x,NameKind.free)∈scope.names)∨(x,c)∈cellsFrom (L+1) scope.names []:=fun x c h=>cc x c (mem_of_lookup h)
  have kd:∀ x k,(x,k)∈scope.names→(cEnv g.env scope L).kindOf x=some (if (k == .free && g.env.scope.kind == .function && g.env.kindOf x == some .cell)=true then .cell else k):=fun x k h=>lookup_relabel (lookup_of_nodup k2 h)
  refine ⟨⟨y.inv.base,y'.inv.keep,y'.inv.tab,y'.inv.os,y'.inv.gens,fun p hp=>inX _ (y.inv.pin p hp),fun a ha hP=>?_,fun a ha=>?_⟩,
    ⟨k1,y.envOk.glob,y.envOk.bi,⟨_,hns⟩,ownX _ (.head _),nP _ (fresh _ (Nat.le_refl _)),fun x c h=>?_,fun x c hx h=>?_,fun x x' c h h'=>name_of_addr apart (mem_of_lookup h) (mem_of_lookup h')⟩,
    fun i x d h1 h2=>?_,fun p hp=>?_,fun a ha=>⟨inX _ (y.mX a ha).1,(y.mX a ha).2.1,fun q=>?_,fun x c h q=>?_⟩,y.apart,k3⟩
  · rcases new a ha with q | q
    · exact y.inv.hb_none q.1 hP
    · exact y.inv.new a q hP
  · rcases new a ha with q | q
    · exact q.2
    · exact y'.inv.occ a q
  · rcases clo x c h with q | q
    · obtain ⟨a,b,v,o,ho,hd⟩:=y.envOk.cel x c q.1
      exact ⟨a,Nat.ne_of_lt (hle c o ho),v,o,e.keep c o (fun h=>nomatch h) a ho,hd⟩
    · obtain ⟨z1,_,z2⟩:=own x c q
      exact ⟨nP c (fresh c (Nat.le_of_succ_le z1)),Nat.ne_of_gt z1,_,z2⟩
  · rcases clo x c h with q | q
    · have hx':=kd x .free q.2
      rw [hx] at hx'
      split at hx'
      · rename_i hc
        simp only [Bool.and_eq_true,beq_iff_eq] at hc
        exact inX _ (y.envOk.own x c hc.2 q.1)
      · cases hx'
    · exact ownX _ (.tail _ (List.mem_map.mpr ⟨_,q,rfl⟩))
  · by_cases hi:i < tn.length
    · rw [List.getElem?_append_left (by rw [List.length_map];exact hi),List.getElem?_map] at h2
      cases hz:tn[i]? with
      | none=>rw [hz] at h2;cases h2
      | some z=>rw [hz] at h2;cases h2
    · rw [List.getElem?_append_right (by rw [List.length_map];lia),List.length_map] at h2
      rw [List.getElem?_append_right (by lia)] at h1
      simp only [capD,List.getElem?_map,Option.map_eq_some_iff] at h1 h2
      obtain ⟨p,hp,rfl⟩:=h1
      obtain ⟨p',hp',h2⟩:=h2
      rw [hp] at hp';cases hp'
      obtain ⟨q1,q2⟩:=k4 p (List.mem_of_getElem? hp)
      have h2':ρ[p.1]?=some (some d):=by
        cases z:ρ[p.1]? with
        | none=>rw [z] at h2;cases h2
        | some w=>rw [z] at h2;cases w <;> simp_all
      obtain ⟨v,b,r⟩:=y.vars p.1 p.2 d q1 h2'
      have hkx:=(k5 _ q2).resolve_left (fun h=>h rfl)
      have hlk:∀ c,g.env.cells.lookup p.2=some c→(cEnv g.env scope L).cells.lookup p.2=some c:=fun c hc=>by
        show (cellsFrom (L+1) scope.names (closL g.env.cells scope.names [])).lookup p.2=some c
        rw [cellsFrom_old _ _ _ (fun h=>by
          have a1:=lookup_of_nodup k2 h
          have a2:=lookup_of_nodup k2 q2
          rw [a1] at a2;cases a2)]
        exact closL_lookup hc _ _ (.inl q2)
      have hkd:=kd p.2 .free q2
      rcases b with ⟨hk',m,hn,hm⟩ | ⟨hk',c,hc,t⟩
      · rcases hkx.2 with z | z
        · rw [z] at hk';cases hk'
        · rw [z] at hk';cases hk'
      · refine ⟨v,.inr ⟨?_,c,hlk c hc,?_⟩,r.mono up⟩
        · show (cEnv g.env scope L).kindOf p.2=_∨(cEnv g.env scope L).kindOf p.2=_
          rw [hkd]
          split
          · exact .inl rfl
          · exact .inr rfl
        · obtain ⟨o,ho,hd⟩:=t
          exact ⟨o,e.keep c o (fun h=>nomatch h) (y.envOk.cel _ c hc).1 ho,hd⟩
  · have m:=y.muts p hp
    have k:∀ b o,b∉g.C.P→s.heap.get? b=some o→(pushCells H scope.names).get? b=some o:=fun b o hb q=>e.keep b o (fun h=>nomatch h) hb q
    cases hm:p.2 with
    | lst ds=>rw [hm] at m;obtain ⟨vs,n,z,r⟩:=m;exact ⟨vs,n,k _ _ (y.mX _ (mem_doms hp)).2.1 z,r.mono up⟩
    | acc cls dx ds =>
      rw [hm] at m;obtain ⟨⟨vs,n,z,r⟩,hne,hsh,t,u,n',z2⟩:=m
      exact ⟨⟨vs,n,k _ _ (y.mX _ (mem_doms hp)).2.1 z,r.mono up⟩,hne,hsh,t,u,n',k _ _ (y.mX _ (more_doms hp (by rw [hm];exact .head _))).2.1 z2⟩
    | inst cls dx =>
      rw [hm] at m;obtain ⟨⟨sl,z⟩,hne,hsh,t,v,n,z2⟩:=m
      exact ⟨⟨sl,k _ _ (y.mX _ (mem_doms hp)).2.1 z⟩,hne,hsh,t,v,n,k _ _ (y.mX _ (more_doms hp (by rw [hm];exact .head _))).2.1 z2⟩
    | ba b=>rw [hm] at m;obtain ⟨n,z⟩:=m;exact ⟨n,k _ _ (y.mX _ (mem_doms hp)).2.1 z⟩
    | obj o dx od=>rw [hm] at m;exact ⟨k _ _ (y.mX _ (mem_doms hp)).2.1 m.1,m.2.1,k _ _ (y.mX _ (more_doms hp (by rw [hm];exact .head _))).2.1 m.2.2⟩
  · obtain ⟨o,z⟩:=y.inv.occ a (y.mX a ha).1
    have:s.heap.get? L=none:=fresh L (Nat.le_refl _)
    have q':a=L:=q
    rw [q',this] at z;cases z
  · rcases clo x c h with z | z
    · exact (y.mX a ha).2.2.2 x c z.1 q
    · obtain ⟨o,w⟩:=y.inv.occ a (y.mX a ha).1
      rw [q,fresh c (Nat.le_of_succ_le (own x c z).1)] at w;cases w
end
end Mine
end
section
open PySem PySem.Calls PySem.W PyProof.Rows
namespace Mine
theorem Ext.fresh {C:Cx} {S:List Addr} {s s₁ s₂:Shared} (a:Ext C [] s s₁) (b:Ext C S s₁ s₂) (h:∀ x∈S,s.heap.get? x=none):Ext C [] s s₂ :=
  (a.wider (S':=S) fun _ h=>nomatch h).trans b |>.wider fun x hx=>.inr (h x hx)
section
variable {g:G} {ρ:List (Option D)} {μ:List (Addr × Mut)} {S:List Addr} {s:Shared}
theorem St.touch {a : Addr} {h' : Heap} {tk : Nat} (y : St g ρ μ s) (hs : Heap.SameBut a s.heap h') (haX : a ∈ g.X) (haP : a ∉ g.C.P) (haS : a ∉ doms μ) (hL : a ≠ g.env.locals) (hC : ∀ x c, g.env.cells.lookup x = some c → a ≠ c)
    (ho:∀ o,s.heap.get? a=some o→∃ o',h'.get? a=some o'):Ext g.C [a] s { s with heap:=h',toks:=tk }∧St g ρ μ { s with heap:=h',toks:=tk }:=by
  have hn:=y.inv.new a haX haP
  have e:Ext g.C [a] s { s with heap:=h',toks:=tk }:=Ext.same hs (.head _) hn ho
  have up:∀ b o,b∉g.X→s.heap.get? b=some o→b∉g.X∧h'.get? b=some o:=fun b o hb q=>⟨hb,(hs.2 b (fun z=>hb (z ▸ haX))).trans q⟩
  refine ⟨e,⟨y.inv.ext e (fun b hb=>by rw [List.mem_singleton.mp hb];exact hn),y.envOk.ext e (fun q=>hL (List.mem_singleton.mp q).symm) (fun x c hc q=>hC x c hc (List.mem_singleton.mp q).symm),fun j x d' hj hr=>?_,fun p hp=>(y.muts p hp).mono (fun o q=>(hs.2 _ (fun z=>haS (z ▸ mem_doms hp))).trans q)
    (fun b hb o q=>(hs.2 _ (fun z=>haS (z ▸ more_doms hp hb))).trans q) (fun b o hb q=>(up b o hb q).2),y.mX,y.apart,y.nd⟩⟩
  obtain ⟨w,b,q⟩:=y.vars j x d' hj hr
  exact ⟨w,b.ext e y.envOk (fun q=>hL (List.mem_singleton.mp q).symm) (fun x c hc q=>hC x c hc (List.mem_singleton.mp q).symm),q.mono up⟩
noncomputable def EvIfs (g:G) (ρ:List (Option D)) (μ:List (Addr × Mut)) (ifs:List Expr) (b:Bool):Prop:=∀ s,St g ρ μ s→Dn g.C g.A [] s (forIn ifs true fun c r=>if r=true then do let ok ← isTrue c g.env (eval c g.env);pure (ForInStep.yield ok) else pure (ForInStep.yield r)) fun v _=>v=b
theorem EvIfs.nil:EvIfs g ρ μ [] true:=fun s y=>wpAny_tests_nil ⟨.refl ..,rfl⟩
theorem EvIfs.one {c:Expr} {b:Bool} (h:EvT g ρ μ c b):EvIfs g ρ μ [c] b:=fun s y=>wpAny_tests_one (h.wp y fun s' y' e=>⟨e,rfl⟩)
noncomputable abbrev cG (g:G) (scope:Scope) (x:Str) (cs:List (Nat × Str)) (X':List Addr) (L:Addr):G:={ g with X:=X',env:=cEnv g.env scope L,ns:=[x]++cs.map (·.2) }
theorem comp_core {α : Type} {elt iter : Expr} {x : Str} {px : Pos} {ifs : List Expr} {scope : Scope} {pos : Pos} {use : Option (Value → Sem Unit)} {d : D} (mk : α → D) (xs : List α) (p : α → Bool) (f : α → D) (cs : List (Nat × Str))
    (R:Room g.A 0) (ok:compOk g.env g.ns scope [x] cs=true) (hi:Ev g ρ μ iter d) (src:Src d (xs.map mk)) (hlen:xs.length≤sizeLine)
    (body:∀ X' L,∀ a∈xs,EvIfs (cG g scope x cs X' L) (some (mk a)::capD ρ cs) μ ifs (p a)∧(p a=true→Ev (cG g scope x cs X' L) (some (mk a)::capD ρ cs) μ elt (f a)))
    {Q:Value→Shared→Prop} {E:Value→Shared→Prop} (y:St g ρ μ s)
    (hQ:∀ L Dd t,St { g with X:=L::g.X } ρ μ t→Ext g.C [] s t→s.heap.get? Dd=none→(∃ m,t.heap.Ns L m)→s.heap.get? L=none→(∃ vs nn,t.heap.get? Dd=some (lstO vs nn)∧RepL (Dd::L::g.X) t.heap vs ((xs.filter p).map f))→Dd∉L::g.X→compPost g.C.M g.A E use Q (.ref Dd) L (.ok .next) t)
    (hs:∀ x,foldedSetIterable iter g.env x=pure x:=by intro _;rfl) :
    wpAny g.C.M g.A (comprehension (.ListComp elt [⟨.Name x px,iter,ifs,0⟩] scope pos) scope g.env (firstIterPos [⟨.Name x px,iter,ifs,0⟩] pos) (newList []) false (eval iter g.env) use) Q E s:=by
  have ok':=ok
  simp only [compOk,Bool.and_eq_true,decide_eq_true_eq,beq_iff_eq,List.all_eq_true,List.contains_iff_mem,Bool.or_eq_true,bne_iff_ne,ne_eq] at ok'
  obtain ⟨⟨⟨⟨⟨k1,k2⟩,k3⟩,k4⟩,k5⟩,k6⟩:=ok'
  have hclos:=closureFor_is (scope:=scope) (env:=g.env) fun z hz hf=>((k5 z hz).resolve_left fun h=>h hf).1
  refine wpAny_comprehension_free (g:=⟨.Name x px,iter,ifs,0⟩) (gs:=[]) (use:=use) rfl hs hclos k1 (fun z hz hl=>lookup_of_nodup k2 (hl ▸ hz)) ?_
  refine hi.wp y fun v s₁ y₁ r₁ e₁=>src g.C g.A g.X s₁ v _ _ y₁.inv R.h r₁ fun I fp wr P W s₂ e₂ it w0=>?_
  refine wpAny_newObj_type ?_ (by show (0:Nat)≤sizeLine;exact Nat.zero_le _)
  refine newCompEnv ?_
  generalize hD:s₂.heap.objs.size=Dd
  generalize hH3:s₂.heap.push { cls:=.type "list",data:=.seq ([]:List Value).toArray }=H3
  have hH3s:H3.objs.size=Dd+1:=by rw [← hH3,Heap.size_push,hD]
  show codeAny _ _ (.compStart _ 0 (.ref I) (.ref Dd) (cEnv g.env scope H3.objs.size)) _ { s₂ with heap:=pushCells (H3.push { cls:=.type "dict",data:=.dict #[] }) scope.names }
  have lt1:∀ b o,s₁.heap.get? b=some o→@LT.lt Nat _ b Dd:=fun b o q=>by
    obtain ⟨o',q'⟩:=e₂.occ b o q
    rw [← hD];exact Heap.lt_size q'
  have e₃:Ext g.C [] s₂ { s₂ with heap:=pushCells (H3.push { cls:=.type "dict",data:=.dict #[] }) scope.names } :=
    .up fun b o q=>pushCells_keeps _ _ b o (Heap.get?_push_of_some _ (hH3 ▸ Heap.get?_push_of_some _ q))
  have hDget:H3.get? Dd=some (lstO [] 0):=by rw [← hH3,← hD];exact Heap.get?_push_size _ rfl
  have hDn:s₁.heap.get? Dd=none:=by
    cases q:s₁.heap.get? Dd with
    | none=>rfl
    | some o=>exact absurd (lt1 Dd o q) (Nat.lt_irrefl _)
  have hwlt:∀ b∈wr,s₁.heap.get? b=none∧∃ o,H3.get? b=some o:=fun b hb=>⟨it.new b hb,by
    obtain ⟨o,q⟩:=it.occ _ _ w0 b hb
    exact ⟨o,hH3 ▸ Heap.get?_push_of_some _ q⟩⟩
  have y₃:=y₁.comp (s₃:={ s₂ with heap:=H3 }) (W:=wr++[Dd]) ok (e₂.trans e₃) (fun b o q=>by show @LT.lt Nat _ b H3.objs.size;rw [hH3s];exact Nat.lt_succ_of_lt (lt1 b o q)) (fun b hb=>by
    rcases List.mem_append.mp hb with q | q
    · exact hwlt b q
    · rw [List.mem_singleton.mp q];exact ⟨hDn,_,hDget⟩)
  generalize hLe:H3.objs.size=L at y₃ ⊢
  rw [List.append_assoc] at y₃
  dsimp only at y₃
  generalize hst:({ s₂ with heap:=pushCells (H3.push { cls:=.type "dict",data:=.dict #[] }) scope.names }:Shared)=s₄ at e₃ y₃ ⊢
  have e₁₄:Ext g.C [] s₁ s₄:=e₂.trans e₃
  have y₄:St (cG g scope x cs (wr++([Dd]++(cOwn scope L++g.X))) L) (none::capD ρ cs) μ s₄:=y₃
  have hacc:s₄.heap.get? Dd=some (lstO [] 0):=by rw [← hst];exact pushCells_keeps _ _ _ _ (Heap.get?_push_of_some _ hDget)
  have hL1:@LT.lt Nat _ Dd L:=by rw [← hLe,hH3s];exact Nat.lt_succ_self _
  have freshOf:∀ a:Addr,@LE.le Nat _ Dd a→s₁.heap.get? a=none:=fun a ha=>by
    cases q:s₁.heap.get? a with
    | none=>rfl
    | some o=>exact absurd (lt1 a o q) (Nat.not_lt.mpr ha)
  have ownge:∀ a∈cOwn scope L,@LE.le Nat _ L a:=fun a ha=>by
    rcases List.mem_cons.mp ha with rfl | q
    · exact Nat.le_refl _
    · obtain ⟨⟨n,c⟩,hc,rfl⟩:=List.mem_map.mp q
      have hs1:(H3.push { cls:=.type "dict",data:=.dict #[] }).objs.size=L+1:=by rw [Heap.size_push,hLe]
      rw [← hs1] at hc
      rcases cellsFrom_cases _ _ _ hc with q | q
      · (first | obtain rfl:=q.vI | obtain ⟨_,rfl⟩:=q.iI | obtain ⟨_,rfl⟩:=q.sI | obtain ⟨_,rfl⟩:=q.bI | obtain rfl:=q.nI | cases q)
      · have:=q.1;rw [hs1] at this;exact Nat.le_of_succ_le this
  have ownFresh:∀ a∈cOwn scope L,s₁.heap.get? a=none:=fun a ha=>freshOf a (Nat.le_trans (Nat.le_of_lt hL1) (ownge a ha))
  have hDown:Dd∉cOwn scope L:=fun q=>absurd (ownge Dd q) (Nat.not_le.mpr hL1)
  have notX:∀ a,s₁.heap.get? a=none→a∉g.X:=fun a h q=>by
    obtain ⟨o,z⟩:=y₁.inv.occ a q
    rw [h] at z;cases z
  have wrlt:∀ a∈wr,@LT.lt Nat _ a Dd:=fun a ha=>by
    obtain ⟨o,q⟩:=it.occ _ _ w0 a ha
    rw [← hD];exact Heap.lt_size q
  have wrOut:∀ a∈wr,a∉[Dd]++(cOwn scope L++g.X):=fun a ha q=>by
    rcases List.mem_append.mp q with q | q
    · rw [List.mem_singleton.mp q] at ha;exact Nat.lt_irrefl _ (wrlt Dd ha)
    · rcases List.mem_append.mp q with q | q
      · exact Nat.lt_irrefl _ (Nat.lt_of_lt_of_le (Nat.lt_trans (wrlt a ha) hL1) (ownge a q))
      · exact notX a (it.new a ha) q
  have nP:∀ a,s₁.heap.get? a=none→a∉g.C.P:=fun a h q=>notX a h (y₁.inv.pin a q)
  have hwn:∀ a∈wr,g.C.hb.get? a=none:=fun a ha=>y₁.inv.hb_none (it.new a ha) (nP a (it.new a ha))
  have hDb:g.C.hb.get? Dd=none:=y₁.inv.hb_none hDn (nP Dd hDn)
  have cellsOut:∀ z c,(cEnv g.env scope L).cells.lookup z=some c→c∉wr∧c≠Dd:=fun z c hc=>by
    have hm:=mem_of_lookup hc
    unfold cEnv compEnvC compCells at hm
    dsimp only at hm
    rw [cellsFrom_app] at hm
    rcases List.mem_append.mp hm with q | q
    · have hc':c∈cOwn scope L:=.tail _ (List.mem_map.mpr ⟨_,q,rfl⟩)
      exact ⟨fun w=>wrOut c w (List.mem_append_right _ (List.mem_append_left _ hc')),fun e=>hDown (e ▸ hc')⟩
    · rcases closL_mem _ _ q with q | q
      · (first | obtain rfl:=q.vI | obtain ⟨_,rfl⟩:=q.iI | obtain ⟨_,rfl⟩:=q.sI | obtain ⟨_,rfl⟩:=q.bI | obtain rfl:=q.nI | cases q)
      · obtain ⟨_,_,w,o,ho,_⟩:=y₁.envOk.cel z c q.1
        exact ⟨(fun h=>by rw [it.new c h] at ho;cases ho),(fun h=>by rw [h,hDn] at ho;cases ho)⟩
  have hwall:∀ a∈wr,a∉[Dd]++(cOwn scope L++g.X)∧a∉g.C.P∧g.C.hb.get? a=none∧∀ z c,(cEnv g.env scope L).cells.lookup z=some c→a≠c:=fun a ha =>
    ⟨wrOut a ha,nP a (it.new a ha),hwn a ha,fun z c hc e=>(cellsOut z c hc).1 (e ▸ ha)⟩
  have hμX:∀ a∈doms μ,a∈[Dd]++(cOwn scope L++g.X):=fun a ha=>List.mem_append_right _ (List.mem_append_right _ (y.mX a ha).1)
  have hPX:∀ p∈g.C.P,p∈[Dd]++(cOwn scope L++g.X):=fun p hp=>List.mem_append_right _ (List.mem_append_right _ (y.inv.pin p hp))
  have hDμ:Dd∉doms μ:=fun q=>notX Dd hDn (y.mX _ q).1
  have env':∀ {ρ' t},St (cG g scope x cs (wr++([Dd]++(cOwn scope L++g.X))) L) ρ' μ t→EnvOk g.C ([Dd]++(cOwn scope L++g.X)) t.heap (cEnv g.env scope L):=fun yt =>
    ⟨yt.envOk.kind,yt.envOk.glob,yt.envOk.bi,yt.envOk.ns,List.mem_append_right _ (List.mem_append_left _ (.head _)),yt.envOk.lP,yt.envOk.cel,fun z c h1 h2 =>
      (List.mem_append.mp (yt.envOk.own z c h1 h2)).elim (fun q=>absurd q (cellsOut z c h2).1) id,yt.envOk.inj⟩
  have stored:Stored (cG g scope x cs (wr++([Dd]++(cOwn scope L++g.X))) L) (cOwn scope L) x:=by
    rcases k6 x (.head _) with q | q
    · exact .inl ⟨lookup_relabel (lookup_of_nodup k2 q),.head _⟩
    · have hk:=lookup_relabel (env:=g.env) (lookup_of_nodup k2 q)
      right
      refine ⟨hk,?_⟩
      show ∃ c,(cellsFrom (L+1) scope.names (closL g.env.cells scope.names [])).lookup x=some c∧c∈cOwn scope L
      obtain ⟨c,hc⟩:=Option.isSome_iff_exists.mp (cellsFrom_some (x:=x) scope.names (L+1) [] (.inl (lookup_of_nodup k2 q)))
      have hm:=mem_of_lookup hc
      refine ⟨c,?_,.tail _ (List.mem_map.mpr ⟨_,hm,rfl⟩)⟩
      rw [cellsFrom_app,List.lookup_append,hc]
      rfl
  have frame:∀ i (t t':Shared),Ext g.C (cOwn scope L++[Dd]) t t'→W i t.heap→W i t'.heap:=fun i t t' e w=>it.walk.frame i _ _ w fun b hb o q=>by
    refine e.keep b o (fun z=>?_) (fun z=>?_) q
    · rcases it.fpX b hb with hb' | ⟨hb',o',ho'⟩
      · exact wrOut b hb' ((List.mem_append.mp z).elim (fun z=>List.mem_append_right _ (List.mem_append_left _ z)) fun z=>List.mem_append_left _ z)
      · rcases List.mem_append.mp z with z | z
        · rw [ownFresh b z] at ho';cases ho'
        · rw [List.mem_singleton.mp z,hDn] at ho';cases ho'
    · rcases it.fpX b hb with hb' | ⟨hb',o',ho'⟩
      · exact nP b (it.new b hb') z
      · exact hb' (y₁.inv.pin b z)
  have loop:codeAny g.C.M g.A (.compLoop (.ListComp elt [⟨.Name x px,iter,ifs,0⟩] scope pos) 0 (.ref I) (.ref Dd) (cEnv g.env scope L)) (compPost g.C.M g.A E use Q (.ref Dd) L) s₄:=by
    refine codeAny_compLoop_tests (fun n t=>∃ i vs nn,i≤xs.length∧n=xs.length+1 - i∧W i t.heap∧St (cG g scope x cs (wr++([Dd]++(cOwn scope L++g.X))) L) (none::capD ρ cs) μ t ∧
      t.heap.get? Dd=some (lstO vs nn)∧RepL (wr++([Dd]++(cOwn scope L++g.X))) t.heap vs (((xs.take i).filter p).map f)∧Ext g.C [] s₁ t) ?_ (xs.length+1) ⟨0,[],0,Nat.zero_le _,rfl,hst ▸ (it.walk.frame 0 _ _ w0 fun b hb o q=>pushCells_keeps _ _ b o (Heap.get?_push_of_some _ (hH3 ▸ Heap.get?_push_of_some _ q))),y₄,hacc,.nil,e₁₄⟩
    rintro n t ⟨i,vs,nn,hle,rfl,hw,yt,hat,hrep,et⟩
    have hlm:(xs.map mk).length=xs.length:=List.length_map ..
    have hDk:∀ {h':Heap},(∀ b o,b∉wr→t.heap.get? b=some o→h'.get? b=some o)→h'.get? Dd=some (lstO vs nn):=fun hk=>hk Dd _ (fun q=>wrOut Dd q (List.mem_append_left _ (.head _))) hat
    by_cases hlt:i < xs.length
    · refine it.walk.item i _ _ _ (by rw [hlm];exact hlt) hw fun v h' tk hP hw' hk=>?_
      have et':Ext g.C [] s₁ { t with heap:=h',toks:=tk }:=et.iter hk it.new hwn
      have y':St (cG g scope x cs (wr++([Dd]++(cOwn scope L++g.X))) L) (none::capD ρ cs) μ { t with heap:=h',toks:=tk } :=
        St.iter (g:=cG g scope x cs ([Dd]++(cOwn scope L++g.X)) L) yt hk (fun _ h=>h) (fun _ h=>List.mem_append_right _ h) (fun a ha _=>it.occ _ _ hw' a ha) hwall hμX (env' yt) hPX
      have hrep':RepL (wr++([Dd]++(cOwn scope L++g.X))) h' vs (((xs.take i).filter p).map f):=hrep.mono fun b o hb q=>⟨hb,hk b o (fun z=>hb (List.mem_append_left _ z)) q⟩
      obtain ⟨a',ha',ra'⟩:=it.item i v h' (fun b o hb q=>et'.keep b o (fun h=>nomatch h) (fun z=>hb (y₁.inv.pin b z)) q) hP
      obtain ⟨a,ha,rfl⟩:∃ a,xs[i]?=some a∧mk a=a':=by
        rw [List.getElem?_map] at ha'
        cases z:xs[i]? with
        | none=>rw [z] at ha';cases ha'
        | some a=>rw [z] at ha';exact ⟨a,rfl,Option.some.inj ha'⟩
      have ra:Rep (wr++([Dd]++(cOwn scope L++g.X))) h' v (mk a):=by
        obtain ⟨d',hd',rr⟩:=it.item i v s₁.heap (fun b o _ q=>q) hP
        rw [ha'] at hd';cases hd'
        refine rr.mono fun b o hb q=>⟨fun z=>?_,et'.keep b o (fun h=>nomatch h) (fun z=>hb (y₁.inv.pin b z)) q⟩
        rcases List.mem_append.mp z with z | z
        · rw [it.new b z] at q;(first | obtain rfl:=q.vI | obtain ⟨_,rfl⟩:=q.iI | obtain ⟨_,rfl⟩:=q.sI | obtain ⟨_,rfl⟩:=q.bI | obtain rfl:=q.nI | cases q)
        · rcases List.mem_append.mp z with z | z
          · rw [List.mem_singleton.mp z,hDn] at q;(first | obtain rfl:=q.vI | obtain ⟨_,rfl⟩:=q.iI | obtain ⟨_,rfl⟩:=q.sI | obtain ⟨_,rfl⟩:=q.bI | obtain rfl:=q.nI | cases q)
          · rcases List.mem_append.mp z with z | z
            · rw [ownFresh b z] at q;(first | obtain rfl:=q.vI | obtain ⟨_,rfl⟩:=q.iI | obtain ⟨_,rfl⟩:=q.sI | obtain ⟨_,rfl⟩:=q.bI | obtain rfl:=q.nI | cases q)
            · exact hb z
      refine (asg_name (g:=cG g scope x cs (wr++([Dd]++(cOwn scope L++g.X))) L) (p:=px) 0 rfl stored y' ra).use fun _ s₅ e₅ y₅=>?_
      have y₅':St (cG g scope x cs (wr++([Dd]++(cOwn scope L++g.X))) L) (some (mk a)::capD ρ cs) μ s₅:=y₅
      have et₅:Ext g.C [] s₁ s₅:=et'.fresh e₅ ownFresh
      obtain ⟨b1,b2⟩:=body (wr++([Dd]++(cOwn scope L++g.X))) L a (List.mem_of_getElem? ha)
      have hpin:∀ p∈g.C.P,p∈wr++([Dd]++(cOwn scope L++g.X)):=fun p hp=>List.mem_append_right _ (hPX p hp)
      have hD₅:s₅.heap.get? Dd=some (lstO vs nn):=e₅.keep Dd _ hDown (nP Dd hDn) (hDk hk)
      have hrep₅:RepL (wr++([Dd]++(cOwn scope L++g.X))) s₅.heap vs (((xs.take i).filter p).map f):=hrep'.ext e₅ (fun b hb=>List.mem_append_right _ (List.mem_append_right _ (List.mem_append_left _ hb))) hpin
      have htake:xs.take (i+1)=xs.take i++[a]:=by simp [List.take_add_one,ha]
      refine (b1 s₅ y₅').use fun bb s₆ e₆ hbb=>?_
      subst hbb
      have y₆:=y₅'.ext e₆
      have et₆:Ext g.C [] s₁ s₆:=et₅.trans e₆
      have hD₆:s₆.heap.get? Dd=some (lstO vs nn):=e₆.keep Dd _ (fun h=>nomatch h) (nP Dd hDn) hD₅
      have hrep₆:=hrep₅.ext e₆ (fun _ h=>nomatch h) hpin
      have hw₆:W (i+1) s₆.heap:=frame _ _ _ ((e₅.wider fun b hb=>.inl (List.mem_append_left _ hb)).trans (e₆.wider fun _ h=>nomatch h)) hw'
      have forg:∀ {t'},St (cG g scope x cs (wr++([Dd]++(cOwn scope L++g.X))) L) (some (mk a)::capD ρ cs) μ t'→St (cG g scope x cs (wr++([Dd]++(cOwn scope L++g.X))) L) (none::capD ρ cs) μ t':=fun z=>z.forget fun j d h=>by
        cases j with
        | zero=>cases h
        | succ j=>exact h
      cases hpa:p a with
      | false =>
        simp only [Bool.false_eq_true,if_false]
        exact ⟨xs.length+1 - (i+1),by lia,i+1,vs,nn,hlt,rfl,hw₆,forg y₆,hD₆,by rw [htake,List.filter_append,List.map_append];simpa [hpa] using hrep₆,et₆⟩
      | true =>
        simp only [if_true]
        refine (b2 hpa).wp y₆ fun w s₇ y₇ r₇ e₇=>?_
        have hD₇:s₇.heap.get? Dd=some (lstO vs nn):=e₇.keep Dd _ (fun h=>nomatch h) (nP Dd hDn) hD₆
        have hvs:vs.length≤i:=by
          rw [hrep.length,List.length_map]
          exact Nat.le_trans (List.length_filter_le _ _) (by rw [List.length_take];exact Nat.min_le_left _ _)
        refine wpAny_list_append_plain (items:=vs.toArray) ⟨nn,hD₇⟩ (fun h₈ hp₈ hs₈=>?_) (by rw [List.size_toArray];exact Nat.le_trans hvs (Nat.le_trans hle hlen))
        obtain ⟨nn',hp₈⟩:=hp₈
        have hp₈':h₈.get? Dd=some (lstO (vs++[w]) nn'):=by rw [hp₈,List.push_toArray]
        obtain ⟨e₈,y₈⟩:=y₇.touch (tk:=s₇.toks) hs₈ (List.mem_append_right _ (List.mem_append_left _ (.head _))) (nP Dd hDn) hDμ (fun h=>hDown (h ▸ .head _)) (fun z c hc h=>(cellsOut z c hc).2 h.symm) (fun o _=>⟨_,hp₈'⟩)
        have et₈:Ext g.C [] s₁ { s₇ with heap:=h₈ }:=(et₆.trans e₇).fresh e₈ fun z hz=>by rw [List.mem_singleton.mp hz];exact hDn
        refine ⟨xs.length+1 - (i+1),by lia,i+1,vs++[w],nn',hlt,rfl,frame _ _ _ ((e₇.wider fun _ h=>nomatch h).trans (e₈.wider fun b hb=>.inl (List.mem_append_right _ hb))) hw₆,forg y₈,hp₈',?_,et₈⟩
        have r8:=((hrep₆.ext e₇ (fun _ h=>nomatch h) hpin).snoc r₇).ext e₈ (fun b hb=>by rw [List.mem_singleton.mp hb];exact List.mem_append_right _ (List.mem_append_left _ (.head _))) hpin
        rw [htake,List.filter_append,List.map_append]
        simpa [hpa] using r8
    · have hi':i=xs.length:=by lia
      subst hi'
      rw [← hlm] at hw
      refine it.walk.done _ _ _ hw fun h' tk hk=>?_
      have et':Ext g.C [] s₁ { t with heap:=h',toks:=tk }:=et.iter hk it.new hwn
      have hLw:L∉wr:=fun q=>wrOut L q (List.mem_append_right _ (List.mem_append_left _ (.head _)))
      have hns:∃ m,h'.Ns L m:=let ⟨m,hn⟩:=yt.envOk.ns;⟨m,hn.at' fun o q=>hk L o hLw q⟩
      have hLn:s₁.heap.get? L=none:=freshOf L (Nat.le_of_lt hL1)
      have back:∀ a,s₁.heap.get? a=none→s.heap.get? a=none:=fun a h=>by
        cases q:s.heap.get? a with
        | none=>rfl
        | some o=>obtain ⟨o',q'⟩:=e₁.occ a o q;rw [h] at q';(first | obtain rfl:=q'.vI | obtain ⟨_,rfl⟩:=q'.iI | obtain ⟨_,rfl⟩:=q'.sI | obtain ⟨_,rfl⟩:=q'.bI | obtain rfl:=q'.nI | cases q')
      refine hQ L Dd _ (y₁.wide (wr:=[L]) et' (fun b hb=>by rw [List.mem_singleton.mp hb];exact hLn) (fun b hb=>by
        rw [List.mem_singleton.mp hb];obtain ⟨m,o,_,_,q,_⟩:=hns;exact ⟨o,q⟩)) (e₁.trans et') (back _ hDn) hns (back _ hLn) ?_ ?_
      rw [List.take_length] at hrep
      rotate_left
      · intro q
        rcases List.mem_cons.mp q with q | q
        · exact Nat.lt_irrefl _ (q ▸ hL1)
        · exact notX Dd hDn q
      · refine ⟨vs,nn,hDk hk,?_⟩
        exact hrep.mono fun b o hb q=>⟨fun z=>hb (List.mem_append_right _ ((List.mem_cons.mp z).elim (fun z=>List.mem_append_left _ (z ▸ .head _)) fun z=>List.mem_append_right _ ((List.mem_cons.mp z).elim (fun z=>List.mem_append_left _ (z ▸ .head _)) fun z=>List.mem_append_right _ z))),hk b o (fun z=>hb (List.mem_append_left _ z)) q⟩
  have hw4:W 0 s₄.heap:=hst ▸ (it.walk.frame 0 _ _ w0 fun b hb o q=>pushCells_keeps _ _ b o (Heap.get?_push_of_some _ (hH3 ▸ Heap.get?_push_of_some _ q)))
  exact codeAny_compStart_list loop (it.walk.self 0 _ _ _ hw4 loop)
end
end Mine
end
section
open PySem PySem.Calls PySem.W PyProof.Rows
namespace Mine
theorem doms_set {μ:List (Addr × Mut)} {k:Nat} {a:Addr} {m m':Mut} (h:μ[k]?=some (a,m)) (hm:m'.more=m.more):doms (μ.set k (a,m'))=doms μ:=by
  induction μ generalizing k with
  | nil=>simp at h
  | cons p r ih =>
    cases k with
    | zero =>
      simp at h;subst h
      simp only [List.set_cons_zero,doms,List.flatMap_cons,hm]
    | succ k =>
      simp at h
      have:=ih h
      simp only [List.set_cons_succ,doms,List.flatMap_cons] at this ⊢
      rw [this]
section
variable {g:G} {ρ:List (Option D)} {μ:List (Addr × Mut)} {S:List Addr} {s:Shared} {Φ:Flow→Shared→Prop} {rest:List Stmt}
theorem apart_other {μ:List (Addr × Mut)} (nd:(doms μ).Nodup) {i k:Nat} {p q:Addr × Mut} (hi:μ[i]?=some p) (hk:μ[k]?=some q) (hik:i≠k):∀ b∈p.1::p.2.more,∀ c∈q.1::q.2.more,b≠c:=by
  induction μ generalizing i k with
  | nil=>simp at hi
  | cons x r ih =>
    simp only [doms,List.flatMap_cons,List.nodup_append] at nd
    obtain ⟨_,n2,n3⟩:=nd
    cases i with
    | zero =>
      cases k with
      | zero=>exact absurd rfl hik
      | succ k =>
        simp at hi hk;subst hi
        intro b hb c hc
        exact n3 b hb c (List.mem_flatMap.mpr ⟨q,List.mem_of_getElem? hk,hc⟩)
    | succ i =>
      cases k with
      | zero =>
        simp at hi hk;subst hk
        intro b hb c hc e
        exact n3 c hc b (List.mem_flatMap.mpr ⟨p,List.mem_of_getElem? hi,hb⟩) e.symm
      | succ k =>
        simp at hi hk
        exact ih n2 hi hk (by lia)
theorem St.setmut {k : Nat} {a b : Addr} {m m' : Mut} {h' : Heap} {tk : Nat} (y : St g ρ μ s) (hk : μ[k]? = some (a, m)) (hb : b ∈ a :: m.more) (hm : m'.more = m.more) (hs : Heap.SameBut b s.heap h') (hm' : MutOk g.X h' a m') (ho : ∃ o', h'.get? b = some o') :
    Ext g.C (doms μ) s { s with heap:=h',toks:=tk }∧St g ρ (μ.set k (a,m')) { s with heap:=h',toks:=tk }:=by
  have hbd:b∈doms μ:=List.mem_flatMap.mpr ⟨_,List.mem_of_getElem? hk,hb⟩
  obtain ⟨hX,hP,hL,hC⟩:=y.mX b hbd
  have hn:=y.inv.new b hX hP
  have e:Ext g.C [b] s { s with heap:=h',toks:=tk }:=Ext.same hs (.head _) hn fun o _=>ho
  have up:∀ c o,c∉g.X→s.heap.get? c=some o→h'.get? c=some o:=fun c o hc q=>(hs.2 c (fun z=>hc (z ▸ hX))).trans q
  refine ⟨e.wider fun c hc=>.inl (by rw [List.mem_singleton.mp hc];exact hbd),⟨y.inv.ext e (fun c hc=>by rw [List.mem_singleton.mp hc];exact hn),y.envOk.ext e (fun q=>hL (List.mem_singleton.mp q).symm) (fun x c hc q=>hC x c hc (List.mem_singleton.mp q).symm),
    fun j x d' hj hr=>?_,fun p hp=>?_,by rw [doms_set hk hm];exact y.mX,by rw [doms_set hk hm];exact y.apart,y.nd⟩⟩
  · obtain ⟨w,bd,q⟩:=y.vars j x d' hj hr
    exact ⟨w,bd.ext e y.envOk (fun q=>hL (List.mem_singleton.mp q).symm) (fun x c hc q=>hC x c hc (List.mem_singleton.mp q).symm),q.mono fun c o hc z=>⟨hc,up c o hc z⟩⟩
  · obtain ⟨i,hi⟩:=List.mem_iff_getElem?.mp hp
    by_cases hik:i=k
    · subst hik
      have hlt:i < μ.length:=(List.getElem?_eq_some_iff.mp hk).1
      rw [List.getElem?_set,if_pos rfl,if_pos hlt] at hi
      cases hi
      exact hm'
    · rw [List.getElem?_set,if_neg (fun z=>hik z.symm)] at hi
      have ap:=apart_other y.apart hi hk hik
      exact (y.muts p (List.mem_of_getElem? hi)).mono (fun o q=>(hs.2 _ (ap _ (.head _) b hb)).trans q) (fun c hc o q=>(hs.2 _ (ap c (.tail _ hc) b hb)).trans q) up
theorem St.addmut {a:Addr} {m:Mut} (y:St g ρ μ s) (hm:MutOk g.X s.heap a m) (h:∀ b∈a::m.more,b∈g.X∧b∉g.C.P∧b≠g.env.locals∧(∀ x c,g.env.cells.lookup x=some c→b≠c)∧b∉doms μ) (hnd:(a::m.more).Nodup):St g ρ ((a,m)::μ) s where
  inv:=y.inv
  envOk:=y.envOk
  vars:=y.vars
  muts:=fun p hp=>by
    rcases List.mem_cons.mp hp with rfl | hp
    · exact hm
    · exact y.muts p hp
  mX:=fun b hb=>by
    rcases List.mem_append.mp (show b∈(a::m.more)++doms μ from hb) with q | q
    · obtain ⟨h1,h2,h3,h4,_⟩:=h b q
      exact ⟨h1,h2,h3,h4⟩
    · exact y.mX b q
  apart:=by
    show ((a::m.more)++doms μ).Nodup
    exact List.nodup_append.mpr ⟨hnd,y.apart,fun b hb c hc e=>(h b hb).2.2.2.2 (e ▸ hc)⟩
  nd:=y.nd
theorem St.dropmut {a:Addr} {m:Mut} (y:St g ρ ((a,m)::μ) s):St g ρ μ s where
  inv:=y.inv
  envOk:=y.envOk
  vars:=y.vars
  muts:=fun p hp=>y.muts p (.tail _ hp)
  mX:=fun b hb=>y.mX b (List.mem_append_right (a::m.more) hb)
  apart:=(List.nodup_append.mp (show ((a::m.more)++doms μ).Nodup from y.apart)).2.1
  nd:=y.nd
theorem St.narrow {X':List Addr} (y:St g ρ μ s) (h:∀ a∈X',a∈g.X) (hP:∀ p∈g.C.P,p∈X') (hL:g.env.locals∈X') (hC:∀ x c,g.env.kindOf x=some .cell→g.env.cells.lookup x=some c→c∈X') (hμ:∀ a∈doms μ,a∈X'):St { g with X:=X' } ρ μ s where
  inv:=⟨y.inv.base,y.inv.keep,y.inv.tab,y.inv.os,y.inv.gens,hP,fun a ha=>y.inv.new a (h a ha),fun a ha=>y.inv.occ a (h a ha)⟩
  envOk:=⟨y.envOk.kind,y.envOk.glob,y.envOk.bi,y.envOk.ns,hL,y.envOk.lP,y.envOk.cel,hC,y.envOk.inj⟩
  vars:=fun i x d h1 h2=>let ⟨v,b,r⟩:=y.vars i x d h1 h2;⟨v,b,r.sub h⟩
  muts:=fun p hp=>(y.muts p hp).sub h
  mX:=fun a ha=>⟨hμ a ha,(y.mX a ha).2⟩
  apart:=y.apart
  nd:=y.nd
theorem St.fresh {a:Addr} (y:St g ρ μ s) (h:s.heap.get? a=none):a∉g.X∧a∉g.C.P∧a≠g.env.locals∧(∀ x c,g.env.cells.lookup x=some c→a≠c)∧a∉doms μ:=by
  have hX:a∉g.X:=fun q=>by obtain ⟨o,e⟩:=y.inv.occ a q;rw [h] at e;cases e
  refine ⟨hX,fun q=>hX (y.inv.pin a q),fun e=>hX (e ▸ y.envOk.inX),fun x c hc e=>?_,fun q=>hX (y.mX a q).1⟩
  obtain ⟨_,_,v,o,ho,_⟩:=y.envOk.cel x c hc
  rw [← e,h] at ho;cases ho
theorem Ext.none_back {C:Cx} {S:List Addr} {s s':Shared} (e:Ext C S s s') {a:Addr} (h:s'.heap.get? a=none):s.heap.get? a=none:=by
  cases q:s.heap.get? a with
  | none=>rfl
  | some o=>obtain ⟨o',q'⟩:=e.occ a o q;rw [h] at q';(first | obtain rfl:=q'.vI | obtain ⟨_,rfl⟩:=q'.iI | obtain ⟨_,rfl⟩:=q'.sI | obtain ⟨_,rfl⟩:=q'.bI | obtain rfl:=q'.nI | cases q')
theorem St.adopt {a:Addr} {ds:List D} {vs:List Value} {n:Nat} {s':Shared} (y:St g ρ μ s) (e:Ext g.C [] s s') (hn:s.heap.get? a=none) (ho:s'.heap.get? a=some (lstO vs n)) (r:RepL (a::g.X) s'.heap vs ds):St { g with X:=a::g.X } ρ ((a,.lst ds)::μ) s':=by
  have y':=y.wide (wr:=[a]) e (fun b hb=>by rw [List.mem_singleton.mp hb];exact hn) (fun b hb=>by rw [List.mem_singleton.mp hb];exact ⟨_,ho⟩)
  have f:=y.fresh hn
  refine St.addmut (g:={ g with X:=a::g.X }) y' ⟨vs,n,ho,r⟩ (fun b hb=>?_) (by simp [Mut.more])
  have hb':b=a:=by simpa [Mut.more] using hb
  subst hb'
  exact ⟨.head _,f.2⟩
noncomputable def EvN (g:G) (ρ:List (Option D)) (μ:List (Addr × Mut)) (e:Expr) (ds:List D):Prop:=∀ s,St g ρ μ s→Dn g.C g.A [] s (eval e g.env) fun v s'=>∃ a vs n,v=.ref a∧s.heap.get? a=none∧s'.heap.get? a=some (lstO vs n)∧RepL (a::g.X) s'.heap vs ds
theorem EvN.ev {e:Expr} {ds:List D} (h:EvN g ρ μ e ds):Ev g ρ μ e (.lst ds):=fun s y=>(h s y).mono fun v s' ex q=>by
  obtain ⟨a,vs,n,rfl,hn,ho,r⟩:=q
  exact .lst (y.fresh hn).1 ho (r.sub fun _ h=>.tail _ h)
theorem EvN.lst {es:List Expr} {pos:Pos} {ds:List D} (h:EvL g ρ μ pos es ds) (hsz:ds.length≤sizeLine:=by decide):EvN g ρ μ (.List es pos) ds:=fun s x =>
  List_ ((h s x).use fun vs s₁ e₁ r=>wpAny_newObj_type ⟨e₁.trans .push',_,vs,0,rfl,e₁.none_back (none_of_ge (Nat.le_refl _)),Heap.get?_push_size _ rfl,r.mono fun b o hb q=>⟨fun z=>by
    rcases List.mem_cons.mp z with rfl | z
    · rw [none_of_ge (Nat.le_refl _)] at q;(first | obtain rfl:=q.vI | obtain ⟨_,rfl⟩:=q.iI | obtain ⟨_,rfl⟩:=q.sI | obtain ⟨_,rfl⟩:=q.bI | obtain rfl:=q.nI | cases q)
    · exact hb z,Heap.get?_push_of_some _ q⟩⟩ (by show vs.toArray.size≤sizeLine;rw [List.size_toArray,r.length];exact hsz))
theorem Ex.step2 {st:Stmt} (h:∀ s,St g ρ μ s→wpAny g.C.M g.A (exec st g.env) (fun f s'=>match f with | .next=>wpAny g.C.M g.A (execs rest g.env) (fun f s''=>Ext g.C S s s''∧Φ f s'') NoE s' | f=>Ext g.C S s s'∧Φ f s') NoE s):Ex g S ρ μ (st::rest) Φ:=fun s x =>
  wpAny_execs_cons (wpAny_mono (h s x) (fun f s' q=>by cases f <;> exact q) fun _ _ e=>e)
theorem Ex.assignN (i : Nat) {x : Str} {p pos : Pos} {e : Expr} {ds : List D} (h1 : g.ns[i]? = some x) (hk : Stored g S x) (he : EvN g ρ μ e ds) (k : ∀ a, a ∉ g.X → a ∉ S → Ex { g with X := a :: g.X } (a :: S) (ρ.set i (some (.val (.ref a)))) ((a, .lst ds) :: μ) rest Φ)
    (hS:∀ a∈S,a∈g.X) (hs:swapsWith e (some (.Name x p)) pos.line g.env=pure false:=by rfl):Ex g S ρ μ (.Assign [.Name x p] e pos::rest) Φ:=Ex.step2 fun s y =>
  wpAny_Assign_Name ((he s y).use fun v s₁ e₁ ⟨a,vs,n,hv,hn,ho,r⟩=>by
    subst hv
    have y₁:=y.adopt e₁ hn ho r
    have f:=y.fresh hn
    have haS:a∉S:=fun q=>f.1 (hS a q)
    refine (St.store (g:={ g with X:=a::g.X }) y₁ h1 hk (.val (.ref a))).use fun _ s₂ e₂ y₂=>?_
    refine (k a f.1 haS s₂ y₂).use fun fl s₃ e₃ q=>⟨?_,q⟩
    have e₁₂:Ext g.C S s s₂:=(e₁.wider (fun _ h=>nomatch h)).trans e₂
    exact ((e₁₂.wider fun b hb=>.inl (.tail _ hb)).trans e₃).wider fun b hb=>(List.mem_cons.mp hb).elim (fun z=>.inr (z ▸ hn)) .inl) hs
theorem EvN.comp {α : Type} {elt iter : Expr} {x : Str} {px : Pos} {ifs : List Expr} {scope : Scope} {pos : Pos} {d : D} (mk : α → D) (xs : List α) (p : α → Bool) (f : α → D) (cs : List (Nat × Str))
    (R:Room g.A 0) (ok:compOk g.env g.ns scope [x] cs=true) (hi:Ev g ρ μ iter d) (src:Src d (xs.map mk)) (hlen:xs.length≤sizeLine)
    (body:∀ X' L,∀ a∈xs,EvIfs (cG g scope x cs X' L) (some (mk a)::capD ρ cs) μ ifs (p a)∧(p a=true→Ev (cG g scope x cs X' L) (some (mk a)::capD ρ cs) μ elt (f a)))
    (hs:∀ x,foldedSetIterable iter g.env x=pure x:=by intro _;rfl):EvN g ρ μ (.ListComp elt [⟨.Name x px,iter,ifs,0⟩] scope pos) ((xs.filter p).map f):=fun s y=>by
  show wpAny _ _ _ _ _ _
  rw [eval_ListComp]
  refine comp_core (use:=none) mk xs p f cs R ok hi src hlen body y (fun L Dd t yt et hD ⟨m,hn⟩ hL ⟨vs,nn,ho,r⟩ hDX=>⟨m,hn,fun h' hs'=>?_⟩) hs
  have hne:Dd≠L:=fun e=>hDX (e ▸ .head _)
  have e':Ext g.C [] s { t with heap:=h' }:=et.iter (wr:=[L]) (tk:=t.toks) (fun b o hb q=>(hs'.2 b fun z=>hb (z ▸ .head _)).trans q) (fun z hz=>by rw [List.mem_singleton.mp hz];exact hL)
    fun z hz=>by rw [List.mem_singleton.mp hz];exact y.inv.hb_none hL (y.fresh hL).2.1
  exact ⟨e',Dd,vs,nn,rfl,hD,(hs'.2 Dd hne).trans ho,r.mono fun b o hb q=>⟨fun z=>hb ((List.mem_cons.mp z).elim (fun z=>z ▸ .head _) fun z=>.tail _ (.tail _ z)),(hs'.2 b (fun z=>hb (z ▸ .tail _ (.head _)))).trans q⟩⟩
end
end Mine
end
section
open PySem PySem.Calls PySem.W PyProof.Rows
namespace Mine
section
variable {g:G} {ρ:List (Option D)} {μ:List (Addr × Mut)} {S:List Addr} {s:Shared} {Φ:Flow→Shared→Prop} {rest:List Stmt}
theorem St.dropX {L : Addr} {h' : Heap} {tk : Nat} (y : St { g with X := L :: g.X } ρ μ s) (hk : ∀ b o, b ≠ L → s.heap.get? b = some o → h'.get? b = some o) (hL : L ∉ g.X) (hLP : L ∉ g.C.P) (hLn : g.C.hb.get? L = none) (hC : ∀ x c, g.env.cells.lookup x = some c → L ≠ c)
    (hμ:∀ a∈doms μ,a∈g.X) (hE:EnvOk g.C g.X s.heap g.env) (hP:∀ p∈g.C.P,p∈g.X):St g ρ μ { s with heap:=h',toks:=tk } :=
  St.iter (g:=g) (X':=g.X) (wr:=[L]) y (fun b o hb q=>hk b o (fun z=>hb (z ▸ .head _)) q) (fun a h=>.tail _ h) (fun _ h=>h) (fun a ha h=>by rw [List.mem_singleton.mp ha] at h;exact absurd h hL)
    (fun a ha=>by rw [List.mem_singleton.mp ha];exact ⟨hL,hLP,hLn,hC⟩) hμ hE hP
theorem EnvOk.of {C:Cx} {X X':List Addr} {h h':Heap} {env:Env} (k:EnvOk C X h env) (k':EnvOk C X' h' env):EnvOk C X h' env:=⟨k'.kind,k'.glob,k'.bi,k'.ns,k.inX,k'.lP,k'.cel,k.own,k'.inj⟩
theorem Ex.assignC {α : Type} (i : Nat) {x z : Str} {px pz : Pos} {elt iter : Expr} {ifs : List Expr} {scope : Scope} {pos spos : Pos} {d : D} (mk : α → D) (xs : List α) (p : α → Bool) (f : α → D) (cs : List (Nat × Str))
    (R:Room g.A 0) (h1:g.ns[i]?=some z) (hk:Stored g S z) (hS:∀ a∈S,a∈g.X) (ok:compOk g.env g.ns scope [x] cs=true) (hi:Ev g ρ μ iter d) (src:Src d (xs.map mk)) (hlen:xs.length≤sizeLine)
    (body:∀ X' L,∀ a∈xs,EvIfs (cG g scope x cs X' L) (some (mk a)::capD ρ cs) μ ifs (p a)∧(p a=true→Ev (cG g scope x cs X' L) (some (mk a)::capD ρ cs) μ elt (f a)))
    (k:Ex g S (ρ.set i (some (.lst ((xs.filter p).map f)))) μ rest Φ)
    (hs:∀ x,foldedSetIterable iter g.env x=pure x:=by intro _;rfl)
    (hsw:swapsWith (.ListComp elt [⟨.Name x px,iter,ifs,0⟩] scope pos) (some (.Name z pz)) spos.line g.env=pure true:=by rfl) :
    Ex g S ρ μ (.Assign [.Name z pz] (.ListComp elt [⟨.Name x px,iter,ifs,0⟩] scope pos) spos::rest) Φ:=Ex.step fun s y=>by
  show wpAny _ _ _ _ _ _
  rw [exec_Assign_Name_used _ _ _ _ hsw]
  refine wpAny_bind (wpAny_standAt (wpAny_bind ?_))
  show wpAny _ g.A (do let _ ← comprehension (.ListComp elt [⟨.Name x px,iter,ifs,0⟩] scope pos) scope g.env _ (newList []) false (eval iter g.env) (some (PySem.assign (.Name z pz) g.env))) _ _ s
  refine wpAny_bind (wpAny_mono (comp_core (use:=some (PySem.assign (.Name z pz) g.env)) (E:=NoE) (Q:=fun _ s'=>Ext g.C S s s'∧St g (ρ.set i (some (.lst ((xs.filter p).map f)))) μ s') mk xs p f cs R ok hi src hlen body y
    (fun L Dd t yt et hD ⟨m,hn⟩ hL ⟨vs,nn,ho,r⟩ hDX=>?_) hs) (fun v s' q=>wpAny_pure (wpAny_pure ⟨q.1,k s' q.2⟩)) fun _ _ e=>e)
  have fL:=y.fresh hL
  have rr:Rep (L::g.X) t.heap (.ref Dd) (.lst ((xs.filter p).map f)):=.lst hDX ho (r.sub fun _ h=>.tail _ h)
  show wpAny _ _ (PySem.assign (.Name z pz) g.env (.ref Dd)) _ _ _
  refine wpAny_assign_Name ((St.store (g:={ g with X:=L::g.X }) yt h1 hk rr).use fun _ s₂ e₂ y₂=>?_)
  have hLS:L∉S:=fun q=>fL.1 (hS L q)
  refine ⟨m,hn.at' fun o q=>e₂.keep L o hLS fL.2.1 q,fun h' hs'=>?_⟩
  have e₃:Ext g.C S s s₂:=(et.wider fun _ h=>nomatch h).trans e₂
  refine ⟨e₃.iter (wr:=[L]) (fun b o hb q=>(hs'.2 b fun z=>hb (z ▸ .head _)).trans q) (fun a ha=>by rw [List.mem_singleton.mp ha];exact hL) fun a ha=>by rw [List.mem_singleton.mp ha];exact y.inv.hb_none hL fL.2.1,?_⟩
  exact y₂.dropX (fun b o hb q=>(hs'.2 b hb).trans q) fL.1 fL.2.1 (y.inv.hb_none hL fL.2.1) fL.2.2.2.1 (fun a ha=>(y.mX a ha).1) (y.envOk.of y₂.envOk) y.inv.pin
theorem Ex.assignCN {α : Type} (i : Nat) {x z : Str} {px pz : Pos} {elt iter : Expr} {ifs : List Expr} {scope : Scope} {pos spos : Pos} {d : D} (mk : α → D) (xs : List α) (p : α → Bool) (f : α → D) (cs : List (Nat × Str))
    (R:Room g.A 0) (h1:g.ns[i]?=some z) (hk:Stored g S z) (hS:∀ a∈S,a∈g.X) (ok:compOk g.env g.ns scope [x] cs=true) (hi:Ev g ρ μ iter d) (src:Src d (xs.map mk)) (hlen:xs.length≤sizeLine)
    (body:∀ X' L,∀ a∈xs,EvIfs (cG g scope x cs X' L) (some (mk a)::capD ρ cs) μ ifs (p a)∧(p a=true→Ev (cG g scope x cs X' L) (some (mk a)::capD ρ cs) μ elt (f a)))
    (k:∀ a,a∉g.X→a∉S→Ex { g with X:=a::g.X } (a::S) (ρ.set i (some (.val (.ref a)))) ((a,.lst ((xs.filter p).map f))::μ) rest Φ)
    (hs:∀ x,foldedSetIterable iter g.env x=pure x:=by intro _;rfl)
    (hsw:swapsWith (.ListComp elt [⟨.Name x px,iter,ifs,0⟩] scope pos) (some (.Name z pz)) spos.line g.env=pure true:=by rfl) :
    Ex g S ρ μ (.Assign [.Name z pz] (.ListComp elt [⟨.Name x px,iter,ifs,0⟩] scope pos) spos::rest) Φ:=Ex.step2 fun s y=>by
  rw [exec_Assign_Name_used _ _ _ _ hsw]
  refine wpAny_bind (wpAny_standAt (wpAny_bind ?_))
  show wpAny _ g.A (do let _ ← comprehension (.ListComp elt [⟨.Name x px,iter,ifs,0⟩] scope pos) scope g.env _ (newList []) false (eval iter g.env) (some (PySem.assign (.Name z pz) g.env))) _ _ s
  refine wpAny_bind (wpAny_mono (comp_core (use:=some (PySem.assign (.Name z pz) g.env)) (E:=NoE) (Q:=fun _ s'=>∃ a,s.heap.get? a=none∧a∉S∧Ext g.C S s s'∧St { g with X:=a::g.X } (ρ.set i (some (.val (.ref a)))) ((a,.lst ((xs.filter p).map f))::μ) s') mk xs p f cs R ok hi src hlen body y
    (fun L Dd t yt et hD ⟨m,hn⟩ hL ⟨vs,nn,ho,r⟩ hDX=>?_) hs) (fun v s' q=>wpAny_pure (wpAny_pure ?_)) fun _ _ e=>e)
  · have fL:=y.fresh hL
    have fD:=y.fresh hD
    have hDL:Dd≠L:=fun e=>hDX (e ▸ .head _)
    have hLD:L∉Dd::g.X:=fun q=>(List.mem_cons.mp q).elim (fun z=>hDL z.symm) fL.1
    have ya:St { g with X:=L::Dd::g.X } ρ ((Dd,.lst ((xs.filter p).map f))::μ) t:=by
      have yw:St { g with X:=[L,Dd]++g.X } ρ μ t:=y.wide (wr:=[L,Dd]) et (fun b hb=>by
        rcases List.mem_cons.mp hb with rfl | hb
        · exact hL
        · rw [List.mem_singleton.mp hb];exact hD) (fun b hb=>by
        rcases List.mem_cons.mp hb with rfl | hb
        · obtain ⟨o,_,_,q,_⟩:=hn;exact ⟨o,q⟩
        · rw [List.mem_singleton.mp hb];exact ⟨_,ho⟩)
      refine St.addmut (g:={ g with X:=L::Dd::g.X }) yw ⟨vs,nn,ho,r.sub fun b hb=>?_⟩ (fun b hb=>?_) (by simp [Mut.more])
      · rcases List.mem_cons.mp hb with rfl | hb
        · exact .tail _ (.head _)
        · rcases List.mem_cons.mp hb with rfl | hb
          · exact .head _
          · exact .tail _ (.tail _ hb)
      · have hb':b=Dd:=by simpa [Mut.more] using hb
        subst hb'
        exact ⟨.tail _ (.head _),fD.2⟩
    show wpAny _ _ (PySem.assign (.Name z pz) g.env (.ref Dd)) _ _ _
    refine wpAny_assign_Name ((St.store (g:={ g with X:=L::Dd::g.X }) ya h1 hk (.val (.ref Dd))).use fun _ s₂ e₂ y₂=>?_)
    have hLS:L∉S:=fun q=>fL.1 (hS L q)
    have hDS:Dd∉S:=fun q=>fD.1 (hS Dd q)
    refine ⟨m,hn.at' fun o q=>e₂.keep L o hLS fL.2.1 q,fun h' hs'=>?_⟩
    have e₃:Ext g.C S s s₂:=(et.wider fun _ h=>nomatch h).trans e₂
    have hLn:=y.inv.hb_none hL fL.2.1
    refine ⟨Dd,hD,hDS,e₃.iter (wr:=[L]) (fun b o hb q=>(hs'.2 b fun z=>hb (z ▸ .head _)).trans q) (fun a ha=>by rw [List.mem_singleton.mp ha];exact hL) (fun a ha=>by rw [List.mem_singleton.mp ha];exact hLn),?_⟩
    refine St.dropX (g:={ g with X:=Dd::g.X }) (L:=L) (tk:=s₂.toks) y₂ (fun b o hb q=>(hs'.2 b hb).trans q) hLD fL.2.1 hLn fL.2.2.2.1 (fun a ha=>?_) ⟨y₂.envOk.kind,y₂.envOk.glob,y₂.envOk.bi,y₂.envOk.ns,.tail _ y.envOk.inX,y₂.envOk.lP,y₂.envOk.cel,fun x c q1 q2=>.tail _ (y.envOk.own x c q1 q2),y₂.envOk.inj⟩ fun p hp=>.tail _ (y.inv.pin p hp)
    rcases List.mem_cons.mp (show a∈Dd::doms μ from ha) with rfl | q
    · exact .head _
    · exact .tail _ (y.mX a q).1
  · obtain ⟨a,hn,haS,e₁,y₁⟩:=q
    refine (k a (y.fresh hn).1 haS s' y₁).use fun fl s₃ e₃ q=>⟨?_,q⟩
    exact ((e₁.wider fun b hb=>.inl (.tail _ hb)).trans e₃).wider fun b hb=>(List.mem_cons.mp hb).elim (fun z=>.inr (z ▸ hn)) .inl
noncomputable def Bi (f:Value) (ds:List D) (d:D):Prop:=∀ (C:Cx) (A:Around) X s vals,Inv C X s→Room A 0→RepL X s.heap vals ds→Dn C A [] s (call f vals) fun v s'=>Rep X s'.heap v d
noncomputable def notRef:Value→Bool
  | .ref _=>false
  | _=>true
theorem mach_of {M:Model} {f:Value} (h:notRef f=true) (hp:Heap) (_:True):∃ k,(k=Keeper.frame∨k=Keeper.machine∨k=Keeper.boundFrame)∧Looks M hp (keeperOf f) k :=
  ⟨.machine,.inr (.inl rfl),by cases f <;> first | exact Looks.now | exact absurd h Bool.false_ne_true⟩
theorem callWith_B {M : Model} {A : Around} {E : Value → Shared → Prop} {env : Env} {pos : Pos} {f : Value} {first : List Value} {e : Expr} {es : List Expr} {Q : Value → Shared → Prop} (hf : notRef f = true)
    (h:wpAny M A (spliced (backTo pos (starEach (e::es) env))) (fun vs s₁=>wpAny M A (call f (first++vs)) Q E s₁) E s)
    (he:starEach (e::es) env=(false,eval e env)::starEach es env:=by rfl) (hplain:(backTo pos (starEach es env)).any (·.1)=false:=by rfl) :
    wpAny M A (callWith pos f first (backTo pos (starEach (e::es) env)) []) Q E s:=by
  rw [he] at h ⊢
  exact callWith_of (P:=fun _=>True) (by show ((false || (backTo pos (starEach es env)).any (·.1)) || false)=false;rw [hplain];rfl) (mach_of hf) (evalArgs_plain (wpAny_mono h (fun _ _ q=>⟨trivial,q⟩) fun _ _ e=>e))
theorem callWith_B0 {M : Model} {A : Around} {E : Value → Shared → Prop} {env : Env} {pos : Pos} {f : Value} {first : List Value} {Q : Value → Shared → Prop} (hf : notRef f = true)
    (h:wpAny M A (call f (first++[])) Q E s):wpAny M A (callWith pos f first (backTo pos (starEach [] env)) []) Q E s :=
  callWith_of (P:=fun _=>True) rfl (mach_of hf) (evalArgs_nil3 ⟨trivial,h⟩)
theorem Ev.callB {func e : Expr} {es : List Expr} {pos : Pos} {f : Value} {ds : List D} {d : D} (R : Room g.A 0) (hf : Ev g ρ μ func (.val f)) (ha : EvL g ρ μ pos (e :: es) ds) (hc : Bi f ds d) (hr : notRef f = true := by rfl)
    (he:starEach (e::es) g.env=(false,eval e g.env)::starEach es g.env:=by rfl) (hplain:(backTo pos (starEach es g.env)).any (·.1)=false:=by rfl)
    (hq:eval (.Call func (e::es) [] pos) g.env=(eval func g.env >>= fun v=>callWith pos v [] (backTo pos (starEach (e::es) g.env)) []):=by rfl):Ev g ρ μ (.Call func (e::es) [] pos) d:=fun s x=>by
  show wpAny _ _ _ _ _ _
  rw [hq]
  refine wpAny_bind (hf.wp x fun v s₁ x₁ r₁ e₁=>?_)
  (first | obtain rfl:=r₁.vI | obtain ⟨_,rfl⟩:=r₁.iI | obtain ⟨_,rfl⟩:=r₁.sI | obtain ⟨_,rfl⟩:=r₁.bI | obtain rfl:=r₁.nI | cases r₁)
  exact callWith_B hr ((ha s₁ x₁).use fun vs s₂ e₂ r₂=>(hc _ _ _ _ _ (x₁.ext e₂).inv R r₂).use fun v s₃ e₃ r₃=>⟨(e₁.trans e₂).trans e₃,r₃⟩) he hplain
theorem Rep.typeIs {X:List Addr} {h:Heap} {v:Value} {ds:List D} {s:Shared} (r:Rep X s.heap v (.lst ds)):s.TypeIs v "list":=by cases r with | lst _ e _=>exact ⟨_,e,rfl⟩
theorem Ev.meth {o e : Expr} {es : List Expr} {name : Str} {apos pos : Pos} {T id : String} {d₀ : D} {ds : List D} {d : D} (R : Room g.A 0) (pa : PlainAttrs T) (slot : Slot T name id) (hty : typeOf (.builtin id) = pure (.type "method_descriptor"))
    (ho:Ev g ρ μ o d₀) (hT:∀ (X:List Addr) (s:Shared) v,Rep X s.heap v d₀→s.TypeIs v T∧(∀ a,v=.ref a→∃ ob,s.heap.get? a=some ob∧ob.dict=Option.none)) (ha:EvL g ρ μ pos (e::es) ds) (hc:Bi (.builtin id) (d₀::ds) d)
    (hbase:attributeBase o name g.env (eval o g.env)=eval o g.env:=by rfl)
    (hfew:((backTo pos (starEach (e::es) g.env)).all (fun x=>!x.1) && (backToKw pos (keywordEach [] g.env)).all (fun x=>x.1.isSome) && decide ((e::es).length+([]:List Keyword).length+(if ([]:List Keyword).isEmpty then 0 else 1) < 30))=true:=by rfl)
    (hline:(apos.endLine == pos.line)=true:=by rfl)
    (he:starEach (e::es) g.env=(false,eval e g.env)::starEach es g.env:=by rfl) (hplain:(backTo pos (starEach es g.env)).any (·.1)=false:=by rfl):Ev g ρ μ (.Call (.Attribute o name apos) (e::es) [] pos) d:=fun s x =>
  wpAny_Call_method hbase hfew hline pa slot hty (ho.wp x fun v s₁ x₁ r₁ e₁=>⟨(hT _ _ _ r₁).1,(hT _ _ _ r₁).2,callWith_B rfl ((ha s₁ x₁).use fun vs s₂ e₂ r₂ =>
    (hc _ _ _ _ (v::vs) (x₁.ext e₂).inv R (.cons (r₁.ext e₂ (fun _ h=>nomatch h) x₁.inv.pin) r₂)).use fun v s₃ e₃ r₃=>⟨(e₁.trans e₂).trans e₃,r₃⟩) he hplain⟩)
theorem Ev.meth0 {o : Expr} {name : Str} {apos pos : Pos} {T id : String} {d₀ d : D} (R : Room g.A 0) (pa : PlainAttrs T) (slot : Slot T name id) (hty : typeOf (.builtin id) = pure (.type "method_descriptor"))
    (ho:Ev g ρ μ o d₀) (hT:∀ (X:List Addr) (s:Shared) v,Rep X s.heap v d₀→s.TypeIs v T∧(∀ a,v=.ref a→∃ ob,s.heap.get? a=some ob∧ob.dict=Option.none)) (hc:Bi (.builtin id) [d₀] d)
    (hbase:attributeBase o name g.env (eval o g.env)=eval o g.env:=by rfl)
    (hfew:((backTo pos (starEach [] g.env)).all (fun x=>!x.1) && (backToKw pos (keywordEach [] g.env)).all (fun x=>x.1.isSome) && decide (([]:List Expr).length+([]:List Keyword).length+(if ([]:List Keyword).isEmpty then 0 else 1) < 30))=true:=by rfl)
    (hline:(apos.endLine == pos.line)=true:=by rfl):Ev g ρ μ (.Call (.Attribute o name apos) [] [] pos) d:=fun s x =>
  wpAny_Call_method hbase hfew hline pa slot hty (ho.wp x fun v s₁ x₁ r₁ e₁=>⟨(hT _ _ _ r₁).1,(hT _ _ _ r₁).2,callWith_B0 rfl ((hc _ _ _ _ [v] x₁.inv R (.cons r₁ .nil)).use fun v s₃ e₃ r₃=>⟨e₁.trans e₃,r₃⟩)⟩)
theorem isStr {x:Str}:∀ (X:List Addr) (s:Shared) v,Rep X s.heap v (.str x)→s.TypeIs v "str"∧(∀ a,v=.ref a→∃ ob,s.heap.get? a=some ob∧ob.dict=Option.none):=fun X s v r=>by
  (first | obtain rfl:=r.vI | obtain ⟨_,rfl⟩:=r.iI | obtain ⟨_,rfl⟩:=r.sI | obtain ⟨_,rfl⟩:=r.bI | obtain rfl:=r.nI | cases r);exact ⟨typeIs_str _ _ _,fun a h=>nomatch h⟩
theorem isLst {ds:List D}:∀ (X:List Addr) (s:Shared) v,Rep X s.heap v (.lst ds)→s.TypeIs v "list"∧(∀ a,v=.ref a→∃ ob,s.heap.get? a=some ob∧ob.dict=Option.none):=fun X s v r=>by
  cases r with | lst _ e _=>exact ⟨⟨_,e,rfl⟩,fun a h=>by cases h;exact ⟨_,e,rfl⟩⟩
theorem Ex.append (i k : Nat) {o e : Expr} {apos pos spos : Pos} {a : Addr} {ds : List D} {d : D} (ho : Ev g ρ μ o (.val (.ref a))) (hk : μ[k]? = some (a, .lst ds)) (hS : ∀ b ∈ doms μ, b ∈ S) (he : Ev g ρ μ e d) (hlen : ds.length ≤ sizeLine)
    (kk:Ex g S ρ (μ.set k (a,.lst (ds++[d]))) rest Φ)
    (hbase:attributeBase o "append" g.env (eval o g.env)=eval o g.env:=by rfl)
    (hfew:((backTo pos (starEach [e] g.env)).all (fun x=>!x.1) && (backToKw pos (keywordEach [] g.env)).all (fun x=>x.1.isSome) && decide ([e].length+([]:List Keyword).length+(if ([]:List Keyword).isEmpty then 0 else 1) < 30))=true:=by rfl)
    (hline:(apos.endLine == pos.line)=true:=by rfl) (hst:starEach [e] g.env=(false,eval e g.env)::starEach [] g.env:=by rfl)
    (hi:interactive g.env=false:=by rfl) (hs:swapsWith (.Call (.Attribute o "append" apos) [e] [] pos) none spos.line g.env=pure false:=by rfl) :
    Ex g S ρ μ (.Expr (.Call (.Attribute o "append" apos) [e] [] pos) spos::rest) Φ:=Ex.step fun s y=>by
  refine wpAny_Expr_any (wpAny_Call_method hbase hfew hline F.plainAttrs_list slot_list_append F.type_list_append (ho.wp y fun v s₁ y₁ r₁ e₁=>?_)) hi hs
  (first | obtain rfl:=r₁.vI | obtain ⟨_,rfl⟩:=r₁.iI | obtain ⟨_,rfl⟩:=r₁.sI | obtain ⟨_,rfl⟩:=r₁.bI | obtain rfl:=r₁.nI | cases r₁)
  obtain ⟨vs,n,hg,r⟩:=y₁.muts _ (List.mem_of_getElem? hk)
  refine ⟨⟨_,hg,rfl⟩,fun b hb=>by cases hb;exact ⟨_,hg,rfl⟩,callWith_B rfl ?_ hst⟩
  refine (EvL.cons he EvL.nil hst s₁ y₁).use fun ws s₂ e₂ r₂=>?_
  have y₂:=y₁.ext e₂
  obtain ⟨vs,n,hg,r⟩:=y₂.muts _ (List.mem_of_getElem? hk)
  cases r₂ with
  | @cons w _ _ _ rw' rn =>
  cases rn
  refine wpAny_list_append_plain (items:=vs.toArray) ⟨n,hg⟩ (fun h' hp hs'=>?_) (by rw [List.size_toArray,r.length];exact hlen)
  obtain ⟨n',hp⟩:=hp
  have hp':h'.get? a=some (lstO (vs++[w]) n'):=by rw [hp,List.push_toArray]
  have haX:=(y₂.mX a (mem_doms (List.mem_of_getElem? hk))).1
  obtain ⟨e₃,y₃⟩:=y₂.setmut (m':=.lst (ds++[d])) (tk:=s₂.toks) hk (.head _) rfl hs' ⟨vs++[w],n',hp',(r.snoc rw').mono fun b o hb q=>⟨hb,(hs'.2 b (fun z=>hb (z ▸ haX))).trans q⟩⟩ ⟨_,hp'⟩
  exact ⟨((e₁.trans e₂).wider fun _ h=>nomatch h).trans (e₃.wider fun b hb=>.inl (hS b hb)),kk _ y₃⟩
end
end Mine
end
section
open PySem PySem.Calls PySem.W PyProof.Rows PySem.SeqAt
open AutoSeq1 (wpAny_loadPart')
namespace Mine
noncomputable abbrev sl (l:List Nat):Str:=⟨l.toArray⟩
noncomputable abbrev D.s (l:List Nat):D:=.str (sl l)
theorem sl_add (a b:List Nat):sl a++sl b=sl (a++b):=by
  show Str.mk (a.toArray++b.toArray)=_
  simp [sl]
theorem sl_len (a:List Nat):(sl a).length=a.length:=by show a.toArray.size=_;simp
theorem sl_inj {a b:List Nat} (h:sl a=sl b):a=b:=by
  have:(sl a).cps=(sl b).cps:=by rw [h]
  simpa [sl] using this
structure Kd {α:Type} [DecidableEq α] (n:Nat) (f:α→D):Prop where
  inj:∀ X h v x y,Rep X h v (f x)→Rep X h v (f y)→x=y
  eq:∀ x y (A:Around) X (s:Shared) va vb,A.units+n < cLine→Rep X s.heap va (f x)→Rep X s.heap vb (f y)→EqAt A s va vb (decide (x=y))
section
variable {α β γ:Type} [DecidableEq α] [DecidableEq β] [DecidableEq γ] {n m k:Nat} {f:α→D} {g:β→D} {e:γ→D}
theorem Kd.up (K:Kd n f) (h:n≤m):Kd m f:=⟨K.inj,fun x y A X s va vb hu=>K.eq x y A X s va vb (by lia)⟩
theorem Kd.int:Kd 0 D.int where
  inj:=fun X h v x y r q=>by
    obtain ⟨t,rfl⟩:=r.iI
    obtain ⟨u,e⟩:=q.iI
    injection e with e;exact e.symm
  eq:=fun x y A X s va vb hu r q=>by
    obtain ⟨t,rfl⟩:=r.iI
    obtain ⟨u,rfl⟩:=q.iI
    exact (MeetsSeq.EqGives.int _ _ _ _).at A s
theorem Kd.s:Kd 0 D.s where
  inj:=fun X h v x y r q=>by
    obtain ⟨t,rfl⟩:=r.sI
    obtain ⟨u,e⟩:=q.sI
    injection e with e;exact (sl_inj e).symm
  eq:=fun x y A X s va vb hu r q=>by
    obtain ⟨t,rfl⟩:=r.sI
    obtain ⟨u,rfl⟩:=q.sI
    have e:((sl x) == (sl y))=decide (x=y):=by
      rw [Bool.eq_iff_iff,beq_iff_eq,decide_eq_true_eq]
      exact ⟨sl_inj,congrArg sl⟩
    exact e ▸ (eqGives_str (sl x) (sl y) t u).at A s
theorem eqAt_bool (x y:Bool) {A:Around} {s:Shared}:EqAt A s (.bool x) (.bool y) (x == y):=fun prog w E Q h=>by
  unfold eqBool
  refine wpAny_holding ?_
  refine wpAny_ite_split (fun hab=>?_) (fun hab=>?_)
  · have e:x=y:=by
      have:=eq_of_beq hab
      injection this
    subst e
    rw [beq_self_eq_true] at h
    exact wpAny_bind (wpAny_rule (wpAny_pure h))
  · exact wpAny_bind (RcAt.bool_bool (A:=A) (s:=s) x y prog w _ _ (wpAny_truthy_bool h))
theorem Kd.bool:Kd 0 D.bool where
  inj:=fun X h v x y r q=>by
    obtain rfl:=r.vI
    injection q.vI with e;exact e.symm
  eq:=fun x y A X s va vb hu r q=>by
    obtain rfl:=r.vI
    obtain rfl:=q.vI
    have e:(x == y)=decide (x=y):=by cases x <;> cases y <;> rfl
    exact e ▸ eqAt_bool x y
theorem seqO_inj {c:Value} {vs ws:List Value} {n m:Nat} (h:some ({ cls:=c,data:=.seq vs.toArray n }:Obj)=some { cls:=c,data:=.seq ws.toArray m }):vs=ws:=by
  injection h with h;injection h with _ _ h _;injection h with h _
  exact congrArg Array.toList h
omit [DecidableEq α] in
theorem RepL.atM {X:List Addr} {h:Heap} {vs:List Value} {xs:List α} {j:Nat} {v:Value} (r:RepL X h vs (xs.map f)) (hv:vs[j]?=some v):∃ x,xs[j]?=some x∧Rep X h v (f x):=by
  obtain ⟨d,hd,rr⟩:=r.get' hv
  rw [List.getElem?_map] at hd
  obtain ⟨x,hx,rfl⟩:=Option.map_eq_some_iff.mp hd
  exact ⟨x,hx,rr⟩
omit [DecidableEq α] in
theorem RepL.lenM {X:List Addr} {h:Heap} {vs:List Value} {xs:List α} (r:RepL X h vs (xs.map f)):vs.toArray.size=xs.length:=r.length.trans (List.length_map ..)
theorem RepL.duo {X:List Addr} {h:Heap} {vs:List Value} {d d':D} (r:RepL X h vs [d,d']):∃ v w,[v,w]=vs∧Rep X h v d∧Rep X h w d':=by
  obtain ⟨v,ws,rfl,a,r⟩:=r.cI
  obtain ⟨w,us,rfl,b,r⟩:=r.cI
  obtain rfl:=r.nI
  exact ⟨v,w,rfl,a,b⟩
theorem RepL.injF {X h} (inj:∀ X h v x y,Rep X h v (f x)→Rep X h v (f y)→x=y) {vs:List Value} {xs ys:List α} (r:RepL X h vs (xs.map f)) (q:RepL X h vs (ys.map f)):xs=ys:=by
  have l1:=r.lenM
  refine List.ext_getElem (l1.symm.trans q.lenM) fun j h1 h2=>?_
  obtain ⟨x,hx,a⟩:=r.atM (List.getElem?_eq_getElem (show j < vs.length from Nat.lt_of_lt_of_eq h1 l1.symm))
  obtain ⟨y,hy,b⟩:=q.atM (List.getElem?_eq_getElem (show j < vs.length from Nat.lt_of_lt_of_eq h1 l1.symm))
  exact Option.some.inj ((List.getElem?_eq_getElem h1).symm.trans (hx.trans ((congrArg some (inj _ _ _ _ _ a b)).trans (hy.symm.trans (List.getElem?_eq_getElem h2)))))
theorem all_eq (xs ys:List α) (h:xs.length=ys.length):((List.range xs.length).all fun j=>decide (xs[j]?=ys[j]?))=decide (xs=ys):=by
  rw [Bool.eq_iff_iff,decide_eq_true_eq,List.all_eq_true]
  refine ⟨fun z=>List.ext_getElem? fun j=>?_,fun e j _=>decide_eq_true (e ▸ rfl)⟩
  by_cases hj:j < xs.length
  · exact of_decide_eq_true (z j (List.mem_range.mpr hj))
  · rw [List.getElem?_eq_none (Nat.not_lt.mp hj),List.getElem?_eq_none (Nat.not_lt.mp (h ▸ hj))]
theorem items_at (K : Kd n f) {X : List Addr} {s : Shared} {A : Around} (hu : A.units + n < cLine) {vs ws : List Value} {xs ys : List α} (r : RepL X s.heap vs (xs.map f)) (q : RepL X s.heap ws (ys.map f)) :
    ∀ j (h1:j < vs.toArray.size) (h2:j < ws.toArray.size),EqAt A s vs.toArray[j] ws.toArray[j] (decide (xs[j]?=ys[j]?)):=fun j h1 h2=>by
  obtain ⟨x,hx,r1⟩:=r.atM (List.getElem?_eq_getElem (show j < vs.length from h1))
  obtain ⟨y,hy,q1⟩:=q.atM (List.getElem?_eq_getElem (show j < ws.length from h2))
  rw [hx,hy,show decide (some x=some y)=decide (x=y) from decide_eq_decide.mpr ⟨Option.some.inj,congrArg some⟩]
  exact K.eq x y A X s _ _ hu r1 q1
theorem Kd.lst (K:Kd n f):Kd (n+1) fun xs:List α=>D.lst (xs.map f) where
  inj:=fun X h v x y r q=>by
    obtain ⟨l,vs,nn,rfl,h1,e1,rr⟩:=r.lI
    obtain ⟨b,ws,nm,hE,h2,e2,qq⟩:=q.lI
    obtain rfl:=Value.ref.inj hE
    obtain rfl:=seqO_inj (e1.symm.trans e2)
    exact RepL.injF K.inj rr qq
  eq:=fun x y A X s va vb hu r q=>by
    obtain ⟨l,vs,nn,rfl,h1,e1,rr⟩:=r.lI
    obtain ⟨b,ws,nm,rfl,h2,e2,qq⟩:=q.lI
    by_cases hlb:l=b
    · subst hlb
      obtain rfl:=seqO_inj (e1.symm.trans e2)
      rw [decide_eq_true (RepL.injF K.inj rr qq)]
      exact EqAt.same _
    · have hl:s.heap.IsList l vs.toArray:=⟨_,e1,rfl,nn,rfl⟩
      have hb:s.heap.IsList b ws.toArray:=⟨_,e2,rfl,nm,rfl⟩
      have lx:=rr.lenM
      have ly:=qq.lenM
      refine EqAt.of_refs hlb ?_
      by_cases hxy:x.length=y.length
      · have:=RcAt.lists (A:=A) hl hb (lx.trans (hxy.trans ly.symm)) (by lia) (items_at K (A:=A.in1) (by show A.units+1+n < cLine;lia) rr qq)
        rwa [lx,all_eq x y hxy] at this
      · rw [decide_eq_false (fun e=>hxy (by rw [e]))]
        exact RcAt.lists_lengths (A:=A) hl hb (bne_iff_ne.mpr fun e=>hxy (lx.symm.trans (e.trans ly))) (by lia)
theorem tup_at {X : List Addr} {s : Shared} {A : Around} {vs ws : List Value} {ds es : List D} {bs : List Bool} (r : RepL X s.heap vs ds) (q : RepL X s.heap ws es) (hl : ds.length = es.length)
    (h:∀ j v w d e,vs[j]?=some v→ws[j]?=some w→ds[j]?=some d→es[j]?=some e→Rep X s.heap v d→Rep X s.heap w e→EqAt A s v w (bs.getD j true)) :
    ∀ j (h1:j < vs.toArray.size) (h2:j < ws.toArray.size),EqAt A s vs.toArray[j] ws.toArray[j] (bs.getD j true):=fun j h1 h2=>by
  obtain ⟨d,hd,r1⟩:=r.get' (List.getElem?_eq_getElem (show j < vs.length from h1))
  obtain ⟨d',hd',q1⟩:=q.get' (List.getElem?_eq_getElem (show j < ws.length from h2))
  exact h j _ _ d d' (List.getElem?_eq_getElem (show j < vs.length from h1)) (List.getElem?_eq_getElem (show j < ws.length from h2)) hd hd' r1 q1
theorem pair_at (K : Kd n f) (K' : Kd n g) {X : List Addr} {s : Shared} {A : Around} (hu : A.units + n < cLine) {vs ws : List Value} {x y : α × β} (r : RepL X s.heap vs [f x.1, g x.2]) (q : RepL X s.heap ws [f y.1, g y.2]) :
    ∀ j (h1:j < vs.toArray.size) (h2:j < ws.toArray.size),EqAt A s vs.toArray[j] ws.toArray[j] ([decide (x.1=y.1),decide (x.2=y.2)].getD j true):=by
  obtain ⟨_,_,rfl,a,b⟩:=r.duo
  obtain ⟨_,_,rfl,a',b'⟩:=q.duo
  intro j h1 h2
  cases j with
  | zero=>exact K.eq _ _ A X s _ _ hu a a'
  | succ j=>cases j with
    | zero=>exact K'.eq _ _ A X s _ _ hu b b'
    | succ j=>exact absurd h1 (Nat.not_lt.mpr (Nat.le_add_left 2 j))
theorem pairAll {x y:α × β}:((List.range (min 2 2)).all (fun j=>[decide (x.1=y.1),decide (x.2=y.2)].getD j true) && (2 == 2))=decide (x=y):=by
  show ((decide (x.1=y.1) && (decide (x.2=y.2) && true)) && true)=_
  rw [Bool.and_true,Bool.and_true,← Bool.decide_and]
  exact decide_eq_decide.mpr Prod.ext_iff.symm
theorem pair_inj (K:Kd n f) (K':Kd m g) {X:List Addr} {h:Heap} {vs:List Value} {x y:α × β} (r:RepL X h vs [f x.1,g x.2]) (q:RepL X h vs [f y.1,g y.2]):x=y:=by
  obtain ⟨_,_,rfl,a,b⟩:=r.duo
  obtain ⟨_,_,e,a',b'⟩:=q.duo
  injection e with e1 e2;injection e2 with e2
  exact Prod.ext (K.inj _ _ _ _ _ a (e1 ▸ a')) (K'.inj _ _ _ _ _ b (e2 ▸ b'))
theorem Kd.pair (K:Kd n f) (K':Kd n g):Kd (n+1) fun x:α × β=>D.tup [f x.1,g x.2] where
  inj:=fun X h v x y r q=>by
    obtain ⟨l,vs,nn,rfl,h1,e1,rr⟩:=r.tI
    obtain ⟨b,ws,nm,hE,h2,e2,qq⟩:=q.tI
    obtain rfl:=Value.ref.inj hE
    obtain rfl:=seqO_inj (e1.symm.trans e2)
    exact pair_inj K K' rr qq
  eq:=fun x y A X s va vb hu r q=>by
    obtain ⟨l,vs,nn,rfl,h1,e1,rr⟩:=r.tI
    obtain ⟨b,ws,nm,rfl,h2,e2,qq⟩:=q.tI
    by_cases hlb:l=b
    · subst hlb
      obtain rfl:=seqO_inj (e1.symm.trans e2)
      rw [decide_eq_true (pair_inj K K' rr qq)]
      exact EqAt.same _
    · have lx:vs.toArray.size=2:=rr.length
      have ly:ws.toArray.size=2:=qq.length
      have:=RcAt.tuples (A:=A) ⟨_,e1,rfl,nn,rfl⟩ ⟨_,e2,rfl,nm,rfl⟩ (by lia) (pair_at K K' (A:=A.in1) (by show A.units+1+n < cLine;lia) rr qq)
      rw [lx,ly,pairAll] at this
      exact EqAt.of_refs hlb this
theorem Cmp.eqP (K:Kd n f) (K':Kd n g) (hn:n < 500) (x y:α × β):Cmp .Eq (.tup [f x.1,g x.2]) (.tup [f y.1,g y.2]) (D.bool (decide (x=y))):=fun C A X s va vb I R r q=>by
  have hu:=R.u
  have hc:cLine=9900:=rfl
  obtain ⟨l,vs,nn,rfl,h1,e1,rr⟩:=r.tI
  obtain ⟨b,ws,nm,rfl,h2,e2,qq⟩:=q.tI
  have lx:vs.toArray.size=2:=rr.length
  have ly:ws.toArray.size=2:=qq.length
  refine RcAt.tuples (A:=A) ⟨_,e1,rfl,nn,rfl⟩ ⟨_,e2,rfl,nm,rfl⟩ (by lia) (pair_at K K' (A:=A.in1) (by show A.units+1+n < cLine;lia) rr qq) C.prog C.w _ _ ⟨.refl ..,?_⟩
  rw [lx,ly,pairAll];exact .val _
theorem Cmp.neP (K:Kd n f) (K':Kd n g) (hn:n < 500) (x y:α × β):Cmp .NotEq (.tup [f x.1,g x.2]) (.tup [f y.1,g y.2]) (D.bool (decide (x≠y))):=fun C A X s va vb I R r q=>by
  have hu:=R.u
  have hc:cLine=9900:=rfl
  obtain ⟨l,vs,nn,rfl,h1,e1,rr⟩:=r.tI
  obtain ⟨b,ws,nm,rfl,h2,e2,qq⟩:=q.tI
  have lx:vs.toArray.size=2:=rr.length
  have ly:ws.toArray.size=2:=qq.length
  refine RcNeAt.tuples (A:=A) ⟨_,e1,rfl,nn,rfl⟩ ⟨_,e2,rfl,nm,rfl⟩ (by lia) (pair_at K K' (A:=A.in1) (by show A.units+1+n < cLine;lia) rr qq) C.prog C.w _ _ ⟨.refl ..,?_⟩
  rw [lx,ly,pairAll,decide_not];exact .val _
theorem Cmp.eqL (K:Kd n f) (hn:n < 500) (xs ys:List α):Cmp .Eq (.lst (xs.map f)) (.lst (ys.map f)) (D.bool (decide (xs=ys))):=fun C A X s va vb I R r q=>by
  have hu:=R.u
  have hc:cLine=9900:=rfl
  obtain ⟨l,vs,nn,rfl,h1,e1,rr⟩:=r.lI
  obtain ⟨b,ws,nm,rfl,h2,e2,qq⟩:=q.lI
  have hl:s.heap.IsList l vs.toArray:=⟨_,e1,rfl,nn,rfl⟩
  have hb:s.heap.IsList b ws.toArray:=⟨_,e2,rfl,nm,rfl⟩
  have lx:=rr.lenM
  have ly:=qq.lenM
  by_cases hxy:xs.length=ys.length
  · refine eq_listAt hl hb (lx.trans (hxy.trans ly.symm)) (by lia) (items_at K (A:=A.in1) (by show A.units+1+n < cLine;lia) rr qq) ⟨.refl ..,?_⟩
    rw [lx,all_eq xs ys hxy];exact .val _
  · refine eq_list_lengthsAt hl hb (bne_iff_ne.mpr fun e=>hxy (lx.symm.trans (e.trans ly))) (by lia) ⟨.refl ..,?_⟩
    rw [decide_eq_false (fun e=>hxy (by rw [e]))];exact .val _
theorem Cmp.neL (K:Kd n f) (hn:n < 500) (xs ys:List α):Cmp .NotEq (.lst (xs.map f)) (.lst (ys.map f)) (D.bool (decide (xs≠ys))):=fun C A X s va vb I R r q=>by
  have hu:=R.u
  have hc:cLine=9900:=rfl
  obtain ⟨l,vs,nn,rfl,h1,e1,rr⟩:=r.lI
  obtain ⟨b,ws,nm,rfl,h2,e2,qq⟩:=q.lI
  have hl:s.heap.IsList l vs.toArray:=⟨_,e1,rfl,nn,rfl⟩
  have hb:s.heap.IsList b ws.toArray:=⟨_,e2,rfl,nm,rfl⟩
  have lx:=rr.lenM
  have ly:=qq.lenM
  by_cases hxy:xs.length=ys.length
  · refine RcNeAt.lists (A:=A) hl hb (lx.trans (hxy.trans ly.symm)) (by lia) (items_at K (A:=A.in1) (by show A.units+1+n < cLine;lia) rr qq) C.prog C.w _ _ ⟨.refl ..,?_⟩
    rw [lx,all_eq xs ys hxy,decide_not];exact .val _
  · refine RcNeAt.lists_lengths (A:=A) hl hb (bne_iff_ne.mpr fun e=>hxy (lx.symm.trans (e.trans ly))) (by lia) C.prog C.w _ _ ⟨.refl ..,?_⟩
    rw [show decide (xs≠ys)=true from decide_eq_true (fun e=>hxy (by rw [e]))];exact .val _
theorem any_at (K : Kd n f) {X : List Addr} {s : Shared} {x : α} {vx : Value} {vs : List Value} {xs : List α} (rx : Rep X s.heap vx (f x)) (r : RepL X s.heap vs (xs.map f)) :
    ∃ e:Value→Bool,(∀ A:Around,A.units+n < cLine→∀ v,v∈vs.toArray→EqAt A s v vx (e v))∧vs.toArray.any e=decide (x∈xs)∧(∀ (j:Nat) v y,vs[j]?=some v→xs[j]?=some y→e v=decide (y=x)):=by
  have one:∀ v y,Rep X s.heap v (f y)→@decide (Rep X s.heap v (f x)) (Classical.propDecidable _)=decide (y=x):=fun v y ry=>decide_eq_decide.mpr ⟨fun z=>K.inj _ _ _ _ _ ry z,fun z=>z ▸ ry⟩
  refine ⟨fun v=>@decide (Rep X s.heap v (f x)) (Classical.propDecidable _),fun A hu v hv=>?_,?_,fun j v y h1 h2=>?_⟩
  · obtain ⟨j,hj⟩:=List.mem_iff_getElem?.mp (List.mem_toArray.mp hv)
    obtain ⟨y,_,ry⟩:=r.atM hj
    have:=K.eq y x A X s _ _ hu ry rx
    rwa [← one v y ry] at this
  · rw [List.any_toArray,Bool.eq_iff_iff,List.any_eq_true,decide_eq_true_eq]
    refine ⟨fun ⟨v,hv,he⟩=>?_,fun hx=>?_⟩
    · obtain ⟨j,hj⟩:=List.mem_iff_getElem?.mp hv
      obtain ⟨y,hy,ry⟩:=r.atM hj
      rw [one v y ry] at he
      exact of_decide_eq_true he ▸ List.mem_of_getElem? hy
    · obtain ⟨j,hj⟩:=List.mem_iff_getElem?.mp hx
      obtain ⟨v,hv,rr⟩:=r.get (k:=j) (d:=f x) (by rw [List.getElem?_map,hj];rfl)
      exact ⟨v,List.mem_of_getElem? hv,(one v x rr).trans (decide_eq_true rfl)⟩
  · obtain ⟨z,hz,rz⟩:=r.atM h1
    exact (one v z rz).trans (Option.some.inj (hz.symm.trans h2) ▸ rfl)
theorem Cmp.inL (K:Kd n f) (hn:n < 500) (x:α) (xs:List α):Cmp .In (f x) (.lst (xs.map f)) (D.bool (decide (x∈xs))):=fun C A X s va vb I R r q=>by
  have hu:=R.u
  have hc:cLine=9900:=rfl
  obtain ⟨b,ws,nm,rfl,h2,e2,qq⟩:=q.lI
  have hb:s.heap.IsList b ws.toArray:=⟨_,e2,rfl,nm,rfl⟩
  obtain ⟨e,h1,h3,_⟩:=any_at K r qq
  refine in_listAt e hb (h1 A.in1 (by show A.units+1+n < cLine;lia)) ⟨.refl ..,?_⟩
  rw [h3];exact .val _
theorem Cmp.notInL (K:Kd n f) (hn:n < 500) (x:α) (xs:List α):Cmp .NotIn (f x) (.lst (xs.map f)) (D.bool (decide (x∉xs))):=fun C A X s va vb I R r q=>by
  have hu:=R.u
  have hc:cLine=9900:=rfl
  obtain ⟨b,ws,nm,rfl,h2,e2,qq⟩:=q.lI
  have hb:s.heap.IsList b ws.toArray:=⟨_,e2,rfl,nm,rfl⟩
  obtain ⟨e,h1,h3,_⟩:=any_at K r qq
  refine notIn_listAt e hb (h1 A.in1 (by show A.units+1+n < cLine;lia)) ⟨.refl ..,?_⟩
  rw [h3,decide_not];exact .val _
end
theorem Cmp.is (a b:Value) (hp:plainIs a b=true):Cmp .Is (.val a) (.val b) (D.bool (a == b)):=fun C A X s va vb I R r q=>by
  (first | obtain rfl:=r.vI | obtain ⟨_,rfl⟩:=r.iI | obtain ⟨_,rfl⟩:=r.sI | obtain ⟨_,rfl⟩:=r.bI | obtain rfl:=r.nI | cases r);(first | obtain rfl:=q.vI | obtain ⟨_,rfl⟩:=q.iI | obtain ⟨_,rfl⟩:=q.sI | obtain ⟨_,rfl⟩:=q.bI | obtain rfl:=q.nI | cases q);exact wpAny_is_plain hp ⟨.refl ..,.val _⟩
theorem Cmp.isNot (a b:Value) (hp:plainIs a b=true):Cmp .IsNot (.val a) (.val b) (D.bool (!(a == b))):=fun C A X s va vb I R r q=>by
  (first | obtain rfl:=r.vI | obtain ⟨_,rfl⟩:=r.iI | obtain ⟨_,rfl⟩:=r.sI | obtain ⟨_,rfl⟩:=r.bI | obtain rfl:=r.nI | cases r);(first | obtain rfl:=q.vI | obtain ⟨_,rfl⟩:=q.iI | obtain ⟨_,rfl⟩:=q.sI | obtain ⟨_,rfl⟩:=q.bI | obtain rfl:=q.nI | cases q);exact wpAny_isNot_plain hp ⟨.refl ..,.val _⟩
theorem Cmp.isB (a b:Bool):Cmp .Is (D.bool a) (D.bool b) (D.bool (decide (a=b))):=by
  have:=Cmp.is (.bool a) (.bool b) (by cases a <;> cases b <;> rfl)
  have e:(Value.bool a == Value.bool b)=decide (a=b):=by cases a <;> cases b <;> rfl
  rwa [e] at this
theorem Cmp.isNotB (a b:Bool):Cmp .IsNot (D.bool a) (D.bool b) (D.bool (decide (a≠b))):=by
  have:=Cmp.isNot (.bool a) (.bool b) (by cases a <;> cases b <;> rfl)
  have e:(!(Value.bool a == Value.bool b))=decide (a≠b):=by cases a <;> cases b <;> rfl
  rwa [e] at this
theorem Cmp.isNone:Cmp .Is D.nil D.nil (D.bool true):=Cmp.is .none .none rfl
theorem Cmp.eqs (a b:List Nat):Cmp .Eq (.s a) (.s b) (D.bool (decide (a=b))):=by
  have:=Cmp.eqS (x:=sl a) (y:=sl b)
  rwa [show ((sl a).cps.toList == (sl b).cps.toList)=decide (a=b) from by rw [show (sl a).cps.toList=a from rfl,show (sl b).cps.toList=b from rfl];exact Bool.beq_eq_decide_eq a b] at this
theorem Cmp.nes (a b:List Nat):Cmp .NotEq (.s a) (.s b) (D.bool (decide (a≠b))):=by
  have:=Cmp.neS (x:=sl a) (y:=sl b)
  rwa [show ((sl a).cps.toList != (sl b).cps.toList)=decide (a≠b) from by
    by_cases h:a=b
    · subst h;simp
    · simp [sl,h,bne]] at this
theorem Cmp.lts (a b:List Nat):Cmp .Lt (.s a) (.s b) (D.bool (decide (a < b))):=by
  have:=Cmp.ltS (x:=sl a) (y:=sl b)
  simpa [sl] using this
theorem Cmp.gts (a b:List Nat):Cmp .Gt (.s a) (.s b) (D.bool (decide (b < a))):=by
  have:=Cmp.gtS (x:=sl a) (y:=sl b)
  simpa [sl] using this
end Mine
end
section
open PySem PySem.Calls PySem.W PyProof.Rows PySem.SeqAt PySem.Builtin.Str
open AutoSeq1 (wpAny_loadPart')
namespace Mine
section
variable {α β γ:Type} [DecidableEq α] [DecidableEq β] [DecidableEq γ] {n m k:Nat} {f:α→D} {g:β→D} {e:γ→D}
theorem tupAll {x y:List α}:((List.range (min x.length y.length)).all (fun j=>decide (x[j]?=y[j]?)) && x.length == y.length)=decide (x=y):=by
  by_cases hxy:x.length=y.length
  · rw [← hxy,Nat.min_self,all_eq x y hxy,beq_self_eq_true,Bool.and_true]
  · rw [decide_eq_false (fun e=>hxy (by rw [e])),beq_eq_false_iff_ne.mpr hxy,Bool.and_false]
theorem Kd.tupL (K:Kd n f):Kd (n+1) fun xs:List α=>D.tup (xs.map f) where
  inj:=fun X h v x y r q=>by
    obtain ⟨l,vs,nn,rfl,h1,e1,rr⟩:=r.tI
    obtain ⟨b,ws,nm,hE,h2,e2,qq⟩:=q.tI
    obtain rfl:=Value.ref.inj hE
    obtain rfl:=seqO_inj (e1.symm.trans e2)
    exact RepL.injF K.inj rr qq
  eq:=fun x y A X s va vb hu r q=>by
    obtain ⟨l,vs,nn,rfl,h1,e1,rr⟩:=r.tI
    obtain ⟨b,ws,nm,rfl,h2,e2,qq⟩:=q.tI
    by_cases hlb:l=b
    · subst hlb
      obtain rfl:=seqO_inj (e1.symm.trans e2)
      rw [decide_eq_true (RepL.injF K.inj rr qq)]
      exact EqAt.same _
    · have:=RcAt.tuples (A:=A) ⟨_,e1,rfl,nn,rfl⟩ ⟨_,e2,rfl,nm,rfl⟩ (by lia) (items_at K (A:=A.in1) (by show A.units+1+n < cLine;lia) rr qq)
      rw [rr.lenM,qq.lenM,tupAll] at this
      exact EqAt.of_refs hlb this
theorem Kd.comap (K:Kd n f) (φ:β→α) (hi:∀ x y,φ x=φ y→x=y) (hg:∀ x,g x=f (φ x)):Kd n g where
  inj:=fun X h v x y r q=>by rw [hg] at r q;exact hi _ _ (K.inj _ _ _ _ _ r q)
  eq:=fun x y A X s va vb hu r q=>by
    rw [hg] at r q
    have:=K.eq _ _ A X s va vb hu r q
    rwa [show decide (φ x=φ y)=decide (x=y) from decide_eq_decide.mpr ⟨hi _ _,congrArg φ⟩] at this
noncomputable abbrev D.t3 (x:Int × Int × Int):D:=.tup [.int x.1,.int x.2.1,.int x.2.2]
theorem Kd.t3:Kd 1 D.t3:=Kd.comap Kd.int.tupL (fun x=>[x.1,x.2.1,x.2.2]) (fun x y h=>by
  injection h with h1 h;injection h with h2 h;injection h with h3
  exact Prod.ext h1 (Prod.ext h2 h3)) fun _=>rfl
end
theorem Bin.fdiv {a b:Int} (hb:b≠0) (hp:Builtin.divisionGoesByPylong a b=false):Bin .FloorDiv (.int a) (.int b) (.int (a.fdiv b)):=fun C A X s va vb _ _ r q=>by
  (first | obtain rfl:=r.vI | obtain ⟨_,rfl⟩:=r.iI | obtain ⟨_,rfl⟩:=r.sI | obtain ⟨_,rfl⟩:=r.bI | obtain rfl:=r.nI | cases r);(first | obtain rfl:=q.vI | obtain ⟨_,rfl⟩:=q.iI | obtain ⟨_,rfl⟩:=q.sI | obtain ⟨_,rfl⟩:=q.bI | obtain rfl:=q.nI | cases q);exact AutoIntOps.floordiv_1 (by simpa using hb) (by rw [hp];exact Bool.false_ne_true) ⟨.tok,.int ..⟩
theorem Bin.fmod {a b:Int} (hb:b≠0):Bin .Mod (.int a) (.int b) (.int (a.fmod b)):=fun C A X s va vb _ _ r q=>by
  (first | obtain rfl:=r.vI | obtain ⟨_,rfl⟩:=r.iI | obtain ⟨_,rfl⟩:=r.sI | obtain ⟨_,rfl⟩:=r.bI | obtain rfl:=r.nI | cases r);(first | obtain rfl:=q.vI | obtain ⟨_,rfl⟩:=q.iI | obtain ⟨_,rfl⟩:=q.sI | obtain ⟨_,rfl⟩:=q.bI | obtain rfl:=q.nI | cases q);exact AutoIntOps.mod_1 (by simpa using hb) ⟨.tok,.int ..⟩
theorem Bin.addS {a b:List Nat} (h:a.length+b.length≤sizeLine):Bin .Add (.s a) (.s b) (.s (a++b)):=fun C A X s va vb _ _ r q=>by
  (first | obtain rfl:=r.vI | obtain ⟨_,rfl⟩:=r.iI | obtain ⟨_,rfl⟩:=r.sI | obtain ⟨_,rfl⟩:=r.bI | obtain rfl:=r.nI | cases r);(first | obtain rfl:=q.vI | obtain ⟨_,rfl⟩:=q.iI | obtain ⟨_,rfl⟩:=q.sI | obtain ⟨_,rfl⟩:=q.bI | obtain rfl:=q.nI | cases q)
  refine SB.add (fun t' k=>⟨.tok,?_⟩) (by rw [sl_len,sl_len];exact h)
  rw [sl_add];exact .str ..
theorem Inp.addS {a b:List Nat} (h:a.length+b.length≤sizeLine):Inp .Add (.s a) (.s b) (.s (a++b)):=fun C A X s va vb _ _ r q=>by
  (first | obtain rfl:=r.vI | obtain ⟨_,rfl⟩:=r.iI | obtain ⟨_,rfl⟩:=r.sI | obtain ⟨_,rfl⟩:=r.bI | obtain rfl:=r.nI | cases r);(first | obtain rfl:=q.vI | obtain ⟨_,rfl⟩:=q.iI | obtain ⟨_,rfl⟩:=q.sI | obtain ⟨_,rfl⟩:=q.bI | obtain rfl:=q.nI | cases q)
  refine SB.iadd (fun t' k=>⟨.tok,?_⟩) (by rw [sl_len,sl_len];exact h)
  rw [sl_add];exact .str ..
theorem Bin.addL {as bs:List D} (h:as.length+bs.length≤sizeLine):Bin .Add (.lst as) (.lst bs) (.lst (as++bs)):=fun C A X s va vb I _ r q=>by
  have hI:=r.lI;clear r;obtain ⟨l,vs,nn,hE,h1,e1,r⟩:=hI;cases hE
  have hI:=q.lI;clear q;obtain ⟨b,ws,nm,hE,h2,e2,q⟩:=hI;cases hE
  refine P.add_list (n:=nn) (n2:=nm) e1 e2 ⟨.push',?_⟩ (by rw [List.size_toArray,List.size_toArray,r.length,q.length];exact h)
  refine .lst (vs:=vs++ws) (n:=0) I.fresh ?_ ((r.append q).mono fun b o hb e=>⟨hb,Heap.get?_push_of_some _ e⟩)
  rw [List.append_toArray];exact Heap.get?_push_size _ rfl
theorem noPylong {a b:Int} (h:b.natAbs < 2 ^ 64):Builtin.divisionGoesByPylong a b=false:=by
  unfold Builtin.divisionGoesByPylong
  have:b.natAbs.log2 < 64∨b.natAbs=0:=by
    by_cases h0:b.natAbs=0
    · exact .inr h0
    · exact .inl ((Nat.log2_lt h0).mpr h)
  simp only [Bool.and_eq_false_iff,decide_eq_false_iff_not]
  left
  split
  · lia
  · rename_i hb
    have hb':b.natAbs≠0:=by simpa using hb
    have:=this.resolve_right hb'
    lia
theorem Bin.div {a b:Int} (h0:0 < b) (h:b < 2 ^ 64):Bin .FloorDiv (.int a) (.int b) (.int (a / b)):=by
  have:=Bin.fdiv (a:=a) (b:=b) (by lia) (noPylong (by lia))
  rwa [Int.fdiv_eq_ediv_of_nonneg _ (by lia)] at this
theorem Bin.mod {a b:Int} (h0:0 < b):Bin .Mod (.int a) (.int b) (.int (a % b)):=by
  have:=Bin.fmod (a:=a) (b:=b) (by lia)
  rwa [Int.fmod_eq_emod_of_nonneg _ (by lia)] at this
theorem Bin.pow {a b:Int} (ha:2≤a) (ha':a < 2 ^ 10) (hb:0≤b) (hb':b≤1000):Bin .Pow (.int a) (.int b) (.int (a ^ b.toNat)):=fun C A X s va vb _ _ r q=>by
  (first | obtain rfl:=r.vI | obtain ⟨_,rfl⟩:=r.iI | obtain ⟨_,rfl⟩:=r.sI | obtain ⟨_,rfl⟩:=r.bI | obtain rfl:=r.nI | cases r);(first | obtain rfl:=q.vI | obtain ⟨_,rfl⟩:=q.iI | obtain ⟨_,rfl⟩:=q.sI | obtain ⟨_,rfl⟩:=q.bI | obtain rfl:=q.nI | cases q)
  by_cases h0:b=0
  · subst h0
    exact AutoIntOps.pow_0 (by lia) rfl ⟨.tok,by simpa using Rep.int (X:=X) 1 _⟩
  · refine AutoIntOps.pow_4 (by lia) (by simpa using h0) (by simp;lia) (by simp;lia) ?_ ⟨.tok,.int ..⟩
    unfold Builtin.Int.intTooBig Builtin.Int.intBits
    have hl:a.natAbs.log2 < 10:=(Nat.log2_lt (by lia)).mpr (by lia)
    rw [if_neg (by simp;lia)]
    simp only [decide_eq_true_eq,Int.not_lt]
    have h1:((a.natAbs.log2+1:Nat):Int)*b≤10*1000:=by
      refine Int.le_trans (Int.mul_le_mul_of_nonneg_right (b:=10) (by lia) hb) (by lia)
    have h2:(10*1000:Int)≤((bitsLine:Nat):Int):=by decide
    lia
theorem rep_fold (l:List Nat):∀ (n:Nat) (acc:Array Nat),((List.replicate n l.toArray).foldl (·++·) acc)=acc++((List.replicate n l).flatten).toArray
  | 0,acc=>by simp
  | n+1,acc=>by
    rw [List.replicate_succ,List.foldl_cons,rep_fold l n,List.replicate_succ,List.flatten_cons]
    simp [Array.append_assoc]
theorem Bin.mulS {a:List Nat} {n:Int} (h0:0≤n) (h:n≤1000) (ha:a.length≤1000):Bin .Mult (.s a) (.int n) (.s ((List.replicate n.toNat a).flatten)):=fun C A X s va vb _ _ r q=>by
  (first | obtain rfl:=r.vI | obtain ⟨_,rfl⟩:=r.iI | obtain ⟨_,rfl⟩:=r.sI | obtain ⟨_,rfl⟩:=r.bI | obtain rfl:=r.nI | cases r);(first | obtain rfl:=q.vI | obtain ⟨_,rfl⟩:=q.iI | obtain ⟨_,rfl⟩:=q.sI | obtain ⟨_,rfl⟩:=q.bI | obtain rfl:=q.nI | cases q)
  have e:Txt.mul (sl a) n=sl ((List.replicate n.toNat a).flatten):=by
    unfold Txt.mul
    by_cases h1:n < 1
    · rw [if_pos h1,show n.toNat=0 from by lia];rfl
    · rw [if_neg h1]
      split
      · rename_i hc
        rw [sl_len] at hc
        rcases Bool.or_eq_true _ _ ▸ hc with hc | hc
        · have:n=1:=by simpa using hc
          subst this;simp
        · have:a=[]:=by simpa using hc
          subst this;simp [sl]
      · show Str.mk _=_
        rw [rep_fold];simp [sl]
  refine SB.mul ⟨by simp;lia,fun _ _=>?_,fun _ _=>?_⟩ (fun t' k=>⟨.tok,e ▸ .str ..⟩)
  · rw [sl_len]
    have:1000≤(2 ^ 63 - 1) / n:=by
      refine (Int.le_ediv_iff_mul_le (by lia)).mpr ?_
      have:1000*n≤1000*1000:=by lia
      exact Int.le_trans this (by decide)
    lia
  · rw [sl_len]
    have h3:a.length*n.toNat≤1000*1000:=Nat.mul_le_mul ha (by lia)
    unfold tooLong
    have:sizeLine=16777216:=rfl
    simp;lia
noncomputable def clipN (n:Nat) (i:Int):Nat:=(max 0 (min (if i < 0 then i+n else i) n)).toNat
noncomputable def cut {α:Type} (l:List α) (lo hi:Option Int):List α :=
  (l.drop (lo.elim 0 (clipN l.length))).take (hi.elim l.length (clipN l.length) - lo.elim 0 (clipN l.length))
theorem bounds_clip (lo hi:Option Int) (n:Nat):sliceBounds lo hi none n=(((lo.elim 0 (clipN n):Nat):Int),((hi.elim n (clipN n):Nat):Int),1):=by
  unfold sliceBounds clipN
  cases lo <;> cases hi <;> simp <;> lia
theorem slicePick_cut (vs:List Value) (lo hi:Option Int):slicePick vs.toArray lo hi none=(cut vs lo hi).toArray:=by
  unfold slicePick
  rw [bounds_clip]
  simp only [sliceRange_one,pick_run]
  simp [cut]
theorem strSlice_cut (l:List Nat) (lo hi:Option Int):(strSliceIndices lo hi 1 l.length).filterMap (l.toArray[·]?)=cut l lo hi:=by
  have:strSliceIndices lo hi 1 l.length=sliceRange (sliceBounds lo hi none l.length).1 (sliceBounds lo hi none l.length).2.1 (sliceBounds lo hi none l.length).2.2:=rfl
  rw [this,bounds_clip]
  simp only [sliceRange_one,pick_run]
  simp [cut]
theorem cut_len_le {α:Type} (l:List α) (lo hi:Option Int):(cut l lo hi).length≤l.length:=((List.take_sublist _ _).trans (List.drop_sublist _ _)).length_le
theorem RepL.cut {X:List Addr} {h:Heap} {vs:List Value} {ds:List D} (r:RepL X h vs ds) (lo hi:Option Int):RepL X h (cut vs lo hi) (cut ds lo hi):=by
  unfold Mine.cut
  rw [r.length]
  exact (r.drop _).take _
theorem cut_map {α β:Type} (f:α→β) (l:List α) (lo hi:Option Int):cut (l.map f) lo hi=(cut l lo hi).map f:=by
  unfold cut
  simp [List.map_drop,List.map_take]
noncomputable def EvP (g:G) (ρ:List (Option D)) (μ:List (Addr × Mut)) (e:Option Expr) (i:Option Int):Prop:=∀ s,St g ρ μ s→Dn g.C g.A [] s (evalPart e g.env) fun v s'=>IsPart v i
section
variable {g:G} {ρ:List (Option D)} {μ:List (Addr × Mut)} {S:List Addr} {s:Shared}
theorem EvP.none:EvP g ρ μ none none:=fun s y=>by rw [evalPart_none];exact wpAny_pure ⟨.refl ..,.none⟩
theorem EvP.some {e:Expr} {i:Int} (h:Ev g ρ μ e (.int i)):EvP g ρ μ (some e) (some i):=fun s y=>by
  rw [evalPart_some]
  exact (h s y).mono fun v s' ex r=>by (first | obtain rfl:=r.vI | obtain ⟨_,rfl⟩:=r.iI | obtain ⟨_,rfl⟩:=r.sI | obtain ⟨_,rfl⟩:=r.bI | obtain rfl:=r.nI | cases r);exact .int ..
theorem Ev.slice {v : Expr} {lo hi st : Option Expr} {p pos : Pos} {a d : D} {i j k : Option Int} (hv : Ev g ρ μ v a) (hl : EvP g ρ μ lo i) (hh : EvP g ρ μ hi j) (hs : EvP g ρ μ st k)
    (o:∀ (C:Cx) (A:Around) X s va l u c,Inv C X s→Room A 0→Rep X s.heap va a→IsPart l i→IsPart u j→IsPart c k →
      Dn C A [] { s with heap:=s.heap.push { cls:=.type "slice",data:=.fields #[l,u,c] } } (subscriptTail v (.Slice lo hi st p) va (.ref s.heap.objs.size)) fun w s'=>Rep X s'.heap w d) (R:Room g.A 0) :
    Ev g ρ μ (.Subscript v (.Slice lo hi st p) pos) d:=fun s x =>
  Subscript_ (hv.wp x fun va s₁ x₁ r₁ e₁=>wpAny_Slice ((hl s₁ x₁).use fun l s₂ e₂ p₂=>(hh s₂ (x₁.ext e₂)).use fun u s₃ e₃ p₃=>(hs s₃ ((x₁.ext e₂).ext e₃)).use fun c s₄ e₄ p₄=>by
    have e₁₄:Ext g.C [] s₁ s₄:=(e₂.trans e₃).trans e₄
    refine (o g.C g.A g.X s₄ va l u c (x₁.ext e₁₄).inv R (r₁.ext e₁₄ (fun _ h=>nomatch h) x₁.inv.pin) p₂ p₃ p₄).use fun w s₅ e₅ r₅=>⟨((e₁.trans e₁₄).trans .push').trans e₅,r₅⟩))
theorem Ev.sliceL {v : Expr} {lo hi : Option Expr} {p pos : Pos} {ds : List D} {i j : Option Int} (R : Room g.A 0) (hv : Ev g ρ μ v (.lst ds)) (hl : EvP g ρ μ lo i) (hh : EvP g ρ μ hi j) (hz : ds.length ≤ sizeLine) :
    Ev g ρ μ (.Subscript v (.Slice lo hi Option.none p) pos) (.lst (cut ds i j)):=Ev.slice hv hl hh EvP.none (fun C A X s va l u c I R r p1 p2 p3=>by
  (first | obtain rfl:=p3.vI | obtain ⟨_,rfl⟩:=p3.iI | obtain ⟨_,rfl⟩:=p3.sI | obtain ⟨_,rfl⟩:=p3.bI | obtain rfl:=p3.nI | cases p3)
  have hI:=r.lI;clear r;obtain ⟨a,vs,nn,hE,h1,e1,r⟩:=hI;cases hE
  have hL:s.heap.IsList a vs.toArray:=⟨_,e1,rfl,nn,rfl⟩
  refine tail_any (s:={ s with heap:=s.heap.push { cls:=.type "slice",data:=.fields #[l,u,.none] } }) (Heap.IsList.typeIs (s:={ s with heap:=s.heap.push { cls:=.type "slice",data:=.fields #[l,u,.none] } }) (hL.push _)) slot_list_getitem.lookup (wpAny_getItem_list_slice (hL.push _) (Heap.IsSliceOf.new ..) p1 p2 .none (by simp) ⟨.push',?_⟩ (by rw [List.size_toArray,r.length];exact hz)) rfl
  refine .lst (vs:=cut vs i j) (n:=0) ?_ ?_ ((r.cut i j).mono fun b o hb e=>⟨hb,Heap.get?_push_of_some _ (Heap.get?_push_of_some _ e)⟩)
  · intro q
    have:=I.lt q
    rw [Heap.size_push] at this
    exact Nat.lt_irrefl _ (Nat.lt_of_succ_lt this)
  · rw [slicePick_cut];exact Heap.get?_push_size _ rfl) R
theorem slice_cut (t:List Nat) (i j:Option Int):Txt.slice (sl t) i j=sl (cut t i j):=by
  unfold Txt.slice
  rw [sl_len,strSlice_cut]
  split
  · rename_i h
    have hl:(strSliceIndices i j 1 t.length).length=t.length:=by simpa using h
    rw [show strSliceIndices i j 1 t.length=sliceRange (sliceBounds i j Option.none t.length).1 (sliceBounds i j Option.none t.length).2.1 (sliceBounds i j Option.none t.length).2.2 from rfl,bounds_clip,sliceRange_one,List.length_map,List.length_range] at hl
    have hb:j.elim t.length (clipN t.length)≤t.length:=by
      cases j
      · exact Nat.le_refl _
      · show clipN t.length _≤_;unfold clipN;lia
    refine congrArg sl (List.Sublist.eq_of_length ((List.take_sublist _ _).trans (List.drop_sublist _ _)) ?_).symm
    rw [List.length_take,List.length_drop]
    lia
  · rfl
theorem partOpt {v:Value} {i:Option Int} (p:IsPart v i):∃ o:Option (Int × Tok),partValue o=v∧o.map (·.1)=i:=by
  cases p with
  | none=>exact ⟨Option.none,rfl,rfl⟩
  | int i t=>exact ⟨some (i,t),rfl,rfl⟩
theorem Ev.sliceS {v : Expr} {lo hi : Option Expr} {p pos : Pos} {t : List Nat} {i j : Option Int} (R : Room g.A 0) (hv : Ev g ρ μ v (.s t)) (hl : EvP g ρ μ lo i) (hh : EvP g ρ μ hi j) (hz : t.length ≤ sizeLine) :
    Ev g ρ μ (.Subscript v (.Slice lo hi Option.none p) pos) (.s (cut t i j)):=Ev.slice hv hl hh EvP.none (fun C A X s va l u c I R r p1 p2 p3=>by
  cases p3
  obtain ⟨t',rfl⟩:=r.sI
  obtain ⟨l,rfl,rfl⟩:=partOpt p1
  obtain ⟨u,rfl,rfl⟩:=partOpt p2
  have fin:∀ (z:Str) (h:Heap) t',z=Txt.slice (sl t) (l.map (·.1)) (u.map (·.1))→Rep X h (.str z t') (.s (cut t (l.map (·.1)) (u.map (·.1)))):=fun z h t' e=>by rw [e,slice_cut];exact .str ..
  exact tail_any (typeIs_str _ _ _) F.slot_str_getitem.lookup (wpAny_getItem_str_slice (l:=l) (u:=u) (st:=Option.none) ⟨_,Heap.get?_push_size _ rfl,rfl,rfl⟩ rfl (post_val_or_str ⟨Nat.le_trans (Txt.slice_le _ _ _) (by rw [sl_len];exact hz),fun t' k=>⟨.tok,fin _ _ _ rfl⟩⟩)) rfl) R
theorem sliceBy_rev (t:List Nat) (u:Tok):Txt.sliceBy (sl t) Option.none Option.none (-1,u)=sl t.reverse:=by
  have h:=step_rev_list (sl t) u
  have e:∀ x:Str,x=sl x.cps.toList:=fun x=>by obtain ⟨⟨l⟩⟩:=x;rfl
  rw [e (Txt.sliceBy (sl t) Option.none Option.none (-1,u)),h]
  congr 1
  rw [sl_len]
  apply List.ext_getElem
  · simp
  · intro i h1 h2
    simp at h1 h2
    simp [sl,List.getElem_reverse,Array.getD,List.getD_eq_getElem?_getD,List.getElem?_eq_getElem (show t.length - 1 - i < t.length by lia),show t.length - 1 - i < t.length by lia]
theorem Ev.revS {v st : Expr} {p pos : Pos} {t : List Nat} (R : Room g.A 0) (hv : Ev g ρ μ v (.s t)) (hst : Ev g ρ μ st (.int (-1))) (hz : t.length ≤ sizeLine) :
    Ev g ρ μ (.Subscript v (.Slice Option.none Option.none (Option.some st) p) pos) (.s t.reverse):=Ev.slice hv EvP.none EvP.none (EvP.some hst) (fun C A X s va l u c I R r p1 p2 p3=>by
  (first | obtain rfl:=p1.vI | obtain ⟨_,rfl⟩:=p1.iI | obtain ⟨_,rfl⟩:=p1.sI | obtain ⟨_,rfl⟩:=p1.bI | obtain rfl:=p1.nI | cases p1);(first | obtain rfl:=p2.vI | obtain ⟨_,rfl⟩:=p2.iI | obtain ⟨_,rfl⟩:=p2.sI | obtain ⟨_,rfl⟩:=p2.bI | obtain rfl:=p2.nI | cases p2);(first | obtain rfl:=p3.vI | obtain ⟨_,rfl⟩:=p3.iI | obtain ⟨_,rfl⟩:=p3.sI | obtain ⟨_,rfl⟩:=p3.bI | obtain rfl:=p3.nI | cases p3)
  (first | obtain rfl:=r.vI | obtain ⟨_,rfl⟩:=r.iI | obtain ⟨_,rfl⟩:=r.sI | obtain ⟨_,rfl⟩:=r.bI | obtain rfl:=r.nI | cases r)
  have fin:∀ (z:Str) (h:Heap) t' u,z=Txt.sliceBy (sl t) Option.none Option.none (-1,u)→Rep X h (.str z t') (.s t.reverse):=by rintro z h t' u rfl;rw [sliceBy_rev];exact .str ..
  have hz':(sl t).length≤sizeLine:=by rw [sl_len];exact hz
  refine tail_any (typeIs_str _ _ _) F.slot_str_getitem.lookup (wpAny_getItem_str_slice (l:=Option.none) (u:=Option.none) (st:=Option.some (-1,_)) ⟨_,Heap.get?_push_size _ rfl,rfl,rfl⟩ rfl ?_) rfl
  refine post_val_or_str ⟨?_,fun t' k=>⟨.tok,?_⟩⟩
  · exact Nat.le_trans (Txt.sliceBy_le (sl t) Option.none Option.none (-1,_) (fun h=>absurd (show (-1:Int)=0 from h) (by decide))) hz'
  · exact fin _ _ _ _ rfl) R
theorem Ev.revL {v st : Expr} {p pos : Pos} {ds : List D} (R : Room g.A 0) (hv : Ev g ρ μ v (.lst ds)) (hst : Ev g ρ μ st (.int (-1))) (hz : ds.length ≤ sizeLine) :
    Ev g ρ μ (.Subscript v (.Slice Option.none Option.none (Option.some st) p) pos) (.lst ds.reverse):=Ev.slice hv EvP.none EvP.none (EvP.some hst) (fun C A X s va l u c I R r p1 p2 p3=>by
  (first | obtain rfl:=p1.vI | obtain ⟨_,rfl⟩:=p1.iI | obtain ⟨_,rfl⟩:=p1.sI | obtain ⟨_,rfl⟩:=p1.bI | obtain rfl:=p1.nI | cases p1);(first | obtain rfl:=p2.vI | obtain ⟨_,rfl⟩:=p2.iI | obtain ⟨_,rfl⟩:=p2.sI | obtain ⟨_,rfl⟩:=p2.bI | obtain rfl:=p2.nI | cases p2);(first | obtain rfl:=p3.vI | obtain ⟨_,rfl⟩:=p3.iI | obtain ⟨_,rfl⟩:=p3.sI | obtain ⟨_,rfl⟩:=p3.bI | obtain rfl:=p3.nI | cases p3)
  have hI:=r.lI;clear r;obtain ⟨a,vs,nn,hE,h1,e1,r⟩:=hI;cases hE
  have hL:s.heap.IsList a vs.toArray:=⟨_,e1,rfl,nn,rfl⟩
  refine tail_any (s:={ s with heap:=s.heap.push { cls:=.type "slice",data:=.fields #[.none,.none,.int (-1) _] } }) (Heap.IsList.typeIs (s:={ s with heap:=s.heap.push { cls:=.type "slice",data:=.fields #[.none,.none,.int (-1) _] } }) (hL.push _)) slot_list_getitem.lookup (wpAny_getItem_list_slice (hL.push _) (Heap.IsSliceOf.new ..) .none .none (.int ..) (by simp) ⟨.push',?_⟩ (by rw [List.size_toArray,r.length];exact hz)) rfl
  refine .lst (vs:=vs.reverse) (n:=0) ?_ ?_ (r.reverse.mono fun b o hb e=>⟨hb,Heap.get?_push_of_some _ (Heap.get?_push_of_some _ e)⟩)
  · intro q
    have:=I.lt q
    rw [Heap.size_push] at this
    exact Nat.lt_irrefl _ (Nat.lt_of_succ_lt this)
  · rw [PySem.W.krv_pick];exact Heap.get?_push_size _ rfl) R
theorem Ev.itemL {v i : Expr} {pos : Pos} {ds : List D} {k : Int} {d : D} (R : Room g.A 0) (hv : Ev g ρ μ v (.lst ds)) (hi : Ev g ρ μ i (.int k)) (h0 : 0 ≤ k) (hd : ds[k.toNat]? = Option.some d) (hz : ds.length ≤ sizeLine)
    (hs:∀ a t,subscripted i false (.ref a) (.int k t)=operate [.ref a,.int k t] (getItem (.ref a) (.int k t)):=by intro _ _;rfl):Ev g ρ μ (.Subscript v i pos) d:=Ev.sub R hv hi fun C A X s va vb I R r q=>by
  (first | obtain rfl:=q.vI | obtain ⟨_,rfl⟩:=q.iI | obtain ⟨_,rfl⟩:=q.sI | obtain ⟨_,rfl⟩:=q.bI | obtain rfl:=q.nI | cases q)
  have hI:=r.lI;clear r;obtain ⟨a,vs,nn,hE,h1,e1,r⟩:=hI;cases hE
  have hL:s.heap.IsList a vs.toArray:=⟨_,e1,rfl,nn,rfl⟩
  obtain ⟨w,hw,rw'⟩:=r.get hd
  have hlt:k.toNat < ds.length:=(List.getElem?_eq_some_iff.mp hd).1
  have:sizeLine=16777216:=rfl
  exact tail_any hL.typeIs slot_list_getitem.lookup (wpAny_getItem_list hL h0 (by lia) (by simpa using hw) ⟨.refl ..,rw'⟩) (hs _ _)
theorem Ev.itemT {v i : Expr} {pos : Pos} {ds : List D} {k : Int} {d : D} (R : Room g.A 0) (hv : Ev g ρ μ v (.tup ds)) (hi : Ev g ρ μ i (.int k)) (h0 : 0 ≤ k) (hd : ds[k.toNat]? = Option.some d) (hz : ds.length ≤ sizeLine)
    (hs:∀ a t,subscripted i false (.ref a) (.int k t)=operate [.ref a,.int k t] (getItem (.ref a) (.int k t)):=by intro _ _;rfl):Ev g ρ μ (.Subscript v i pos) d:=Ev.sub R hv hi fun C A X s va vb I R r q=>by
  (first | obtain rfl:=q.vI | obtain ⟨_,rfl⟩:=q.iI | obtain ⟨_,rfl⟩:=q.sI | obtain ⟨_,rfl⟩:=q.bI | obtain rfl:=q.nI | cases q)
  have hI:=r.tI;clear r;obtain ⟨a,vs,nn,hE,h1,e1,r⟩:=hI;cases hE
  have hL:IsTup s.heap a vs.toArray:=⟨_,e1,rfl,nn,rfl⟩
  obtain ⟨w,hw,rw'⟩:=r.get hd
  have hlt:k.toNat < ds.length:=(List.getElem?_eq_some_iff.mp hd).1
  have:sizeLine=16777216:=rfl
  refine item_tupleT hL (by lia) (by lia) (j:=k.toNat) ?_ hw ⟨.refl ..,rw'⟩ (hs _ _)
  unfold seqIndex?
  rw [r.length]
  simp;lia
theorem Ev.itemS {v i : Expr} {pos : Pos} {t : List Nat} {k : Int} {c : Nat} (R : Room g.A 0) (hv : Ev g ρ μ v (.s t)) (hi : Ev g ρ μ i (.int k)) (h0 : 0 ≤ k) (hd : t[k.toNat]? = Option.some c) (hz : t.length ≤ sizeLine)
    (hs:∀ x u t,subscripted i false (.str x u) (.int k t)=operate [.str x u,.int k t] (getItem (.str x u) (.int k t)):=by intro _ _ _;rfl):Ev g ρ μ (.Subscript v i pos) (.s [c]):=Ev.sub R hv hi fun C A X s va vb I R r q=>by
  (first | obtain rfl:=q.vI | obtain ⟨_,rfl⟩:=q.iI | obtain ⟨_,rfl⟩:=q.sI | obtain ⟨_,rfl⟩:=q.bI | obtain rfl:=q.nI | cases q)
  (first | obtain rfl:=r.vI | obtain ⟨_,rfl⟩:=r.iI | obtain ⟨_,rfl⟩:=r.sI | obtain ⟨_,rfl⟩:=r.bI | obtain rfl:=r.nI | cases r)
  have hlt:k.toNat < t.length:=(List.getElem?_eq_some_iff.mp hd).1
  have:sizeLine=16777216:=rfl
  refine tail_any (typeIs_str _ _ _) F.slot_str_getitem.lookup (P.getItem_str (c:=c) (by simp;lia) ?_ ⟨.tok,.str ..⟩) (hs _ _ _)
  have hj:seqIndex? k t.length=Option.some k.toNat:=by
    unfold seqIndex?
    simp only [if_neg (show ¬ k < 0 by lia)]
    rw [if_pos (by simp;lia)]
  rw [sl_len,hj]
  simpa using hd
end
end Mine
end
section
open PySem PySem.Calls PySem.W PyProof.Rows PySem.SeqAt PySem.Builtin.Str
open AutoSeq1 (wpAny_loadPart')
namespace Mine
theorem RepL.ints {X:List Addr} {h:Heap} {vs:List Value} {ns:List Int} (r:RepL X h vs (ns.map D.int)):IntsAre vs ns:=by
  induction ns generalizing vs with
  | nil=>obtain rfl:=r.nI;exact .nil
  | cons n ns ih =>
    obtain ⟨v,ws,rfl,a,r'⟩:=r.cI
    obtain ⟨t,rfl⟩:=a.iI
    exact .cons _ _ (ih r')
theorem RepL.strs {X:List Addr} {h:Heap} {vs:List Value} {ns:List (List Nat)} (r:RepL X h vs (ns.map D.s)):StrsAre vs (ns.map sl):=by
  induction ns generalizing vs with
  | nil=>obtain rfl:=r.nI;exact .nil
  | cons n ns ih =>
    obtain ⟨v,ws,rfl,a,r'⟩:=r.cI
    obtain ⟨t,rfl⟩:=a.sI
    exact .cons _ _ (ih r')
theorem RepL.one {X:List Addr} {h:Heap} {vs:List Value} {d:D} (r:RepL X h vs [d]):∃ v,vs=[v]∧Rep X h v d:=by
  obtain ⟨v,ws,rfl,a,r⟩:=r.cI
  obtain rfl:=r.nI
  exact ⟨_,rfl,a⟩
theorem RepL.two {X:List Addr} {h:Heap} {vs:List Value} {d e:D} (r:RepL X h vs [d,e]):∃ v w,vs=[v,w]∧Rep X h v d∧Rep X h w e:=by
  obtain ⟨_,_,rfl,a,b⟩:=r.duo
  exact ⟨_,_,rfl,a,b⟩
theorem RepL.three {X:List Addr} {h:Heap} {vs:List Value} {d e f:D} (r:RepL X h vs [d,e,f]):∃ v w z,vs=[v,w,z]∧Rep X h v d∧Rep X h w e∧Rep X h z f:=by
  obtain ⟨v,ws,rfl,a,r⟩:=r.cI
  obtain ⟨_,_,rfl,b,c⟩:=r.duo
  exact ⟨_,_,_,rfl,a,b,c⟩
theorem Bi.lenL {ds:List D} (h:ds.length≤sizeLine):Bi (.builtin "len") [.lst ds] (.int ds.length):=fun C A X s vals I R rl=>by
  obtain ⟨v,rfl,r⟩:=rl.one
  have hI:=r.lI;clear r;obtain ⟨l,vs,nn,hE,h1,e1,r⟩:=hI;cases hE
  have:sizeLine=16777216:=rfl
  have hl:s.heap.IsList l vs.toArray:=⟨_,e1,rfl,nn,rfl⟩
  refine PyProof.Rows.len_list hl (by rw [List.size_toArray,r.length];lia) ⟨.tok,?_⟩
  rw [List.size_toArray,r.length];exact .int ..
theorem Bi.lenS {t:List Nat} (h:t.length≤sizeLine):Bi (.builtin "len") [.s t] (.int t.length):=fun C A X s vals I R rl=>by
  obtain ⟨v,rfl,r⟩:=rl.one
  (first | obtain rfl:=r.vI | obtain ⟨_,rfl⟩:=r.iI | obtain ⟨_,rfl⟩:=r.sI | obtain ⟨_,rfl⟩:=r.bI | obtain rfl:=r.nI | cases r)
  have:sizeLine=16777216:=rfl
  refine PyProof.Rows.len_str (by rw [sl_len];lia) ⟨.tok,?_⟩
  rw [sl_len];exact .int ..
theorem Bi.lenB {b:Array UInt8} (h:b.size≤sizeLine):Bi (.builtin "len") [.bytes b] (.int b.size):=fun C A X s vals I R rl=>by
  obtain ⟨v,rfl,r⟩:=rl.one
  (first | obtain rfl:=r.vI | obtain ⟨_,rfl⟩:=r.iI | obtain ⟨_,rfl⟩:=r.sI | obtain ⟨_,rfl⟩:=r.bI | obtain rfl:=r.nI | cases r)
  have:sizeLine=16777216:=rfl
  exact PySem.W.len_bytes (by lia) ⟨.tok,.int ..⟩
theorem Bi.range1 {n:Int}:Bi (.type "range") [.int n] (.rng 0 n 1):=fun C A X s vals I R rl=>by
  obtain ⟨v,rfl,r⟩:=rl.one
  (first | obtain rfl:=r.vI | obtain ⟨_,rfl⟩:=r.iI | obtain ⟨_,rfl⟩:=r.sI | obtain ⟨_,rfl⟩:=r.bI | obtain rfl:=r.nI | cases r)
  exact call_range_1 ⟨.push,.rng I.fresh (Heap.get?_push_size _ rfl)⟩
theorem Bi.range2 {a b:Int}:Bi (.type "range") [.int a,.int b] (.rng a b 1):=fun C A X s vals I R rl=>by
  obtain ⟨v,w,rfl,r,q⟩:=rl.two
  (first | obtain rfl:=r.vI | obtain ⟨_,rfl⟩:=r.iI | obtain ⟨_,rfl⟩:=r.sI | obtain ⟨_,rfl⟩:=r.bI | obtain rfl:=r.nI | cases r);(first | obtain rfl:=q.vI | obtain ⟨_,rfl⟩:=q.iI | obtain ⟨_,rfl⟩:=q.sI | obtain ⟨_,rfl⟩:=q.bI | obtain rfl:=q.nI | cases q)
  exact call_range_2 ⟨.push,.rng I.fresh (Heap.get?_push_size _ rfl)⟩
theorem Bi.range3 {a b c:Int} (hc:0 < c) (hc':c < 2 ^ 64):Bi (.type "range") [.int a,.int b,.int c] (.rng a b c):=fun C A X s vals I R rl=>by
  obtain ⟨v,w,z,rfl,r,q,p⟩:=rl.three
  (first | obtain rfl:=r.vI | obtain ⟨_,rfl⟩:=r.iI | obtain ⟨_,rfl⟩:=r.sI | obtain ⟨_,rfl⟩:=r.bI | obtain rfl:=r.nI | cases r);(first | obtain rfl:=q.vI | obtain ⟨_,rfl⟩:=q.iI | obtain ⟨_,rfl⟩:=q.sI | obtain ⟨_,rfl⟩:=q.bI | obtain rfl:=q.nI | cases q);cases p
  exact PySem.call_range_3 (by lia) ⟨.push',.rng I.fresh (Heap.get?_push_size _ rfl)⟩ (.inl (noPylong (by lia)))
theorem Bi.chr {n:Int} (h0:0≤n) (h1:n≤1114111):Bi (.builtin "chr") [.int n] (.s [n.toNat]):=fun C A X s vals I R rl=>by
  obtain ⟨v,rfl,r⟩:=rl.one
  (first | obtain rfl:=r.vI | obtain ⟨_,rfl⟩:=r.iI | obtain ⟨_,rfl⟩:=r.sI | obtain ⟨_,rfl⟩:=r.bI | obtain rfl:=r.nI | cases r)
  exact chr_of_range h0 h1 ⟨.tok,.str ..⟩
theorem Bi.ord {c:Nat}:Bi (.builtin "ord") [.s [c]] (.int c):=fun C A X s vals I R rl=>by
  obtain ⟨v,rfl,r⟩:=rl.one
  (first | obtain rfl:=r.vI | obtain ⟨_,rfl⟩:=r.iI | obtain ⟨_,rfl⟩:=r.sI | obtain ⟨_,rfl⟩:=r.bI | obtain rfl:=r.nI | cases r)
  exact P.ord_of_char ⟨.tok,.int ..⟩
theorem Bi.bytes {ns:List Int} (h:∀ n∈ns,0≤n∧n < 256) (hz:ns.length≤sizeLine):Bi (.type "bytes") [.lst (ns.map D.int)] (.bytes (byteArr ns)):=fun C A X s vals I R rl=>by
  obtain ⟨v,rfl,r⟩:=rl.one
  have hI:=r.lI;clear r;obtain ⟨l,vs,nn,hE,h1,e1,r⟩:=hI;cases hE
  have hl:s.heap.IsList l vs.toArray:=⟨_,e1,rfl,nn,rfl⟩
  have hi:=r.ints
  exact call_bytes_ints hl hi h (by rw [hi.length];exact hz) R.h fun h' t k hk=>⟨.up hk,.bytes ..⟩
theorem Bi.sum {ns:List Int}:Bi (.builtin "sum") [.lst (ns.map D.int)] (.int ns.sum):=fun C A X s vals I R rl=>by
  obtain ⟨v,rfl,r⟩:=rl.one
  have hI:=r.lI;clear r;obtain ⟨l,vs,nn,hE,h1,e1,r⟩:=hI;cases hE
  have hl:s.heap.IsList l vs.toArray:=⟨_,e1,rfl,nn,rfl⟩
  have hi:=r.ints
  obtain ⟨xs,hx⟩:=hi.allInts.items
  have hl':s.heap.IsList l (intItems xs):=hx ▸ hl
  refine sum_intListG R.h hl' fun h' tk t' hk=>⟨.up hk,?_⟩
  have e1:ns=xs.toList.map (·.1):=by
    rw [← nums_intItems,← hx]
    exact (show numsOf vs.toArray.toList=ns from hi.numsOf).symm
  have e2:preSum (numAt xs) xs.size=ns.sum:=by
    rw [preSum_eq,List.take_of_length_le (by simp),e1]
  rw [e2];exact .int ..
theorem Bi.max {ns:List Int} (hne:0 < ns.length) (M:Int) (hM:M∈ns) (hle:∀ a∈ns,a≤M):Bi (.builtin "max") [.lst (ns.map D.int)] (.int M):=fun C A X s vals I R rl=>by
  obtain ⟨v,rfl,r⟩:=rl.one
  have hI:=r.lI;clear r;obtain ⟨l,vs,nn,hE,h1,e1,r⟩:=hI;cases hE
  have hl:s.heap.IsList l vs.toArray:=⟨_,e1,rfl,nn,rfl⟩
  have hi:=r.ints
  obtain ⟨xs,e⟩:=hi.allInts.items
  have hns:ns=xs.toList.map (·.1):=by
    rw [← hi.numsOf,← nums_intItems,← e]
  have hsz:0 < xs.size:=by
    have h3:=hne;rw [hns,List.length_map,Array.length_toList] at h3;exact h3
  rw [e] at hl
  refine max_intList R.h hl hsz fun v h' tk hv hk=>⟨.up hk,?_⟩
  obtain ⟨t,rfl⟩:=intItems_at hv
  obtain ⟨g1,g2⟩:=argBest_gt (numAt xs) (xs.size - 1)
  have mem:numAt xs (argBest (fun i j=>decide (numAt xs i > numAt xs j)) (xs.size - 1))∈ns:=by
    rw [hns,numAt_eq];exact getD_mem (by rw [List.length_map,Array.length_toList];lia)
  have top:M≤numAt xs (argBest (fun i j=>decide (numAt xs i > numAt xs j)) (xs.size - 1)):=by
    rw [hns] at hM
    obtain ⟨j,hj,rfl⟩:=mem_getD hM
    rw [List.length_map,Array.length_toList] at hj
    rw [← numAt_eq];exact g2 j (by lia)
  have:=hle _ mem
  have e3:numAt xs (argBest (fun i j=>decide (numAt xs i > numAt xs j)) (xs.size - 1))=M:=by lia
  rw [e3];exact .int ..
theorem Bi.abs {n:Int}:Bi (.builtin "abs") [.int n] (.int n.natAbs):=fun C A X s vals I R rl=>by
  obtain ⟨v,rfl,r⟩:=rl.one
  (first | obtain rfl:=r.vI | obtain ⟨_,rfl⟩:=r.iI | obtain ⟨_,rfl⟩:=r.sI | obtain ⟨_,rfl⟩:=r.bI | obtain rfl:=r.nI | cases r)
  refine call_abs_int fun u tk=>⟨.tok,?_⟩
  rw [show (if n < 0 then -n else n)=(n.natAbs:Int) from by split <;> lia];exact .int ..
theorem join_flat:∀ ls:List (List Nat),Str.join (sl []) (ls.map sl)=sl ls.flatten
  | []=>rfl
  | [a]=>by
    show sl a=_
    simp
  | a::b::r=>by
    have h:=join_flat (b::r)
    show sl a++sl []++Str.join (sl []) ((b::r).map sl)=_
    rw [h,sl_add,sl_add]
    simp
theorem sum_len (ls:List (List Nat)):((ls.map sl).map (·.length)).sum=ls.flatten.length:=by
  rw [List.length_flatten,List.map_map]
  congr 1
theorem Bi.join {ls:List (List Nat)} (h:ls.flatten.length+ls.length≤1048576):Bi (.builtin "str.join") [.s [],.lst (ls.map D.s)] (.s ls.flatten):=fun C A X s vals I R rl=>by
  obtain ⟨v,w,rfl,r,q⟩:=rl.two
  (first | obtain rfl:=r.vI | obtain ⟨_,rfl⟩:=r.iI | obtain ⟨_,rfl⟩:=r.sI | obtain ⟨_,rfl⟩:=r.bI | obtain rfl:=r.nI | cases r)
  have hI:=q.lI;clear q;obtain ⟨l,vs,nn,hE,h1,e1,r⟩:=hI;cases hE
  have hl:s.heap.IsList l vs.toArray:=⟨_,e1,rfl,nn,rfl⟩
  refine PyProof.Rows.join_listW hl (by simpa using r.strs) (by rw [sl_len];simp) ?_ fun t' k=>⟨.tok,?_⟩
  · rw [sum_len,List.length_map];exact h
  · show Rep X s.heap (.str (glued (sl []) (ls.map sl)) t') _
    rw [StrLaws.glued_eq_join,join_flat];exact .str ..
theorem starts_sl (a b:List Nat):Txt.startswith (sl a) (sl b)=b.isPrefixOf a:=by
  unfold Txt.startswith
  rw [StrLaws.subAt_eq,sl_len,sl_len,Bool.eq_iff_iff,List.isPrefixOf_iff_prefix,List.prefix_iff_eq_take]
  simp only [decide_eq_true_eq,List.drop_zero,Nat.zero_add,Bool.and_eq_true,beq_iff_eq]
  constructor
  · rintro ⟨_,h⟩;exact h.symm
  · intro h;refine ⟨?_,h.symm⟩
    rw [h,List.length_take];lia
theorem Bi.starts {a b:List Nat}:Bi (.builtin "str.startswith") [.s a,.s b] (D.bool (b.isPrefixOf a)):=fun C A X s vals I R rl=>by
  obtain ⟨v,w,rfl,r,q⟩:=rl.two
  (first | obtain rfl:=r.vI | obtain ⟨_,rfl⟩:=r.iI | obtain ⟨_,rfl⟩:=r.sI | obtain ⟨_,rfl⟩:=r.bI | obtain rfl:=r.nI | cases r);(first | obtain rfl:=q.vI | obtain ⟨_,rfl⟩:=q.iI | obtain ⟨_,rfl⟩:=q.sI | obtain ⟨_,rfl⟩:=q.bI | obtain rfl:=q.nI | cases q)
  exact SC.startswith ⟨.refl ..,by rw [starts_sl];exact .val _⟩
noncomputable def spaces (a:List Nat):Bool:=!a.isEmpty && a.all Unicode.isSpace
theorem Bi.isspace {a:List Nat}:Bi (.builtin "str.isspace") [.s a] (D.bool (spaces a)):=fun C A X s vals I R rl=>by
  obtain ⟨v,rfl,r⟩:=rl.one
  (first | obtain rfl:=r.vI | obtain ⟨_,rfl⟩:=r.iI | obtain ⟨_,rfl⟩:=r.sI | obtain ⟨_,rfl⟩:=r.bI | obtain rfl:=r.nI | cases r)
  refine SC.isspace ⟨.refl ..,?_⟩
  rw [show Txt.isspace (sl a)=spaces a from by unfold Txt.isspace spaces;rw [sl_len];cases a <;> simp]
  exact .val _
section
variable {α β γ:Type} [DecidableEq α] {n:Nat} {f:α→D}
theorem Bi.index (K:Kd n f) (hn:n < 500) {x:α} {xs:List α} (hx:x∈xs) (hz:xs.length≤sizeLine):Bi (.builtin "list.index") [.lst (xs.map f),f x] (.int (xs.idxOf x)):=fun C A X s vals I R rl=>by
  obtain ⟨v,w,rfl,q,r⟩:=rl.two
  have hu:=R.u
  have hc:cLine=9900:=rfl
  have hsz:sizeLine=16777216:=rfl
  have hI:=q.lI;clear q;obtain ⟨b,ws,nm,hE,h2,e2,q⟩:=hI;cases hE
  obtain ⟨e,h1,h3,h4⟩:=any_at K r q
  have hlt:xs.idxOf x < xs.length:=List.idxOf_lt_length_iff.mpr hx
  have hlen:ws.length=xs.length:=by rw [q.length,List.length_map]
  have hlt':xs.idxOf x < ws.toArray.size:=by simpa [hlen] using hlt
  refine call_meets PySem.F.slot_list_index ⟨_,e2,rfl⟩ PySem.F.entry_list_index (PySem.F.args_list_index_2 _ _)
    (list_indexAt b ws.toArray nm none #[] w e (xs.idxOf x) hlt' (by lia) ?_ fun m hm hlt2=>?_) ⟨e2,h1 _ (by show A.units+1+n < cLine;lia),?_⟩
  · have:=h4 (xs.idxOf x) (ws[xs.idxOf x]'(by simpa using hlt')) x (List.getElem?_eq_getElem _) (by rw [List.getElem?_eq_getElem hlt];simp)
    simpa using this
  · have hm':m < xs.length:=by lia
    have:=h4 m (ws[m]'(by lia)) xs[m] (List.getElem?_eq_getElem _) (List.getElem?_eq_getElem _)
    have hne:xs[m]≠x:=fun z=>by
      have h5:m < xs.findIdx (· == x):=hlt2
      have:=List.not_of_lt_findIdx h5
      simp [z] at this
    rw [decide_eq_false hne] at this
    simpa using this
  · exact ⟨.tok,.int ..⟩
theorem Bi.count (K:Kd n f) (hn:n < 500) {x:α} {xs:List α}:Bi (.builtin "list.count") [.lst (xs.map f),f x] (.int (xs.count x)):=fun C A X s vals I R rl=>by
  obtain ⟨v,w,rfl,q,r⟩:=rl.two
  have hu:=R.u
  have hc:cLine=9900:=rfl
  have hI:=q.lI;clear q;obtain ⟨b,ws,nm,hE,h2,e2,q⟩:=hI;cases hE
  obtain ⟨e,h1,h3,h4⟩:=any_at K r q
  refine call_meets PySem.F.slot_list_count ⟨_,e2,rfl⟩ PySem.F.entry_list_count (PySem.F.args_list_count_2 _ _)
    (list_countAt b ws.toArray nm none #[] w e) ⟨e2,h1 _ (by show A.units+1+n < cLine;lia),?_⟩
  refine ⟨.tok,?_⟩
  have:ws.toArray.toList.countP e=xs.count x:=by
    have go:∀ (ws:List Value) (xs:List α),ws.length=xs.length→(∀ (j:Nat) v y,ws[j]?=some v→xs[j]?=some y→e v=decide (y=x))→ws.countP e=xs.count x:=by
      intro ws
      induction ws with
      | nil=>intro xs hl _;cases xs with | nil=>rfl | cons _ _=>simp at hl
      | cons w ws ih =>
        intro xs hl h
        cases xs with
        | nil=>simp at hl
        | cons y ys =>
          have e0:=h 0 w y rfl rfl
          rw [List.countP_cons,List.count_cons,ih ys (by simpa using hl) (fun j v z h1 h2=>h (j+1) v z (by simpa using h1) (by simpa using h2)),e0]
          by_cases hy:y=x <;> simp [hy]
    exact go ws xs (by rw [q.length,List.length_map]) h4
  rw [this];exact .int ..
end
theorem Bi.list {ds:List D} (hz:ds.length≤sizeLine):∀ (C:Cx) (A:Around) X s vals,Inv C X s→Room A 0→RepL X s.heap vals [.lst ds]→Dn C A [] s (call (.type "list") vals) fun v s'=>∃ a vs n,v=.ref a∧s.heap.get? a=none∧s'.heap.get? a=some (lstO vs n)∧RepL (a::X) s'.heap vs ds:=fun C A X s vals I R rl=>by
  obtain ⟨v,rfl,r⟩:=rl.one
  have hI:=r.lI;clear r;obtain ⟨l,vs,nn,hE,h1,e1,r⟩:=hI;cases hE
  refine call_list_seq l (.inl rfl) e1 rfl rfl (fun h' c' hk hD=>⟨.of_keeps hk rfl rfl,_,vs,c',rfl,none_of_ge (Nat.le_refl _),hD,r.mono fun b o hb q=>⟨fun z=>?_,hk b o q⟩⟩) (by rw [List.size_toArray,r.length];exact hz)
  rcases List.mem_cons.mp z with rfl | z
  · rw [none_of_ge (Nat.le_refl _)] at q;(first | obtain rfl:=q.vI | obtain ⟨_,rfl⟩:=q.iI | obtain ⟨_,rfl⟩:=q.sI | obtain ⟨_,rfl⟩:=q.bI | obtain rfl:=q.nI | cases q)
  · exact hb z
theorem Cmp.eqB {a b:Array UInt8}:Cmp .Eq (.bytes a) (.bytes b) (D.bool (decide (a=b))):=fun C A X s va vb I R r q=>by
  (first | obtain rfl:=r.vI | obtain ⟨_,rfl⟩:=r.iI | obtain ⟨_,rfl⟩:=r.sI | obtain ⟨_,rfl⟩:=r.bI | obtain rfl:=r.nI | cases r);(first | obtain rfl:=q.vI | obtain ⟨_,rfl⟩:=q.iI | obtain ⟨_,rfl⟩:=q.sI | obtain ⟨_,rfl⟩:=q.bI | obtain rfl:=q.nI | cases q)
  refine PySem.W.eq_bytes ⟨.refl ..,?_⟩
  rw [show (a.toList == b.toList)=decide (a=b) from by by_cases h:a=b <;> simp [h]]
  exact .val _
theorem Cmp.neB {a b:Array UInt8}:Cmp .NotEq (.bytes a) (.bytes b) (D.bool (decide (a≠b))):=fun C A X s va vb I R r q=>by
  (first | obtain rfl:=r.vI | obtain ⟨_,rfl⟩:=r.iI | obtain ⟨_,rfl⟩:=r.sI | obtain ⟨_,rfl⟩:=r.bI | obtain rfl:=r.nI | cases r);(first | obtain rfl:=q.vI | obtain ⟨_,rfl⟩:=q.iI | obtain ⟨_,rfl⟩:=q.sI | obtain ⟨_,rfl⟩:=q.bI | obtain rfl:=q.nI | cases q)
  refine PySem.W.ne_bytes ⟨.refl ..,?_⟩
  rw [show (a.toList != b.toList)=decide (a≠b) from by by_cases h:a=b <;> simp [h,bne]]
  exact .val _
theorem Bi.isiInt {n:Int}:Bi (.builtin "isinstance") [.int n,.val (.type "int")] (D.bool true):=fun C A X s vals I R rl=>by
  obtain ⟨v,w,rfl,r,q⟩:=rl.two
  (first | obtain rfl:=r.vI | obtain ⟨_,rfl⟩:=r.iI | obtain ⟨_,rfl⟩:=r.sI | obtain ⟨_,rfl⟩:=r.bI | obtain rfl:=r.nI | cases r);(first | obtain rfl:=q.vI | obtain ⟨_,rfl⟩:=q.iI | obtain ⟨_,rfl⟩:=q.sI | obtain ⟨_,rfl⟩:=q.bI | obtain rfl:=q.nI | cases q)
  exact PySem.IsiPair.int_int ⟨.refl ..,.val _⟩
theorem Bi.isiBytes {b:Array UInt8}:Bi (.builtin "isinstance") [.bytes b,.val (.type "bytes")] (D.bool true):=fun C A X s vals I R rl=>by
  obtain ⟨v,w,rfl,r,q⟩:=rl.two
  (first | obtain rfl:=r.vI | obtain ⟨_,rfl⟩:=r.iI | obtain ⟨_,rfl⟩:=r.sI | obtain ⟨_,rfl⟩:=r.bI | obtain rfl:=r.nI | cases r);(first | obtain rfl:=q.vI | obtain ⟨_,rfl⟩:=q.iI | obtain ⟨_,rfl⟩:=q.sI | obtain ⟨_,rfl⟩:=q.bI | obtain rfl:=q.nI | cases q)
  exact call_isinstance (isinstance_true (Tx:="bytes") F.isi_meta_bytes F.isi_self_bytes) ⟨rfl,.refl ..,.val _⟩
theorem Bi.isiBool {n:Int}:Bi (.builtin "isinstance") [.int n,.val (.type "bool")] (D.bool false):=fun C A X s vals I R rl=>by
  obtain ⟨v,w,rfl,r,q⟩:=rl.two
  (first | obtain rfl:=r.vI | obtain ⟨_,rfl⟩:=r.iI | obtain ⟨_,rfl⟩:=r.sI | obtain ⟨_,rfl⟩:=r.bI | obtain rfl:=r.nI | cases r);(first | obtain rfl:=q.vI | obtain ⟨_,rfl⟩:=q.iI | obtain ⟨_,rfl⟩:=q.sI | obtain ⟨_,rfl⟩:=q.bI | obtain rfl:=q.nI | cases q)
  exact PySem.IsiPair.int_bool ⟨.tok,.val _⟩
end Mine
end
section
open PySem PySem.Calls PySem.W PyProof.Rows PySem.SeqAt PySem.Builtin.Str
open Sem (wp)
namespace Mine
noncomputable def decoding:Code→Bool
  | .builtin id _=>Builtin.Bytes.decodersThatHold.contains id
  | _=>false
noncomputable def Low (l:List (Code × Pos)):Prop:=∀ x∈l,decoding x.1=false
noncomputable def wpS {α:Type} (M:Model) (A:Around) (t:Sem α) (Q:α→Shared→Prop) (E:Value→Shared→Prop) (s:Shared):Prop :=
  ∀ Γ p,Γ.In A→decoding Γ.code=false→Low Γ.below→wp M Γ t (fun a _ s'=>Q a s') (fun e _ s'=>E e s') p s
noncomputable def codeS (M:Model) (A:Around) (c:Code) (R:Result→Shared→Prop) (s:Shared):Prop :=
  ∀ Γ p,Γ.code=c→Γ.Below A→Low Γ.below→wpCode M Γ R p s
section
variable {α β:Type} {M:Model} {A:Around} {E:Value→Shared→Prop} {s:Shared}
theorem anyS {t:Sem α} {Q:α→Shared→Prop} (h:wpAny M A t Q E s):wpS M A t Q E s:=fun Γ p hΓ _ _=>h Γ p hΓ
theorem wpS_mono {t:Sem α} {Q Q':α→Shared→Prop} {E':Value→Shared→Prop} (h:wpS M A t Q E s) (hQ:∀ a s,Q a s→Q' a s) (hE:∀ e s,E e s→E' e s):wpS M A t Q' E' s :=
  fun Γ p hΓ h1 h2=>Sem.wp_mono M Γ t (fun a _ s=>hQ a s) (fun e _ s=>hE e s) p s (h Γ p hΓ h1 h2)
theorem wpS_bind {m:Sem α} {f:α→Sem β} {Q:β→Shared→Prop} (h:wpS M A m (fun a s'=>wpS M A (f a) Q E s') E s):wpS M A (m >>= f) Q E s:=fun Γ p hΓ h1 h2=>by
  rw [Sem.wp_bind']
  exact Sem.wp_mono M Γ m (fun a p' s' h'=>h' Γ p' hΓ h1 h2) (fun _ _ _ h'=>h') p s (h Γ p hΓ h1 h2)
theorem wpS_bindA {m:Sem α} {f:α→Sem β} {Q:β→Shared→Prop} (h:wpAny M A m (fun a s'=>wpS M A (f a) Q E s') E s):wpS M A (m >>= f) Q E s:=wpS_bind (anyS h)
theorem wpS_pure {a:α} {Q:α→Shared→Prop} (h:Q a s):wpS M A (pure a) Q E s:=anyS (wpAny_pure h)
theorem wpS_holding {vs:List Value} {m:Sem α} {Q:α→Shared→Prop} (h:wpS M A m Q E s):wpS M A (holding vs m) Q E s :=
  fun Γ p hΓ h1 h2=>by rw [Sem.wp_holding];exact h Γ p hΓ h1 h2
theorem wpS_onRaise {m:Sem α} {k:Value→Sem Unit} {Q:α→Shared→Prop} (h:wpS M A m Q (fun e s'=>wpS M A (k e) (fun _ s''=>E e s'') E s') s):wpS M A (m.onRaise k) Q E s:=fun Γ p hΓ h1 h2=>by
  rw [Sem.wp_onRaise]
  exact Sem.wp_mono M Γ m (fun _ _ _ h'=>h') (fun e p' s' h'=>h' Γ p' hΓ h1 h2) p s (h Γ p hΓ h1 h2)
theorem codeAnyS {c:Code} {R:Result→Shared→Prop} (h:codeAny M A c R s):codeS M A c R s:=fun Γ p hc hΓ _=>h Γ p hc hΓ
theorem codeS_mono {c:Code} {R R':Result→Shared→Prop} (h:codeS M A c R s) (hR:∀ r s,R r s→R' r s):codeS M A c R' s :=
  fun Γ p hc hΓ hl=>wpCode_mono hR (h Γ p hc hΓ hl)
theorem codeS_of_tree {c : Code} {R : Result → Shared → Prop} (hd : decoding c = false)
    (h:wpS M (A.under c) (M.den c) (fun fin s'=>match fin with | .done f=>R (.ok f) s' | .again c'=>c'.quiet=true∧codeS M A c' R s') (fun e s'=>R (.error e) s') s):codeS M A c R s:=fun Γ p hc hΓ hl=>by
  rw [wpCode_iff_wp,hc]
  refine Sem.wp_mono M Γ _ (fun fin p' s' h'=>?_) (fun _ _ _ h'=>h') p s (h Γ p (hc ▸ hΓ.in) (hc ▸ hd) hl)
  cases fin with
  | done f=>exact h'
  | again c'=>exact ⟨h'.1,h'.2 (Γ.goto c') p' rfl (hΓ.goto c') hl⟩
theorem wpS_runValue {c:Code} {Q:Value→Shared→Prop} (hc:codeS M A c (fun r s'=>match r with | .ok (.ret v)=>Q v s' | .ok _=>False | .error e=>E e s') s):wpS M A (runValue c) Q E s:=fun Γ p hΓ h1 h2=>by
  rw [Sem.wp_runValue]
  refine hc _ p rfl (hΓ.enter c none p (by intro x;cases x)) fun x hx=>?_
  rcases List.mem_cons.mp hx with rfl | hx
  · exact h1
  · exact h2 x hx
theorem wpS_call {f : Value} {pos : List Value} {kw : List (Str × Value)} {Q : Value → Shared → Prop} (hc : codeS M A (.call f ⟨pos, kw⟩) (fun r s' => match r with | .ok (.ret v) => Q v s' | .ok _ => False | .error e => E e s') s) :
    wpS M A (call f pos kw) Q E s:=wpS_runValue hc
end
section
variable {prog:Program} {w:World} {A:Around} {s:Shared}
theorem codeS_builtin {id : String} {args : Args} {b : Builtin} {R : Result → Shared → Prop} (hd : Builtin.Bytes.decodersThatHold.contains id = false) (hb : entryFor table id = some b)
    (h:wpS (model prog w) (A.under (.builtin id args)) (b args) (fun fin s'=>match fin with | .done f=>R (.ok f) s' | .again c'=>c'.quiet=true∧codeS (model prog w) A c' R s') (fun e s'=>R (.error e) s') s):codeS (model prog w) A (.builtin id args) R s:=by
  refine codeS_of_tree hd ?_
  show wpS _ _ (match entryFor table id with | some b=>b args | none=>unsupported ((withoutEnding? id "#data").getD id)) _ _ s
  rw [hb];exact h
theorem codeS_func {body env} {R:Result→Shared→Prop} (h:wpS (model prog w) (A.deeper env) (execs body env) (fun f s'=>R (.ok (.ret (match f with | .ret v=>v | _=>.none))) s') (fun _ _=>False) s):codeS (model prog w) A (.func body env) R s:=by
  refine codeS_of_tree rfl ?_
  show wpS _ (A.deeper env) (do point;match ← (execs body env).onRaise (leaving env) with | .ret v=>ret v | _=>ret .none) _ _ s
  refine wpS_bindA (wpAny_point (wpS_bind (wpS_onRaise (wpS_mono h (fun f s' h'=>?_) fun _ _ h'=>h'.elim))))
  cases f <;> exact wpS_pure h'
theorem codeS_call_function {a : Addr} {args : Args} {o : Obj} {fd : FuncData} {body : List Stmt} {R : Result → Shared → Prop} (hroom : A.depth < recursionLimit) (ho : s.heap.get? a = some o)
    (hd':o.data=.func fd) (hco:fd.scope.isCoroutine=false) (hgen:fd.scope.isGenerator=false) (hbody:fd.body=.stmts body) (hcd:s.heap.CodeRec fd.code fd.qualname)
    (h : wpAny (model prog w) A.in1 (bindArgs fd args) (fun binds s₁ => wpAny (model prog w) A.in1 (newFunctionEnv fd.scope fd.globals fd.closure binds (fd.qualname ++ ".<locals>.") (some a) fd.code none fd.builtins)
        (fun env s₂=>s₂.heap.NoLimit∧codeS (model prog w) A (.func body env) R s₂) (fun e s'=>R (.error e) s') s₁) (fun e s'=>R (.error e) s') s):codeS (model prog w) A (.call (.ref a) args) R s:=by
  refine codeS_of_tree rfl ?_
  show wpS _ A.in1 (callAny (.ref a) args) _ _ s
  simp only [callAny]
  refine wpS_bindA (wpAny_load ho ?_)
  obtain ⟨c,oc,vs,tq,hc,hoc,hdc,hq⟩:=hcd
  simp only [hd',callFunction,hco,hgen,hbody,hc]
  rw [hc] at h
  refine wpS_bindA (m:=field (.ref c) 1) (wpAny_field hoc hdc hq (wpS_bindA (wpAny_pure ?_)))
  exact wpS_bindA (wpAny_mono h (fun binds s₁ h₁=>wpS_bindA (wpAny_mono h₁ (fun env s₂ h₂=>wpS_bindA (wpAny_enterFrame h₂.1 hroom (wpS_pure (And.intro rfl h₂.2)))) fun _ _ h'=>h')) fun _ _ h'=>h')
theorem codeS_call_cells {R : Result → Shared → Prop} {a : Addr} {o : Obj} {fd : FuncData} {body : List Stmt} {vals : List Value} {binds : List (Str × Value)}
    (hroom:A.depth < recursionLimit) (ho:s.heap.get? a=some o) (hdata:o.data=.func fd) (hlim:s.heap.NoLimit) (hcd:s.heap.CodeRec fd.code fd.qualname)
    (hbody:fd.body=.stmts body) (hbind:bindArgs fd ⟨vals,[]⟩=pure binds) (hclo:fd.closure=[])
    (hkind:∀ x∈binds,fd.scope.names.lookup x.1=some .local∨(fd.scope.names.lookup x.1=some .cell∧((cellsFrom (s.heap.objs.size+1) fd.scope.names []).lookup x.1).isSome=true))
    (h : ∀ s₁, InCallC s (callEnvC fd s.heap.objs.size a).locals (bindL (callEnvC fd s.heap.objs.size a).kindOf binds fun _ => none) (callEnvC fd s.heap.objs.size a).cells
        (bindC (callEnvC fd s.heap.objs.size a).kindOf binds fun _=>none) s₁ →
      wpS (model prog w) (A.deeper (callEnvC fd s.heap.objs.size a)) (execs body (callEnvC fd s.heap.objs.size a)) (fun f s'=>R (.ok (.ret (match f with | .ret v=>v | _=>.none))) s') (fun _ _=>False) s₁)
    (hco:fd.scope.isCoroutine=false:=by rfl) (hgen:fd.scope.isGenerator=false:=by rfl) (hk:fd.scope.kind=.function:=by rfl):codeS (model prog w) A (.call (.ref a) ⟨vals,[]⟩) R s:=by
  refine codeS_call_function hroom ho hdata hco hgen hbody hcd ?_
  rw [hbind,hclo]
  refine wpAny_pure (wpAny_newFunctionEnv_cells hk hkind fun env he s' x=>?_)
  subst he
  exact ⟨hlim.keeps x.toInCall.keep,codeS_func (h s' x)⟩
end
end Mine
end
section
open PySem PySem.Calls PySem.W PyProof.Rows PySem.SeqAt PySem.Builtin.Str
open Sem (wp)
namespace Mine
namespace BA
theorem mro:mroOf (.type "bytearray")=pure [.type "bytearray",.type "object"]:=by rw [mroOf_type];kernel_rfl
theorem lookup_new:typeLookup (.type "bytearray") "__new__"=pure (some (.builtin "bytearray.__new__")):=by rw [typeLookup_type,builtinLookup_eq_fast];kernel_rfl
theorem slot_init:Slot "bytearray" "__init__" "bytearray.__init__" :=
  .of (owner:="bytearray") (n:="__init__") (by rw [typeLookup_type,builtinLookup_eq_fast];kernel_rfl) (by decide +kernel) (by decide +kernel) (by decide +kernel)
    (by first | exact .inl (by decide +kernel) | exact .inr (by decide +kernel)) (by rw [isSubtype_type];kernel_rfl)
theorem called:TypeCalled "bytearray" "bytearray.__new__" "bytearray.__init__" :=
  ⟨by decide +kernel,by decide +kernel,⟨_,_,mro⟩,madeBy_type mro lookup_new (by decide +kernel),by decide +kernel,by rw [isSubtype_type];kernel_rfl,slot_init⟩
theorem typeCall (a:Value):checkTypeCall "bytearray" ⟨[a],[]⟩=pure ():=by kernel_rfl
theorem newCall (a:Value):checkBuiltinCall "bytearray.__new__" ⟨[.type "bytearray",a],[]⟩=pure ():=by kernel_rfl
theorem entry_new:entryFor table "bytearray.__new__"=some Builtin.«list.__new__»:=entryFor_alias (id':="list.__new__") (by first | kernel_rfl | (rw [fastTable_eq_tree];kernel_rfl)) (by first | rfl | decide +kernel) (by decide +kernel) (by first | kernel_rfl | (rw [fastTable_eq_tree];kernel_rfl))
theorem entry_init:entryFor table "bytearray.__init__"=some Builtin.«bytearray.__init__»:=by first | exact entryFor_of_tree (by kernel_rfl) | exact entryFor_of_fast (by kernel_rfl)
theorem plain_new:plainId "bytearray.__new__"=true:=by decide +kernel
theorem plain_init:plainId "bytearray.__init__"=true:=by decide +kernel
theorem sub:isSubtype (.type "bytearray") (.type "bytearray")=pure true:=by rw [isSubtype_type];kernel_rfl
theorem owner:("bytearray.__new__".splitOn ".__new__").headD ""="bytearray":=by rw [split_bytearray];rfl
theorem bind (v:Value):Builtin.Bytes.bindOptional "bytearray.__init__" "bytearray" ["source","encoding","errors"] [v] []=pure [some v,none,none]:=by kernel_rfl
theorem rel:typeLookup (.type "bytearray") "__release_buffer__"=pure (some (.builtin "bytearray.__release_buffer__")):=by rw [typeLookup_type,builtinLookup_eq_fast];kernel_rfl
theorem idx:typeLookup (.type "int") "__index__"=pure (some (.builtin "int.__index__")):=by rw [typeLookup_type,builtinLookup_eq_fast];kernel_rfl
end BA
section
variable {prog:Program} {w:World} {A:Around} {E:Value→Shared→Prop} {s:Shared}
theorem code_ba_new (a : Value) {Q₁ : Value → Shared → Prop}
    (h:Q₁ (.ref s.heap.objs.size) { s with heap:=s.heap.push { cls:=.type "bytearray",data:=.bytearray #[] } }) :
    codeAny (model prog w) A (.call (.builtin "bytearray.__new__") ⟨[.type "bytearray",a],[]⟩) (wants Q₁ E) s:=by
  refine codeAny_of_tree ?_
  show wpAny _ A.in1 (do checkBuiltinCall "bytearray.__new__" ⟨[.type "bytearray",a],[]⟩;again (.builtin "bytearray.__new__" ⟨[.type "bytearray",a],[]⟩)) _ _ s
  refine wpAny_bind (wpAny_of_eq (BA.newCall a) (wpAny_pure ⟨plainId_quiet BA.plain_new _,codeAny_builtin_stack BA.entry_new rfl fun p st=>?_⟩))
  rw [Around.under_plainId BA.plain_new _]
  have hsub:=BA.sub
  have hown:=BA.owner
  obtain ⟨hp,g,d,tk,os⟩:=s
  simp only [hown]
  wp_walk
  exact h
theorem unguarded {c : Code} (hd : decoding c = false) (self : Value) (p : Pos) (hg : c.isGuard = false) : (match (c, p) with
    | (.builtin "bytearray.__contains__" ⟨v::_,_⟩,_) | (.builtin "bytearray.__mod__" ⟨v::_,_⟩,_)
    | (.builtin "bytearray.__rmod__" ⟨_::v::_,_⟩,_) | (.builtin "_struct.pack_into.held" ⟨v::_,_⟩,_)=>Builtin.Bytes.sameRef v self
    | (.builtin "bytearray.find.held" ⟨_::_::held,_⟩,_)=>held.any (Builtin.Bytes.sameRef self)
    | (.builtin id ⟨v::_,_⟩,_)=>Builtin.Bytes.sameRef v self && Builtin.Bytes.decodersThatHold.contains id
    | _=>false)=false:=by
  cases c with
  | builtin id args =>
    have hid:guardIds.contains id=false:=hg
    have hdd:Builtin.Bytes.decodersThatHold.contains id=false:=hd
    have n1:id≠"bytearray.__contains__":=fun e=>absurd (e ▸ hid) (by decide +kernel)
    have n2:id≠"bytearray.__mod__":=fun e=>absurd (e ▸ hid) (by decide +kernel)
    have n3:id≠"bytearray.__rmod__":=fun e=>absurd (e ▸ hid) (by decide +kernel)
    have n4:id≠"_struct.pack_into.held":=fun e=>absurd (e ▸ hid) (by decide +kernel)
    have n5:id≠"bytearray.find.held":=fun e=>absurd (e ▸ hid) (by decide +kernel)
    delta unguarded.match_1
    refine (dif_neg n1).trans ((dif_neg n2).trans ((dif_neg n3).trans ((dif_neg n4).trans ((dif_neg n5).trans ?_))))
    obtain ⟨as,ks⟩:=args
    cases as with
    | nil=>rfl
    | cons v as=>exact (congrArg (_ && ·) hdd).trans (Bool.and_false _)
  | _=>rfl
theorem wpS_exported {self:Value} {Q:Bool→Shared→Prop} (hg:A.guards=some []) (h:Q false s):wpS (model prog w) A (Builtin.Bytes.exported self) Q E s:=fun Γ p hΓ h1 h2=>by
  unfold Builtin.Bytes.exported
  show Q (List.any ((Γ.code,p)::Γ.below) _) s
  have hgs:guardsOf ((Γ.code,p)::Γ.below)=[]:=by rw [guardsOf_cons];exact hΓ.2.2.2.1 [] hg
  have:∀ l:List (Code × Pos),guardsOf l=[]→Low l→l.any (fun x=>match x with
    | (.builtin "bytearray.__contains__" ⟨v::_,_⟩,_) | (.builtin "bytearray.__mod__" ⟨v::_,_⟩,_)
    | (.builtin "bytearray.__rmod__" ⟨_::v::_,_⟩,_) | (.builtin "_struct.pack_into.held" ⟨v::_,_⟩,_)=>Builtin.Bytes.sameRef v self
    | (.builtin "bytearray.find.held" ⟨_::_::held,_⟩,_)=>held.any (Builtin.Bytes.sameRef self)
    | (.builtin id ⟨v::_,_⟩,_)=>Builtin.Bytes.sameRef v self && Builtin.Bytes.decodersThatHold.contains id
    | _=>false)=false:=by
    intro l
    induction l with
    | nil=>intro _ _;rfl
    | cons x r ih =>
      intro hg hl
      obtain ⟨c,q⟩:=x
      rw [guardsOf_cons] at hg
      have hgc:c.isGuard=false:=by
        cases h:c.isGuard with
        | false=>rfl
        | true=>simp [Code.guards,h] at hg
      rw [List.any_cons,ih (List.append_eq_nil_iff.mp hg).2 (fun y hy=>hl y (.tail _ hy))]
      have:=unguarded (hl (c,q) (.head _)) self q hgc
      exact (Bool.or_false _).trans this
  have e:=this ((Γ.code,p)::Γ.below) hgs (fun x hx=>(List.mem_cons.mp hx).elim (fun e=>e ▸ h1) fun hx=>h2 x hx)
  have h':∀ b:Bool,b=false→Q b s:=fun b hb=>hb ▸ h
  exact h' _ e
theorem wpS_ite_no {α:Type} {M:Model} {c:Bool} {a b:Sem α} {Q:α→Shared→Prop} (hc:c=false) (h:wpS M A b Q E s):wpS M A (if c=true then a else b) Q E s:=by subst hc;exact h
theorem wpS_ite_yes {α:Type} {M:Model} {c:Bool} {a b:Sem α} {Q:α→Shared→Prop} (hc:c=true) (h:wpS M A a Q E s):wpS M A (if c=true then a else b) Q E s:=by subst hc;exact h
theorem wpS_of_eq {α:Type} {M:Model} {t:Sem α} {a:α} {Q:α→Shared→Prop} (e:t=pure a) (h:Q a s):wpS M A t Q E s:=e ▸ wpS_pure h
theorem pay_ba {b:Array UInt8} {k:Nat} {a:Addr} {Q:Array UInt8→Shared→Prop} (ho:s.heap.get? a=some { cls:=.type "bytearray",data:=.bytearray b k }) (h:Q b s):wpAny (model prog w) A (Builtin.Bytes.payload (.ref a)) Q E s:=by
  unfold Builtin.Bytes.payload Builtin.Bytes.payload?
  exact wpAny_bind (wpAny_bind (wpAny_load ho (wpAny_pure (wpAny_pure h))))
theorem write_ba {b : Array UInt8} {k : Nat} {a : Addr} {g : Array UInt8 → Array UInt8} {Q : Unit → Shared → Prop} (ho : s.heap.get? a = some { cls := .type "bytearray", data := .bytearray b k }) (hz : (g b).size ≤ sizeLine)
    (h:∀ h',Heap.SameBut a s.heap h'→h'.get? a=some { cls:=.type "bytearray",data:=.bytearray (g b) k }→Q () { s with heap:=h' }):wpAny (model prog w) A (Builtin.Bytes.write (.ref a) g) Q E s:=by
  show wpAny _ _ (updateBytearray a g) _ _ _
  unfold updateBytearray
  refine wpAny_bind (wpAny_load ho ?_)
  show wpAny _ _ (update a (Obj.mapBytearray g) >>= fun _=>lookBehind a) _ _ _
  refine wpAny_bind (wpAny_update ho ?_)
  have hS₂:(s.heap.update a (Obj.mapBytearray g)).get? a=some { cls:=.type "bytearray",data:=.bytearray (g b) k }:=Heap.get?_update_self (Obj.mapBytearray g) ho rfl
  refine wpAny_lookBehind hS₂ ?_ ?_
  · show (if (g b).size > sizeLine then some "bytearray:memory" else none)=none
    rw [if_neg (by lia)]
  · exact h _ (Heap.SameBut.update ..) hS₂
theorem release_ba {a:Addr} {o:Obj} {Q:Bool→Shared→Prop} (ho:s.heap.get? a=some o) (hc:o.cls=.type "bytearray") (h:Q false s):wpAny (model prog w) A (Builtin.Bytes.ownRelease (.ref a)) Q E s:=by
  unfold Builtin.Bytes.ownRelease Builtin.Bytes.slotIsOwn
  have hT:s.TypeIs (.ref a) "bytearray":=⟨o,ho,hc⟩
  refine wpAny_bind (wpAny_bind (wpAny_specialOf hT BA.rel ?_))
  dsimp only
  rw [show (!("bytearray.__release_buffer__".endsWith ("."++"__release_buffer__")))=false from by decide +kernel]
  refine bm_if_false rfl ?_
  rw [show "bytearray.__release_buffer__".dropRight ("__release_buffer__".length+1)="bytearray" from by decide +kernel]
  exact wpAny_isInstance hT BA.sub (wpAny_pure h)
theorem ba_init {a : Addr} {n : Int} {t : Tok} {P : Shared → Prop} (ho : s.heap.get? a = some { cls := .type "bytearray", data := .bytearray #[] 0 }) (h0 : 0 ≤ n) (hz : n ≤ sizeLine) (hg : A.guards = some [])
    (h:∀ h',Heap.SameBut a s.heap h'→(∃ k,h'.get? a=some { cls:=.type "bytearray",data:=.bytearray (Array.replicate n.toNat 0) k })→P { s with heap:=h' }) :
    wpS (model prog w) A (Builtin.«bytearray.__init__» ⟨[.ref a,.int n t],[]⟩) (fun fin s'=>fin=.done (.ret .none)∧P s') E s:=by
  unfold Builtin.«bytearray.__init__»
  refine wpS_bindA (release_ba ho rfl ?_)
  refine wpS_ite_no rfl ?_
  refine wpS_bind (wpS_of_eq (BA.bind _) ?_)
  refine wpS_bind (wpS_of_eq (a:=()) rfl ?_)
  refine wpS_bind (wpS_of_eq (a:=()) rfl ?_)
  refine wpS_bind ?_
  unfold orM
  refine wpS_bind (wpS_exported hg ?_)
  refine anyS ?_
  show wpAny _ _ (do let x ← Builtin.Bytes.exportsOf (Value.ref a);pure (decide (x > 0))) _ _ _
  refine wpAny_bind ?_
  unfold Builtin.Bytes.exportsOf
  refine wpAny_bind (wpAny_load ho (wpAny_pure (wpAny_pure ?_)))
  refine wpS_ite_no rfl ?_
  refine wpS_bindA (write_ba ho (Nat.zero_le _) fun h₁ hs₁ ho₁=>?_)
  refine wpS_bind (wpS_of_eq (a:=none) rfl ?_)
  refine wpS_ite_no rfl ?_
  refine wpS_bind (wpS_of_eq (a:=()) rfl ?_)
  refine wpS_bindA (wpAny_specialOf (typeIs_int _ _ _) BA.idx ?_)
  refine wpS_ite_yes rfl ?_
  refine wpS_bind (wpS_of_eq (a:=.ok n) rfl ?_)
  dsimp only
  have hs:sizeLine=16777216:=rfl
  refine wpS_ite_no (by simp [Builtin.Bytes.fitsIndex];lia) ?_
  rw [if_neg (show ¬ n < 0 by lia)]
  refine wpS_ite_no (by simp;lia) ?_
  refine wpS_ite_no (by simp [Builtin.Bytes.tooLong];lia) ?_
  refine wpS_bind (anyS (wpAny_rule ?_))
  by_cases hn:n > 0
  · rw [if_pos hn]
    refine wpS_bindA (write_ba ho₁ (by rw [Array.size_replicate];lia) fun h₂ hs₂ ho₂=>wpS_pure ⟨rfl,?_⟩)
    exact h h₂ (hs₁.trans hs₂) ⟨_,ho₂⟩
  · rw [if_neg hn]
    refine wpS_pure ⟨rfl,?_⟩
    have:n=0:=by lia
    subst this
    exact h h₁ hs₁ ⟨_,ho₁⟩
end
end Mine
end
section
open PySem PySem.Calls PySem.W PyProof.Rows PySem.SeqAt PySem.Builtin.Str
open Sem (wp)
namespace Mine
section
variable {prog:Program} {w:World} {A:Around} {E:Value→Shared→Prop} {s:Shared}
theorem call_ba {n : Int} {t : Tok} {Q : Value → Shared → Prop} (h0 : 0 ≤ n) (hz : n ≤ sizeLine) (hg : A.guards = some [])
    (h:∀ h',(∀ b o,s.heap.get? b=some o→h'.get? b=some o)→(∃ k,h'.get? s.heap.objs.size=some { cls:=.type "bytearray",data:=.bytearray (Array.replicate n.toNat 0) k })→Q (.ref s.heap.objs.size) { s with heap:=h' }) :
    wpS (model prog w) A (call (.type "bytearray") [.int n t]) Q E s:=by
  have ft:=BA.called
  have hct:=BA.typeCall (.int n t)
  obtain ⟨c,tl,hmro⟩:=ft.mro
  have hmade:=ft.made
  have hsub:=ft.sub
  have hdec:Builtin.Bytes.decodersThatHold.contains "type.__call__"=false:=by decide +kernel
  have hdec2:Builtin.Bytes.decodersThatHold.contains "bytearray.__init__"=false:=by decide +kernel
  refine wpS_call (codeS_of_tree rfl ?_)
  show wpS _ _ (callAny (.type "bytearray") _) _ _ _
  refine wpS_pure ⟨Code.quiet_builtin _ (by decide +kernel),codeS_builtin hdec F.entry_type_call ?_⟩
  rw [Around.under_plain (weight_type_call_type _ _ []) rfl]
  unfold Builtin.«type.__call__»
  dsimp only
  have h1:=ft.notType
  have h2:=ft.canCreate
  simp only [h1,h2,Bool.false_eq_true,if_false]
  refine wpS_bind (wpS_of_eq hct ?_)
  refine wpS_bind (wpS_of_eq hmro ?_)
  refine wpS_ite_no rfl ?_
  refine wpS_bind (wpS_of_eq hmade ?_)
  refine wpS_bind (wpS_pure ?_)
  refine wpS_bind (wpS_holding (anyS (wpAny_call (code_ba_new _ ?_))))
  have ho:(s.heap.push { cls:=.type "bytearray",data:=.bytearray #[] }).get? s.heap.objs.size=some { cls:=.type "bytearray",data:=.bytearray #[] 0 }:=Heap.get?_push_size _ rfl
  have hT:({ s with heap:=s.heap.push { cls:=.type "bytearray",data:=.bytearray #[] } }:Shared).TypeIs (.ref s.heap.objs.size) "bytearray":=⟨_,ho,rfl⟩
  refine wpS_bindA (wpAny_isInstance hT hsub ?_)
  refine wpS_ite_no rfl ?_
  refine wpS_bind (wpS_holding ?_)
  unfold callSpecial?
  refine wpS_bindA (wpAny_specialOf hT BA.slot_init.lookup ?_)
  simp only [BA.slot_init.bind]
  refine wpS_holding (wpS_bind (wpS_pure (wpS_bind (wpS_call (codeS_of_tree rfl ?_)))))
  show wpS _ A.in1.in1 (do checkBuiltinCall "bytearray.__init__" ⟨[.ref s.heap.objs.size,.int n t],[]⟩;again (.builtin "bytearray.__init__" ⟨[.ref s.heap.objs.size,.int n t],[]⟩)) _ _ _
  refine wpS_bindA (BA.slot_init.check _ _ _ _ _ _ _ _ hT (by unfold argsOk;kernel_rfl) ?_)
  refine wpS_pure ⟨plainId_quiet BA.plain_init _,codeS_builtin hdec2 BA.entry_init ?_⟩
  rw [Around.under_plainId BA.plain_init _]
  refine wpS_mono (ba_init (E:=E) (P:=fun s'=>Q (.ref s.heap.objs.size) s') ho h0 hz hg fun h' hs hp=>h h' (fun b o q=>?_) hp) ?_ ?_
  · have hlt:b < s.heap.objs.size:=Heap.lt_size q
    exact (hs.2 b (Nat.ne_of_lt hlt)).trans (Heap.get?_push_of_some _ q)
  · rintro fin s' ⟨rfl,hq⟩
    refine wpS_pure ?_
    refine wpS_ite_no (by decide) ?_
    exact wpS_pure hq
  · intro e s' he;exact he
end
end Mine
end
section
open PySem PySem.Calls PySem.W PyProof.Rows PySem.SeqAt PySem.Builtin.Str
open Sem (wp)
namespace Mine
namespace BA
theorem slot_set:Slot "bytearray" "__setitem__" "bytearray.__setitem__" :=
  .of (owner:="bytearray") (n:="__setitem__") (by rw [typeLookup_type,builtinLookup_eq_fast];kernel_rfl) (by decide +kernel) (by decide +kernel) (by decide +kernel)
    (by first | exact .inl (by decide +kernel) | exact .inr (by decide +kernel)) (by rw [isSubtype_type];kernel_rfl)
theorem entry_set:entryFor table "bytearray.__setitem__"=some Builtin.«bytearray.__setitem__»:=by first | exact entryFor_of_tree (by kernel_rfl) | exact entryFor_of_fast (by kernel_rfl)
theorem no_bytes:typeLookup (.type "bytearray") "__bytes__"=pure none:=by rw [typeLookup_type,builtinLookup_eq_fast];kernel_rfl
theorem noIndex:typeLookup (.type "bytearray") "__index__"=pure none:=by rw [typeLookup_type,builtinLookup_eq_fast];kernel_rfl
theorem buf:typeLookup (.type "bytearray") "__buffer__"=pure (some (.builtin "bytearray.__buffer__")):=by rw [typeLookup_type,builtinLookup_eq_fast];kernel_rfl
end BA
section
variable {prog:Program} {w:World} {A:Around} {E:Value→Shared→Prop} {s:Shared}
theorem setItem_ba {a : Addr} {b : Array UInt8} {n : Nat} {k x : Int} {t u : Tok} {Q : Unit → Shared → Prop} (ho : s.heap.get? a = some { cls := .type "bytearray", data := .bytearray b n })
    (h0:0≤k) (hk:k < b.size) (hz:b.size≤sizeLine) (hx0:0≤x) (hx:x < 256)
    (hQ:∀ h',Heap.SameBut a s.heap h'→h'.get? a=some { cls:=.type "bytearray",data:=.bytearray (b.setIfInBounds k.toNat x.toNat.toUInt8) n }→Q () { s with heap:=h' }) :
    wpAny (model prog w) A (setItem (.ref a) (.int k t) (.int x u)) Q E s:=by
  have hT:s.TypeIs (.ref a) "bytearray":=⟨_,ho,rfl⟩
  have hs:sizeLine=16777216:=rfl
  unfold setItem
  try with_reducible refine wpAny_holding ?_
  first | refine wpAny_bind (wpAny_pure ?_) | skip
  refine wpAny_bind (wpAny_sequenceKey hT (by decide) ?_)
  refine wpAny_bind (wpAny_callSpecial?_slot (name:=Str.ofString "__setitem__") hT BA.slot_set (wpAny_call_entry BA.slot_set hT BA.entry_set ?_ (by unfold argsOk;kernel_rfl)))
  unfold Builtin.«bytearray.__setitem__»
  refine bm_if_false rfl ?_
  show wpAny _ _ (Builtin.Bytes.subscript? (.int k t) >>= _) _ _ s
  refine wpAny_bind ?_
  unfold Builtin.Bytes.subscript?
  refine wpAny_bind (wpAny_specialOf (typeIs_int _ _ _) BA.idx ?_)
  refine bm_if_false rfl ?_
  refine wpAny_bind (wpAny_of_eq (a:=k) rfl ?_)
  refine bm_if_false (by simp [Builtin.Bytes.fitsIndex];lia) ?_
  refine wpAny_pure ?_
  dsimp only
  refine wpAny_bind ?_
  unfold Builtin.Bytes.byteValue
  refine wpAny_bind (wpAny_of_eq (a:=x) rfl ?_)
  refine bm_if_false (by simp;lia) ?_
  refine wpAny_pure ?_
  refine wpAny_bind (pay_ba ho ?_)
  have hj:seqIndex? k b.size=some k.toNat:=by
    unfold seqIndex?
    simp only [if_neg (show ¬ k < 0 by lia)]
    rw [if_pos (by simp;lia)]
  rw [hj]
  dsimp only
  refine wpAny_bind (write_ba ho (by simp;lia) fun h' hs' hp=>?_)
  exact wpAny_pure ⟨_,rfl,wpAny_pure (hQ h' hs' hp)⟩
theorem bytes_ba {a : Addr} {b : Array UInt8} {n : Nat} {Q : Value → Shared → Prop} (ho : s.heap.get? a = some { cls := .type "bytearray", data := .bytearray b n }) (hz : b.size ≤ sizeLine)
    (hQ:Q (.bytes b s.toks) { s with toks:=s.toks+1 }):wpAny (model prog w) A (call (.type "bytes") [.ref a]) Q E s:=by
  have hT:s.TypeIs (.ref a) "bytearray":=⟨_,ho,rfl⟩
  refine callType_codes (Q₁:=fun obj s₁=>s₁.TypeIs obj "bytes"∧Q obj s₁) F.bm_called (F.bm_typeCall _) F.entry_object_init ?_ fun obj s₁ h₁=>?_
  · refine codeAny_of_tree ?_
    show wpAny _ A.in1.in1 (do checkBuiltinCall "bytes.__new__" ⟨[.type "bytes",.ref a],[]⟩;again (.builtin "bytes.__new__" ⟨[.type "bytes",.ref a],[]⟩)) _ _ s
    refine wpAny_bind (wpAny_of_eq (F.bm_newCall _) (wpAny_pure ⟨plainId_quiet F.bm_plain _,codeAny_builtin F.bm_entry ?_⟩))
    rw [Around.under_plainId F.bm_plain _]
    unfold Builtin.«bytes.__new__»
    refine wpAny_bind (wpAny_of_eq (a:=true) rfl ?_)
    refine bm_if_false rfl ?_
    refine wpAny_bind (wpAny_of_eq F.bm_sub ?_)
    refine bm_if_false rfl ?_
    refine wpAny_bind (wpAny_of_eq (F.bm_bind _) ?_)
    refine wpAny_bind (wpAny_of_eq (a:=()) rfl ?_)
    refine wpAny_bind (wpAny_of_eq (a:=()) rfl ?_)
    refine bm_if_false rfl ?_
    refine wpAny_bind (wpAny_specialOf hT BA.no_bytes ?_)
    refine wpAny_bind (wpAny_bind ?_)
    show wpAny _ _ (load a >>= _) _ _ _
    refine wpAny_bind (wpAny_load ho ?_)
    refine wpAny_pure (wpAny_pure ?_)
    refine bm_if_false rfl ?_
    refine wpAny_bind (wpAny_specialOf hT BA.noIndex ?_)
    refine bm_if_true rfl ?_
    first
      | show wpAny _ _ (Builtin.Bytes.buffer? "bytes.__new__" (.ref a) true >>= _) _ _ _
      | (refine wpAny_bind ?_;show wpAny _ _ (Builtin.Bytes.buffer? "bytes.__new__" (.ref a) true >>= _) _ _ _)
    refine wpAny_bind ?_
    unfold Builtin.Bytes.buffer?
    refine wpAny_bind (wpAny_specialOf hT BA.buf ?_)
    dsimp only
    refine wpAny_bind ?_
    · unfold Builtin.Bytes.slotIsOwn
      refine wpAny_bind (wpAny_specialOf hT BA.buf ?_)
      dsimp only
      rw [show (!("bytearray.__buffer__".endsWith ("."++"__buffer__")))=false from by decide +kernel]
      refine bm_if_false rfl ?_
      rw [show "bytearray.__buffer__".dropRight ("__buffer__".length+1)="bytearray" from by decide +kernel]
      refine wpAny_isInstance hT BA.sub ?_
      refine bm_if_false rfl ?_
      refine wpAny_bind (wpAny_specialOf hT BA.buf ?_)
      refine wpAny_bind (release_ba ho rfl ?_)
      refine bm_if_false rfl ?_
      refine wpAny_bind (pay_ba ho (wpAny_pure ?_))
      refine wpAny_bind (wpAny_rule ?_)
      refine wpAny_bind (wpAny_mkBytes ?_ hz)
      show wpAny _ _ (if (Value.type "bytes" == Value.type "bytes")=true then _ else _) _ _ _
      refine bm_if_true (by decide) ?_
      first
        | exact wpAny_pure ⟨PySem.W.typeIs_bytes _ _ _,hQ⟩
        | exact wpAny_bind (wpAny_pure (wpAny_pure ⟨PySem.W.typeIs_bytes _ _ _,hQ⟩))
  · exact ⟨h₁.1,F.args_object_init_2 obj _,object_init_meets F.bm_called.init.lookup F.bm_called.made (by decide) prog w A.in1 _ s₁ ⟨h₁.1,rfl,h₁.2⟩⟩
end
end Mine
end
section
open PySem PySem.Calls PySem.W PyProof.Rows
open Sem (wp)
namespace Mine
noncomputable def theTabs:List Addr:=[113,120]
theorem ends_low {prog : Program} {w : World} {t : Sem Fin} {s : Shared} {R : Result → Shared → Prop} (hreg : s.asleep)
    (h:wpS (model prog w) callerA t (fun fin s'=>∃ f,fin=.done f∧(R (.ok f) s'∧leftWithCleanup s'.gens=false)) (fun e s'=>R (.error e) s'∧leftWithCleanup s'.gens=false) s) :
    ∃ n r s' s'',runN (denote table) prog w n s ⟨t,.builtin "claim.caller" {},default,[]⟩=.halted (outcomeOf r) s' ∧
      schedN (denote table) prog w n (.single s ⟨t,.builtin "claim.caller" {},default,[]⟩)=.halted (outcomeOf r) s'∧s'.forget=s''.forget∧R r s'':=by
  have hw : wp (model prog w) ⟨.builtin "claim.caller" {}, none, none, [], none⟩ t (Sem.finPost (model prog w) ⟨.builtin "claim.caller" {}, none, none, [], none⟩ (fun r s' => R r s' ∧ leftWithCleanup s'.gens = false))
      (fun e _ s'=>R (.error e) s'∧leftWithCleanup s'.gens=false) default s:=by
    refine Sem.wp_mono _ _ t (fun fin p' s' h'=>?_) (fun _ _ _ h'=>h') default s (h _ default caller_in (by decide +kernel) (fun x hx=>nomatch hx))
    obtain ⟨f,rfl,hf⟩:=h'
    exact hf
  obtain ⟨n,r,s₁,s₂,hs,hn,hfo,hR⟩:=wp_halts_full (M:=model prog w) (R:=R) hreg hw
  exact ⟨n,r,s₂,s₁,hn,hs,hfo,hR⟩
theorem callFrom_low {c : ClaimW} {tree : List Value → Sem Fin} {w : World} {s : Shared} {free : Addr → Prop} {gens : Prop} {kept : Heap → Prop} (hz : s.asleep) (hgens : s.gens = #[])
    (hspec : ∀ args, c.pre args = true → WData.layableAll args = true → ∀ ord : List DictEntry → List DictEntry, (∀ l, (ord l).Perm l) → ∃ vs s₁, layAllW c.records (classAt s.heap) w.params ord args s = some (vs, s₁) ∧
        wpS (model c.prog w) callerA (tree vs) (fun fin s'=>∃ f,fin=.done f∧(c.Ends s args vs s₁ (.ok f) s'∧s'.os=s.os∧AllBare s'.gens∧kept s'.heap))
          (fun e s'=>c.Ends s args vs s₁ (.error e) s'∧s'.os=s.os∧AllBare s'.gens∧kept s'.heap) s₁) :
    c.CallFrom (fun vs=>⟨tree vs,.builtin "claim.caller" {},default,[]⟩) w free gens kept s:=by
  intro args hpre hlay ord hord
  obtain ⟨vs,s₁,hlaid,hcode⟩:=hspec args hpre hlay ord hord
  have hal:=layAllW_rest _ _ _ hlaid
  have hrun : wpS (model c.prog w) callerA (tree vs) (fun fin s' => ∃ f, fin = .done f ∧ ((c.Ends s args vs s₁ (.ok f) s' ∧ s'.os = s.os ∧ kept s'.heap) ∧ leftWithCleanup s'.gens = false))
      (fun e s'=>(c.Ends s args vs s₁ (.error e) s'∧s'.os=s.os∧kept s'.heap)∧leftWithCleanup s'.gens=false) s₁ :=
    wpS_mono hcode (fun fin s' ⟨f,e,h1,h2,h3,h4⟩=>⟨f,e,⟨h1,h2,h4⟩,leftWithCleanup_false_of_bare h3⟩) fun e s' ⟨h1,h2,h3,h4⟩=>⟨⟨h1,h2,h4⟩,leftWithCleanup_false_of_bare h3⟩
  obtain ⟨k,r,s',s'',hr,hsched,hfo,hcase,hos,hkp⟩:=ends_low (R:=fun r s'=>c.Ends s args vs s₁ r s'∧s'.os=s.os∧kept s'.heap) (Shared.asleep_of_life hal.2.2.2 hz) hrun
  obtain ⟨eh,_,_,eo,_⟩:=Shared.forget_eq hfo
  have hcase:=hcase.congr eh
  have hkp:kept s'.heap:=by rw [eh];exact hkp
  have hlife:s'.heap.life=s.heap.life:=(runN_life _ _ _ hr).trans hal.2.2.2
  refine ⟨vs,s₁,hlaid,k,_,s',hsched,?_,(fun _ i x hx=>by rw [hgens] at hx;simp at hx),hkp,by rw [hlife],Shared.rest_eq (eo.trans hos)⟩
  rcases hcase with ⟨v,rfl,d1,d2,d3,d4,d5⟩ | ⟨e,ob,cls,rfl,d1,d2,d3,d4,d5⟩
  · exact .inl ⟨v,rfl,d1,d2,d3,fun b o y _=>d4 b o y,d5⟩
  · exact .inr ⟨e,ob,cls,rfl,d1,d2,d3,d4,fun b o y _=>d5 b o y⟩
noncomputable abbrev tabO0:Obj:={ cls:=.none,data:=.fields #[] }
noncomputable def noneV:Value→Bool
  | .none=>true
  | _=>false
noncomputable def noF:Data→Bool
  | .fields vs=>vs.isEmpty
  | _=>false
noncomputable def isTab0 (o:Option Obj):Bool:=o.elim false fun b=>noneV b.cls && b.dict.isNone && noF b.data && b.slots.isEmpty
theorem isTab0_eq {o:Option Obj} (h:isTab0 o=true):o=some tabO0:=by
  cases o with
  | none=>cases h
  | some b =>
    obtain ⟨c,d,t,l⟩:=b
    obtain ⟨h,h4⟩:=Bool.and_eq_true_iff.mp (show (noneV c && d.isNone && noF t && l.isEmpty)=true from h)
    obtain ⟨h,h3⟩:=Bool.and_eq_true_iff.mp h
    obtain ⟨h1,h2⟩:=Bool.and_eq_true_iff.mp h
    obtain rfl:=Option.isNone_iff_eq_none.mp h2
    obtain rfl:=Array.isEmpty_iff.mp h4
    have e1:c=.none:=by unfold noneV at h1;split at h1;rfl;cases h1
    have e3:t=.fields #[]:=by
      unfold noF at h3;split at h3
      · rw [Array.isEmpty_iff.mp h3]
      · cases h3
    rw [e1,e3]
noncomputable def tabs0 (ts:List Addr) (s:Shared):Bool:=ts.all fun P=>isTab0 (s.heap.get? P)
theorem tabs0_at {ts:List Addr} {s:Shared} (h:tabs0 ts s=true):∀ P∈ts,s.heap.get? P=some tabO0:=fun P hP=>isTab0_eq (List.all_eq_true.mp h P hP)
noncomputable abbrev Walk (q:Program) (loose:List Str) (XP:(Str→Option Value)→Heap→Prop) (YP:World→Heap→Prop) (r:RowW) (d:DefRec) (kwd:List (Str × Expr)):Prop :=
  ∀ (w:World) (s₀ s₁:Shared) (mg mb:Str→Option Value),Ground q loose r.records XP w s₀ mg mb s₁.heap→YP w s₁.heap→∀ (a:Addr) (o:Obj) (pm cd doc dV kV:Value),s₁.heap.get? a=some o →
    o.data=.func { docDef d.name d.params d.body d.scope pm cd doc with defaults:=dV,kwdefaults:=kV }→s₁.heap.CodeRec cd d.name→Dflts mg s₁.heap d.params kwd dV kV→mg d.name=some (.ref a)→s₁.gens=#[] →
    ∀ (args:List WData) (vals:List Value) (as:List Addr),r.claim.pre args=true→WData.layableAll args=true→ReadsAllW r.records (classAt s₀.heap) s₁.heap vals args as→WellAll w.params s₁.heap vals args→(∀ a∈as,(a == sysModules)=false)→(∀ P∈theTabs,s₁.heap.get? P=some tabO0) →
      wpS (model r.prog w) callerA (PySem.call (.ref a) vals) (fun v s'=>GoodWG r.claim (classAt s₀.heap) (ExcName.means s₀.heap) args s₁ (.ok (.ret v)) s')
        (fun e s'=>GoodWG r.claim (classAt s₀.heap) (ExcName.means s₀.heap) args s₁ (.error e) s') s₁
theorem PySem.W.holds_open {r : OpenRow} {q : Program} {loose : List Str} {Xt : Shared → Bool} {XP : (Str → Option Value) → Heap → Prop} {α : Type} {Yf : Shared → α} {Ya : World → α} {YP : World → Heap → Prop} {d : DefRec} {kwd : List (Str × Expr)} {N : Nat}
    (whole:∀ w,(openEnds treeTable r.prog w N).map (fun s=>(tabs0 theTabs s,openSeen q loose (importedModules r.prog.main.body) Xt true s,Yf s))=some (true,openGood q loose,Ya w)) (hY:∀ w s,Yf s=Ya w→YP w s.heap) (hYk:∀ w h h',YP w h→(∀ b o,h.get? b=some o→h'.get? b=some o)→YP w h')
    (hX:∀ s,Xt s=true→XP (s.heap.nsMap mainGlobals) s.heap) (hXk:∀ mg h h',XP mg h→(∀ b o,h.get? b=some o→h'.get? b=some o)→XP mg h')
    (hdef:defOf q r.name=some (d,kwd)) (hp:r.prog.theDef r.name=some (d.params,d.body,d.scope)) (hk:kwWritten? d.params.kwonlyargs d.params.kw_defaults=some kwd) (hRf:∀ s,Xt s=true→RecFacts r.records s.heap) (hwr:(!r.writes || r.records.isEmpty)=true)
    (k1:r.wellSaid=true) (ok:(chainsOk q && opensWell r.prog && (frees r.toRowW && r.within.isEmpty))=true) (hb:r.prog.bare) (hw:r.toRowW.promised)
    (call:Walk q loose XP YP r.toRowW d kwd):r.Holds:=by
  have left:LeftO r.prog q loose (fun s=>Xt s && tabs0 theTabs s) Yf Ya N:=fun w=>by
    obtain ⟨s,h1,h2⟩:=Option.map_eq_some_iff.mp (whole w)
    obtain ⟨h3,h4⟩:=Prod.mk.inj h2
    obtain ⟨h5,h6⟩:=Prod.mk.inj h4
    refine Option.map_eq_some_iff.mpr ⟨s,h1,?_⟩
    rw [← h5,← h6]
    unfold openSeen
    dsimp only
    rw [h3,Bool.and_true]
  obtain ⟨ok,k5⟩:=Bool.and_eq_true_iff.mp ok
  obtain ⟨hch,o1⟩:=Bool.and_eq_true_iff.mp ok
  obtain ⟨k5,k6⟩:=Bool.and_eq_true_iff.mp k5
  obtain ⟨hsame,hu,ha,hap,hm⟩:=frees_parts k5
  have hXX:∀ s,(Xt s && tabs0 theTabs s)=true→XP (s.heap.nsMap mainGlobals) s.heap∧RecFacts r.records s.heap∧∀ P∈theTabs,s.heap.get? P=some tabO0:=fun s hs=>by
    obtain ⟨h1,h2⟩:=Bool.and_eq_true_iff.mp hs
    exact ⟨hX s h1,hRf s h1,tabs0_at h2⟩
  refine ⟨k1,hw,⟨hb,o1,by show r.toRowW.makers.map _=[];rw [hm];rfl⟩,hw.witness,fun w=>⟨(left.behind (XP:=fun mg h=>XP mg h∧RecFacts r.records h∧∀ P∈theTabs,h.get? P=some tabO0) hXX hch w).1,fun s' hs'=>?_⟩⟩
  obtain ⟨s₀,hf,hg0,s,hT,hz,hgens,hg,G00,y⟩:=(left.behind (XP:=fun mg h=>XP mg h∧RecFacts r.records h∧∀ P∈theTabs,h.get? P=some tabO0) hXX hch w).2 s' hs'
  have G0:Ground q loose [] XP w s (s.heap.nsMap mainGlobals) (s.heap.nsMap builtinsNs) s.heap:=⟨G00.T,G00.B,G00.D,G00.TE,G00.TD,G00.W,G00.X.1,G00.cls,G00.has,G00.apart,G00.once,G00.K⟩
  have RF:=G00.X.2.1
  have TT:=G00.X.2.2
  refine ⟨s₀,hf,hg0,s,hT,fun n hn=>?pin,RF.1,RF.2.1,?_⟩
  case pin =>
    obtain rfl:n=r.name:=by split at hn <;> simp_all
    exact pinned_of_view hg G0 hdef hp hk
  have hgens:s.gens=#[]:=Array.eq_empty_of_size_eq_zero (beq_iff_eq.mp hgens)
  have G:Ground q loose r.records XP w s _ _ s.heap:=RF.ground G0
  refine callFrom_low (c := r.toRowW.claim) (tree := fun vs => do match ← nsGet mainNs r.name with
      | some f=>do ret (← PySem.call f vs)
      | none=>unsupported "claim.caller:no-such-global") hz hgens fun args hpre hlay ord hord=>?_
  obtain ⟨⟨vs,s₁⟩,hlaid⟩:=Option.isSome_iff_exists.mp (layAllW_isSome (P:=w.params) (ord:=ord) G.has args r.args s (pre_splitW hpre).1)
  have keeps:=layAllW_keeps _ _ _ hlaid
  have hal:=layAllW_rest _ _ _ hlaid
  obtain ⟨as,hrd,hin,hold⟩:=reads_layAllW hord _ _ _ hlaid hlay s₁.heap (fun _ _ e=>e)
  have L:Laid r.records w s s₁ args vs as:=⟨⟨ord,hord,hlaid⟩,hrd,hin,hold,keeps,hal.1.trans hgens,hal.2.2.1⟩
  have G₁:=G.keeps hXk keeps
  have Y₁:=hYk _ _ _ (hY w s y) keeps
  obtain ⟨a,o,pm,cd,doc,dV,kV,h1,h2,h3,h4,h5⟩:=G₁.fn hdef
  have run:=call w s s₁ _ _ G₁ Y₁ a o pm cd doc dV kV h2 h3 h4 h5 (defOf_name hdef ▸ h1) L.gens args vs as hpre hlay L.reads L.well (L.low G.low) (fun P hP=>keeps _ _ (TT P hP))
  have hi:=ident_freeW hu ha hap
  have hwi:r.toRowW.claim.within=[]:=List.isEmpty_iff.mp k6
  refine ⟨vs,s₁,hlaid,wpS_bindA (wpAny_nsGet G₁.T.g ?_)⟩
  rw [h1]
  exact wpS_bind (wpS_mono run (fun v s' g=>wpS_pure ⟨_,rfl,have z:=g.laid (c:=r.toRowW.claim) hsame hwi hi L;⟨z.1,z.2.1,z.2.2,fun q=>⟨namesKept_of hT hg _ keeps g.2.1.old,noTable hwr q⟩⟩⟩)
    fun e s' g=>have z:=g.laid (c:=r.toRowW.claim) hsame hwi hi L;⟨z.1,z.2.1,z.2.2,fun q=>⟨namesKept_of hT hg _ keeps g.2.1.old,noTable hwr q⟩⟩)
end Mine
end
section
open PySem PySem.Calls PySem.W PyProof.Rows PySem.SeqAt PySem.Builtin.Str
namespace Mine
theorem doms_app (a b:List (Addr × Mut)):doms (a++b)=doms a++doms b:=by simp [doms]
section
variable {g:G} {ρ:List (Option D)} {μ μ' a b μ₀ μ₁:List (Addr × Mut)} {S:List Addr} {s s':Shared} {Φ:Flow→Shared→Prop} {rest:List Stmt}
theorem St.called (y:St g ρ (a++(μ₀++b)) s) (e:Ext g.C (doms μ₀) s s') (hd:doms μ₁=doms μ₀) (hm:∀ p∈μ₁,MutOk g.X s'.heap p.1 p.2):St g ρ (a++(μ₁++b)) s':=by
  have hD:doms (a++(μ₁++b))=doms (a++(μ₀++b)):=by simp only [doms_app,hd]
  have inD:∀ c∈doms μ₀,c∈doms (a++(μ₀++b)):=fun c hc=>by simp only [doms_app];exact List.mem_append_right _ (List.mem_append_left _ hc)
  have hL:g.env.locals∉doms μ₀:=fun q=>(y.mX _ (inD _ q)).2.2.1 rfl
  have hC:∀ x c,g.env.cells.lookup x=some c→c∉doms μ₀:=fun x c h q=>(y.mX _ (inD _ q)).2.2.2 x c h rfl
  have hX:∀ c∈doms μ₀,c∈g.X:=fun c hc=>(y.mX _ (inD c hc)).1
  have hP:∀ c∈doms μ₀,c∉g.C.P:=fun c hc=>(y.mX _ (inD c hc)).2.1
  have up:∀ c o,c∉g.X→s.heap.get? c=some o→s'.heap.get? c=some o:=fun c o hc q=>e.keep c o (fun z=>hc (hX c z)) (fun z=>hc (y.inv.pin c z)) q
  refine ⟨y.inv.ext e fun c hc=>y.inv.new c (hX c hc) (hP c hc),y.envOk.ext e hL hC,fun i x d h1 h2=>?_,fun p hp=>?_,by rw [hD];exact y.mX,by rw [hD];exact y.apart,y.nd⟩
  · obtain ⟨v,bd,r⟩:=y.vars i x d h1 h2
    exact ⟨v,bd.ext e y.envOk hL hC,r.mono fun c o hc q=>⟨hc,up c o hc q⟩⟩
  · have old:∀ p∈a++(μ₀++b),(∀ c∈p.1::p.2.more,c∉doms μ₀)→MutOk g.X s'.heap p.1 p.2:=fun p hp hn =>
      (y.muts p hp).mono (fun o q=>e.keep _ o (hn _ (.head _)) (y.mX _ (mem_doms hp)).2.1 q) (fun c hc o q=>e.keep _ o (hn _ (.tail _ hc)) (y.mX _ (more_doms hp hc)).2.1 q) up
    have nd:=y.apart
    simp only [doms_app,List.nodup_append] at nd
    rcases List.mem_append.mp hp with q | q
    · refine old p (List.mem_append_left _ q) fun c hc z=>?_
      exact nd.2.2 c (List.mem_flatMap.mpr ⟨p,q,hc⟩) c (List.mem_append_left _ z) rfl
    · rcases List.mem_append.mp q with q | q
      · exact hm p q
      · refine old p (List.mem_append_right _ (List.mem_append_right _ q)) fun c hc z=>?_
        exact nd.2.1.2.2 c z c (List.mem_flatMap.mpr ⟨p,q,hc⟩) rfl
theorem Ext.wideD (e:Ext g.C (doms μ₀) s s'):Ext g.C (doms (a++(μ₀++b))) s s':=e.wider fun c hc=>.inl (by simp only [doms_app];exact List.mem_append_right _ (List.mem_append_left _ hc))
noncomputable def EvM (g:G) (ρ:List (Option D)) (μ:List (Addr × Mut)) (e:Expr) (d:D) (μ':List (Addr × Mut)):Prop:=doms μ'=doms μ∧∀ s,St g ρ μ s→Dn g.C g.A (doms μ) s (eval e g.env) fun v s'=>St g ρ μ' s'∧Rep g.X s'.heap v d
theorem Ev.M {e:Expr} {d:D} (h:Ev g ρ μ e d):EvM g ρ μ e d μ:=⟨rfl,fun s y=>(h s y).use fun v s' ex r=>⟨ex.wider (fun _ h=>nomatch h),y.ext ex,r⟩⟩
noncomputable def EvTM (g:G) (ρ:List (Option D)) (μ:List (Addr × Mut)) (e:Expr) (b:Bool) (μ':List (Addr × Mut)):Prop:=doms μ'=doms μ∧∀ s,St g ρ μ s→Dn g.C g.A (doms μ) s (isTrue e g.env (eval e g.env)) fun v s'=>St g ρ μ' s'∧v=b
theorem EvT.M {e:Expr} {b:Bool} (h:EvT g ρ μ e b):EvTM g ρ μ e b μ:=⟨rfl,fun s y=>(h s y).use fun v s' ex r=>⟨ex.wider (fun _ h=>nomatch h),y.ext ex,r⟩⟩
theorem EvM.wp {e:Expr} {d:D} (h:EvM g ρ μ e d μ') (y:St g ρ μ s) {Q:Value→Shared→Prop} {E:Value→Shared→Prop} (k:∀ v s',St g ρ μ' s'→Rep g.X s'.heap v d→Ext g.C (doms μ) s s'→Q v s'):wpAny g.C.M g.A (eval e g.env) Q E s :=
  (h.2 s y).use fun v s' ex q=>k v s' q.1 q.2 ex
theorem EvTM.wp {e:Expr} {b:Bool} (h:EvTM g ρ μ e b μ') (y:St g ρ μ s) {Q:Bool→Shared→Prop} {E:Value→Shared→Prop} (k:∀ s',St g ρ μ' s'→Ext g.C (doms μ) s s'→Q b s'):wpAny g.C.M g.A (isTrue e g.env (eval e g.env)) Q E s :=
  (h.2 s y).use fun v s' ex q=>by obtain ⟨q,rfl⟩:=q;exact k s' q ex
theorem Ext.eqD {C:Cx} {S S':List Addr} (e:Ext C S s s') (h:S=S'):Ext C S' s s':=h ▸ e
theorem Ext.up0 {C:Cx} (e:Ext C [] s s'):Ext C S s s':=e.wider fun _ h=>nomatch h
theorem EvM.call {func e : Expr} {es : List Expr} {pos : Pos} {k : Nat} {f : Value} {ds : List D} {d : D} (a b : List (Addr × Mut)) (R : Room g.A k) (hf : Ev g ρ (a ++ (μ₀ ++ b)) func (.val f)) (hkeep : keepIn g.C.K f = true) (ha : EvL g ρ (a ++ (μ₀ ++ b)) pos (e :: es) ds) (hc : FnM g.C k f ds μ₀ d μ₁) (hd : doms μ₁ = doms μ₀)
    (he:starEach (e::es) g.env=(false,eval e g.env)::starEach es g.env:=by rfl) (hplain:(backTo pos (starEach es g.env)).any (·.1)=false:=by rfl)
    (hq:eval (.Call func (e::es) [] pos) g.env=(eval func g.env >>= fun v=>callWith pos v [] (backTo pos (starEach (e::es) g.env)) []):=by rfl):EvM g ρ (a++(μ₀++b)) (.Call func (e::es) [] pos) d (a++(μ₁++b)):=by
  refine ⟨by simp only [doms_app,hd],fun s x=>?_⟩
  show wpAny _ _ _ _ _ _
  rw [hq]
  refine wpAny_bind (hf.wp x fun v s₁ x₁ r₁ e₁=>?_)
  (first | obtain rfl:=r₁.vI | obtain ⟨_,rfl⟩:=r₁.iI | obtain ⟨_,rfl⟩:=r₁.sI | obtain ⟨_,rfl⟩:=r₁.bI | obtain rfl:=r₁.nI | cases r₁)
  refine callWith_K (h₀:=s₁.heap) x₁.inv.K hkeep ((ha s₁ x₁).use fun vs s₂ e₂ r₂=>⟨(x₁.ext e₂).inv.K,?_⟩) he hplain
  have x₂:=x₁.ext e₂
  refine wpAny_call (codeAny_mono (hc _ _ _ _ R x₂.inv r₂ (fun p hp=>x₂.muts p (List.mem_append_right _ (List.mem_append_left _ hp))) (fun c hc=>?_) ?_) fun r s₃ q=>?_)
  · have:=x₂.mX c (by simp only [doms_app];exact List.mem_append_right _ (List.mem_append_left _ hc))
    exact ⟨this.1,this.2.1⟩
  · have nd:=x₂.apart
    simp only [doms_app,List.nodup_append] at nd
    exact nd.2.1.1
  · obtain ⟨v,rfl,e₃,r₃,m₃⟩:=q
    exact ⟨((e₁.trans e₂).up0).trans e₃.wideD,x₂.called e₃ hd m₃,r₃⟩
theorem EvM.cmp {l r:Expr} {op:CmpOp} {pos:Pos} {x y d:D} (R:Room g.A 0) (hl:EvM g ρ μ l x μ') (hr:Ev g ρ μ' r y) (o:Cmp op x y d) (hm:behindInMarks op r=false:=by with_unfolding_all rfl):EvM g ρ μ (.Compare l [op] [r] pos) d μ':=⟨hl.1,fun s z =>
  wpAny_Compare1 (hl.wp z fun va s₁ x₁ r₁ e₁=>hr.wp x₁ fun vb s₂ x₂ r₂ e₂=>(o _ _ _ _ _ _ x₂.inv R (r₁.ext e₂ (fun _ h=>nomatch h) x₁.inv.pin) r₂).use fun v s₃ e₃ r₃=>⟨e₁.trans (e₂.trans e₃).up0,x₂.ext e₃,r₃⟩) hm⟩
theorem EvTM.cmp {l r : Expr} {op : CmpOp} {pos : Pos} {x y : D} {c : Bool} (R : Room g.A 0) (hl : EvM g ρ μ l x μ') (hr : Ev g ρ μ' r y) (o : Cmp op x y (D.bool c)) (hm : behindInMarks op r = false := by with_unfolding_all rfl) :
    EvTM g ρ μ (.Compare l [op] [r] pos) c μ':=⟨hl.1,fun s z =>
  wpAny_isTrue_Compare1 (hl.wp z fun va s₁ x₁ r₁ e₁=>hr.wp x₁ fun vb s₂ x₂ r₂ e₂=>(o _ _ _ _ _ _ x₂.inv R (r₁.ext e₂ (fun _ h=>nomatch h) x₁.inv.pin) r₂).use fun v s₃ e₃ r₃=>by
    (first | obtain rfl:=r₃.vI | obtain ⟨_,rfl⟩:=r₃.iI | obtain ⟨_,rfl⟩:=r₃.sI | obtain ⟨_,rfl⟩:=r₃.bI | obtain rfl:=r₃.nI | cases r₃);exact wpAny_truthy_bool ⟨e₁.trans (e₂.trans e₃).up0,x₂.ext e₃,rfl⟩) hm⟩
noncomputable def EvAndM (g:G) (ρ:List (Option D)) (μ:List (Addr × Mut)) (pos:Pos) (es:List Expr) (d:D) (μ':List (Addr × Mut)):Prop:=doms μ'=doms μ∧∀ s,St g ρ μ s→Dn g.C g.A (doms μ) s (boolOp pos .And (evalEach es g.env)) fun v s'=>St g ρ μ' s'∧Rep g.X s'.heap v d
theorem EvAndM.one {pos:Pos} {e:Expr} {d:D} (h:EvM g ρ μ e d μ'):EvAndM g ρ μ pos [e] d μ':=⟨h.1,fun s x=>h.2 s x⟩
theorem EvAndM.cons {pos:Pos} {e e':Expr} {es:List Expr} {p q:Bool} {μ₂:List (Addr × Mut)} (h:EvM g ρ μ e (D.bool p) μ') (k:p=true→EvAndM g ρ μ' pos (e'::es) (D.bool q) μ₂) (hd:doms μ₂=doms μ):EvAndM g ρ μ pos (e::e'::es) (D.bool (p && q)) (if p then μ₂ else μ'):=by
  refine ⟨by cases p with | true=>exact hd | false=>exact h.1,fun s x=>?_⟩
  show Dn g.C g.A _ s (boolOp pos .And (eval e g.env::eval e' g.env::evalEach es g.env)) _
  rw [boolOp_cons2]
  refine wpAny_bind (h.wp x fun v s₁ x₁ r e₁=>wpAny_bind (wpAny_standAt (wpAny_bind (wpAny_holding ?_))))
  (first | obtain rfl:=r.vI | obtain ⟨_,rfl⟩:=r.iI | obtain ⟨_,rfl⟩:=r.sI | obtain ⟨_,rfl⟩:=r.bI | obtain rfl:=r.nI | cases r)
  refine wpAny_truthy_bool ?_
  cases p with
  | true=>exact ((k rfl).2 s₁ x₁).use fun v s₂ e₂ r=>⟨e₁.trans (e₂.eqD h.1),by simpa using r⟩
  | false=>exact wpAny_pure ⟨e₁,by simpa using x₁,.val _⟩
theorem EvM.and {es:List Expr} {pos:Pos} {d:D} (h:EvAndM g ρ μ pos es d μ'):EvM g ρ μ (.BoolOp .And es pos) d μ':=⟨h.1,fun s x=>h.2 s x⟩
noncomputable def EvOrM (g:G) (ρ:List (Option D)) (μ:List (Addr × Mut)) (es:List Expr) (b:Bool) (μ':List (Addr × Mut)):Prop:=doms μ'=doms μ∧∀ s,St g ρ μ s→Dn g.C g.A (doms μ) s (allTrue .Or es g.env) fun v s'=>St g ρ μ' s'∧v=b
theorem EvOrM.nil:EvOrM g ρ μ [] false μ:=⟨rfl,fun s y=>wpAny_allTrue_Or_nil ⟨.refl ..,y,rfl⟩⟩
theorem EvOrM.cons {e:Expr} {es:List Expr} {p q:Bool} {μ₂:List (Addr × Mut)} (h:EvTM g ρ μ e p μ') (k:p=false→EvOrM g ρ μ' es q μ₂) (hd:doms μ₂=doms μ):EvOrM g ρ μ (e::es) (p || q) (if p then μ' else μ₂):=⟨by cases p with | true=>exact h.1 | false=>exact hd,fun s x=>wpAny_allTrue_Or_cons (h.wp x fun s₁ x₁ e₁=>by
  cases p with
  | true=>exact ⟨e₁,by simpa using x₁,rfl⟩
  | false=>exact ((k rfl).2 s₁ x₁).use fun v s₂ e₂ r=>⟨e₁.trans (e₂.eqD h.1),by simpa using r⟩)⟩
theorem EvTM.or {es:List Expr} {pos:Pos} {b:Bool} (h:EvOrM g ρ μ es b μ'):EvTM g ρ μ (.BoolOp .Or es pos) b μ':=⟨h.1,fun s x=>wpAny_isTrue_BoolOp (h.2 s x)⟩
noncomputable def EvLM (g:G) (ρ:List (Option D)) (μ:List (Addr × Mut)) (pos:Pos) (es:List Expr) (ds:List D) (μ':List (Addr × Mut)):Prop:=doms μ'=doms μ∧∀ s,St g ρ μ s→Dn g.C g.A (doms μ) s (spliced (backTo pos (starEach es g.env))) fun vs s'=>St g ρ μ' s'∧RepL g.X s'.heap vs ds
theorem EvL.M {pos:Pos} {es:List Expr} {ds:List D} (h:EvL g ρ μ pos es ds):EvLM g ρ μ pos es ds μ:=⟨rfl,fun s y=>(h s y).use fun v s' ex r=>⟨ex.up0,y.ext ex,r⟩⟩
theorem EvLM.nil {pos:Pos}:EvLM g ρ μ pos [] [] μ:=EvL.nil.M
theorem EvLM.cons {pos : Pos} {e : Expr} {es : List Expr} {d : D} {ds : List D} {μ₂ : List (Addr × Mut)} (h : EvM g ρ μ e d μ') (k : EvLM g ρ μ' pos es ds μ₂) (he : starEach (e :: es) g.env = (false, eval e g.env) :: starEach es g.env := by rfl) :
    EvLM g ρ μ pos (e::es) (d::ds) μ₂:=⟨k.1.trans h.1,fun s x=>by
  show wpAny _ _ (spliced (backTo pos (starEach (e::es) g.env))) _ _ _
  rw [he]
  refine spliced_cons (h.wp x fun v s₁ x₁ r e₁=>(k.2 s₁ x₁).use fun vs s₂ e₂ q=>⟨e₁.trans (e₂.eqD h.1),q.1,.cons (r.ext e₂ (fun c hc=>?_) x₁.inv.pin) q.2⟩)
  exact (x₁.mX c hc).1⟩
noncomputable def EvNM (g:G) (ρ:List (Option D)) (μ:List (Addr × Mut)) (e:Expr) (ds:List D) (μ':List (Addr × Mut)):Prop:=doms μ'=doms μ∧∀ s,St g ρ μ s→Dn g.C g.A (doms μ) s (eval e g.env) fun v s'=>St g ρ μ' s'∧∃ a vs n,v=.ref a∧s.heap.get? a=none∧s'.heap.get? a=some (lstO vs n)∧a∉g.X∧RepL (a::g.X) s'.heap vs ds
theorem EvNM.lst {es:List Expr} {pos:Pos} {ds:List D} (h:EvLM g ρ μ pos es ds μ') (hsz:ds.length≤sizeLine:=by decide):EvNM g ρ μ (.List es pos) ds μ':=⟨h.1,fun s x =>
  List_ ((h.2 s x).use fun vs s₁ e₁ q=>wpAny_newObj_type ⟨e₁.trans .push',q.1.ext .push',_,vs,0,rfl,e₁.none_back (none_of_ge (Nat.le_refl _)),Heap.get?_push_size _ rfl,q.1.inv.fresh,q.2.mono fun b o hb z=>⟨fun w=>by
    rcases List.mem_cons.mp w with rfl | w
    · rw [none_of_ge (Nat.le_refl _)] at z;cases z
    · exact hb w,Heap.get?_push_of_some _ z⟩⟩ (by show vs.toArray.size≤sizeLine;rw [List.size_toArray,q.2.length];exact hsz))⟩
theorem EvNM.ev {e:Expr} {ds:List D} (h:EvNM g ρ μ e ds μ'):EvM g ρ μ e (.lst ds) μ':=⟨h.1,fun s y=>(h.2 s y).mono fun v s' ex ⟨y',a,vs,n,hv,hn,ho,hX,r⟩=>by
  subst hv
  exact ⟨y',.lst hX ho (r.sub fun _ h=>.tail _ h)⟩⟩
theorem EvM.tup {es:List Expr} {k:Nat} {pos:Pos} {ds:List D} (h:EvLM g ρ μ pos es ds μ') (hsz:ds.length≤sizeLine:=by decide):EvM g ρ μ (.Tuple es k pos) (.tup ds) μ':=⟨h.1,fun s x =>
  Tuple_ ((h.2 s x).use fun vs s₁ e₁ q=>(newTuple_rep q.1.inv q.2 hsz).use fun v s₂ e₂ z=>⟨e₁.trans e₂.up0,q.1.ext e₂,z⟩)⟩
theorem Ex.assignM (i : Nat) {x : Str} {p pos : Pos} {e : Expr} {d : D} (h1 : g.ns[i]? = some x) (hk : Stored g S x) (he : EvM g ρ μ e d μ') (hS : ∀ c ∈ doms μ, c ∈ S) (k : Ex g S (ρ.set i (some d)) μ' rest Φ)
    (hs:swapsWith e (some (.Name x p)) pos.line g.env=pure false:=by rfl):Ex g S ρ μ (.Assign [.Name x p] e pos::rest) Φ:=Ex.step fun s y =>
  wpAny_Assign_Name (he.wp y fun v s₁ y₁ r e₁=>(y₁.store h1 hk r).use fun _ s₂ e₂ y₂=>⟨(e₁.wider fun c hc=>.inl (hS c hc)).trans e₂,k s₂ y₂⟩) hs
theorem Ex.exprM {e:Expr} {pos:Pos} {d:D} (he:EvM g ρ μ e d μ') (hS:∀ c∈doms μ,c∈S) (k:Ex g S ρ μ' rest Φ) (hi:interactive g.env=false:=by rfl) (hs:swapsWith e none pos.line g.env=pure false:=by rfl):Ex g S ρ μ (.Expr e pos::rest) Φ:=Ex.step fun s y =>
  wpAny_Expr_any (he.wp y fun v s₁ y₁ r e₁=>⟨e₁.wider fun c hc=>.inl (hS c hc),k s₁ y₁⟩) hi hs
theorem Ex.retM {e:Expr} {pos:Pos} {d:D} (he:EvM g ρ μ e d μ') (hS:∀ c∈doms μ,c∈S) (k:∀ v s,St g ρ μ' s→Rep g.X s.heap v d→Φ (.ret v) s):Ex g S ρ μ (.Return (some e) pos::rest) Φ:=Ex.step fun s y =>
  wpAny_Return_some (he.wp y fun v s₁ y₁ r e₁=>⟨e₁.wider fun c hc=>.inl (hS c hc),k v s₁ y₁ r⟩)
theorem Ex.iteM {t:Expr} {bd o:List Stmt} {pos:Pos} {c:Bool} (ht:EvTM g ρ μ t c μ') (hS:∀ c∈doms μ,c∈S) (h1:c=true→Ex g S ρ μ' bd (Then g S rest Φ)) (h2:c=false→Ex g S ρ μ' o (Then g S rest Φ)):Ex g S ρ μ (.If t bd o pos::rest) Φ:=Ex.step fun s y =>
  wpAny_If (ht.wp y fun s₁ y₁ e₁=>by
    cases c with
    | true=>exact (h1 rfl s₁ y₁).use fun v s₂ e₂ r=>⟨(e₁.wider fun c hc=>.inl (hS c hc)).trans e₂,by cases v <;> exact r⟩
    | false=>exact (h2 rfl s₁ y₁).use fun v s₂ e₂ r=>⟨(e₁.wider fun c hc=>.inl (hS c hc)).trans e₂,by cases v <;> exact r⟩)
theorem St.frozen {p q : List (Addr × Mut)} {c : Addr} {ds : List D} {i : Nat} (y : St g ρ (p ++ ((c, .lst ds) :: q)) s) (h2 : ρ[i]? = some (some (.val (.ref c)))) :
    St { g with X:=g.X.filter fun a=>decide (a≠c) } (ρ.set i (some (.lst ds))) (p++q) s:=by
  have hcd:c∈doms (p++((c,.lst ds)::q)):=by simp [doms_app,doms]
  obtain ⟨hcX,hcP,hcL,hcC⟩:=y.mX c hcd
  have nd:(doms p++(c::doms q)).Nodup:=by
    have:=y.apart
    rw [doms_app] at this
    exact this
  obtain ⟨n1,n2,n3⟩:=List.nodup_append.mp nd
  obtain ⟨n4,n5⟩:=List.nodup_cons.mp n2
  have inX:∀ a∈g.X,a≠c→a∈g.X.filter fun a=>decide (a≠c):=fun a ha hne=>List.mem_filter.mpr ⟨ha,decide_eq_true hne⟩
  have sub:∀ a∈g.X.filter fun a=>decide (a≠c),a∈g.X:=fun a ha=>(List.mem_filter.mp ha).1
  have out:c∉g.X.filter fun a=>decide (a≠c):=fun h=>of_decide_eq_true (List.mem_filter.mp h).2 rfl
  have hdom:∀ a∈doms (p++q),a∈doms (p++((c,.lst ds)::q))∧a≠c:=fun a ha=>by
    rw [doms_app] at ha
    rcases List.mem_append.mp ha with z | z
    · exact ⟨by rw [doms_app];exact List.mem_append_left _ z,fun e=>n3 a z c (.head _) e⟩
    · exact ⟨by rw [doms_app];exact List.mem_append_right _ (List.mem_append_right _ z),fun e=>n4 (e ▸ z)⟩
  have y':St { g with X:=g.X.filter fun a=>decide (a≠c) } ρ (p++q) s :=
    ⟨⟨y.inv.base,y.inv.keep,y.inv.tab,y.inv.os,y.inv.gens,fun z hz=>inX z (y.inv.pin z hz) (fun e=>hcP (e ▸ hz)),fun a ha=>y.inv.new a (sub a ha),fun a ha=>y.inv.occ a (sub a ha)⟩,
     ⟨y.envOk.kind,y.envOk.glob,y.envOk.bi,y.envOk.ns,inX _ y.envOk.inX (fun e=>hcL e.symm),y.envOk.lP,y.envOk.cel,fun x z h1 h2=>inX z (y.envOk.own x z h1 h2) (fun e=>hcC x z h2 e.symm),y.envOk.inj⟩,
     fun j x d h1 h2=>let ⟨v,b,r⟩:=y.vars j x d h1 h2;⟨v,b,r.sub sub⟩,
     fun z hz=>(y.muts z (by rcases List.mem_append.mp hz with w | w;exact List.mem_append_left _ w;exact List.mem_append_right _ (.tail _ w))).sub sub,
     fun a ha=>⟨inX a (y.mX a (hdom a ha).1).1 (hdom a ha).2,(y.mX a (hdom a ha).1).2⟩,
     by
      rw [doms_app,List.nodup_append]
      exact ⟨n1,n5,fun a ha b hb=>n3 a ha b (.tail _ hb)⟩,y.nd⟩
  refine ⟨y'.inv,y'.envOk,fun j x d h1 hr=>?_,y'.muts,y'.mX,y'.apart,y'.nd⟩
  by_cases hij:j=i
  · subst hij
    have hlt:j < ρ.length:=(List.getElem?_eq_some_iff.mp h2).1
    rw [List.getElem?_set,if_pos rfl,if_pos hlt] at hr
    cases hr
    obtain ⟨v,b,r⟩:=y.vars j x _ h1 h2
    (first | obtain rfl:=r.vI | obtain ⟨_,rfl⟩:=r.iI | obtain ⟨_,rfl⟩:=r.sI | obtain ⟨_,rfl⟩:=r.bI | obtain rfl:=r.nI | cases r)
    obtain ⟨vs,n,ho,rl⟩:=y.muts (c,.lst ds) (List.mem_append_right _ (.head _))
    exact ⟨_,b,.lst out ho (rl.sub sub)⟩
  · rw [List.getElem?_set,if_neg (fun z=>hij z.symm)] at hr
    exact y'.vars j x d h1 hr
theorem Ex.freeze (i : Nat) {p q : List (Addr × Mut)} {c : Addr} {ds : List D} {ss : List Stmt} (h2 : ρ[i]? = some (some (.val (.ref c)))) (k : Ex { g with X := g.X.filter fun a => decide (a ≠ c) } S (ρ.set i (some (.lst ds))) (p ++ q) ss Φ) :
    Ex g S ρ (p++((c,.lst ds)::q)) ss Φ:=fun s y=>k s (y.frozen h2)
noncomputable def D.flat:D→Bool
  | .val (.ref _)=>false
  | .val _=>true
  | .int _ | .str _ | .bytes _=>true
  | _=>false
theorem Rep.anyX {X X':List Addr} {h:Heap} {v:Value} {d:D} (r:Rep X h v d) (hd:d.flat=true):Rep X' h v d:=by
  cases r with
  | val v=>exact .val v
  | int i t=>exact .int i t
  | str x t=>exact .str x t
  | bytes b t=>exact .bytes b t
  | tup=>cases hd
  | lst=>cases hd
  | rng=>cases hd
theorem Ev.look (i : Nat) {p q : List (Addr × Mut)} {c : Addr} {ds : List D} {e : Expr} {d : D} (h2 : ρ[i]? = some (some (.val (.ref c)))) (h : Ev { g with X := g.X.filter fun a => decide (a ≠ c) } (ρ.set i (some (.lst ds))) (p ++ q) e d) (hd : d.flat = true := by rfl) :
    Ev g ρ (p++((c,.lst ds)::q)) e d:=fun s y=>(h s (y.frozen h2)).mono fun v s' ex r=>r.anyX hd
theorem EvT.look (i : Nat) {p q : List (Addr × Mut)} {c : Addr} {ds : List D} {e : Expr} {b : Bool} (h2 : ρ[i]? = some (some (.val (.ref c)))) (h : EvT { g with X := g.X.filter fun a => decide (a ≠ c) } (ρ.set i (some (.lst ds))) (p ++ q) e b) :
    EvT g ρ (p++((c,.lst ds)::q)) e b:=fun s y=>(h s (y.frozen h2)).mono fun v s' ex r=>r
theorem Ev.itemMut {v i : Expr} {pos : Pos} {c : Addr} {ds : List D} {k : Int} {d : D} (R : Room g.A 0) (hv : Ev g ρ μ v (.val (.ref c))) (hm : (c, .lst ds) ∈ μ) (hi : Ev g ρ μ i (.int k)) (h0 : 0 ≤ k) (hd : ds[k.toNat]? = Option.some d) (hz : ds.length ≤ sizeLine)
    (hs:∀ a t,subscripted i false (.ref a) (.int k t)=operate [.ref a,.int k t] (getItem (.ref a) (.int k t)):=by intro _ _;rfl):Ev g ρ μ (.Subscript v i pos) d:=fun s y =>
  Subscript_ (hv.wp y fun va s₁ x₁ r₁ e₁=>hi.wp x₁ fun vb s₂ x₂ r₂ e₂=>by
    (first | obtain rfl:=r₁.vI | obtain ⟨_,rfl⟩:=r₁.iI | obtain ⟨_,rfl⟩:=r₁.sI | obtain ⟨_,rfl⟩:=r₁.bI | obtain rfl:=r₁.nI | cases r₁);(first | obtain rfl:=r₂.vI | obtain ⟨_,rfl⟩:=r₂.iI | obtain ⟨_,rfl⟩:=r₂.sI | obtain ⟨_,rfl⟩:=r₂.bI | obtain rfl:=r₂.nI | cases r₂)
    obtain ⟨vs,n,ho,r⟩:=x₂.muts _ hm
    have hL:s₂.heap.IsList c vs.toArray:=⟨_,ho,rfl,n,rfl⟩
    obtain ⟨w,hw,rw'⟩:=r.get hd
    have hlt:k.toNat < ds.length:=(List.getElem?_eq_some_iff.mp hd).1
    have:sizeLine=16777216:=rfl
    exact tail_any hL.typeIs slot_list_getitem.lookup (wpAny_getItem_list hL h0 (by lia) (by simpa using hw) ⟨e₁.trans e₂,rw'⟩) (hs _ _))
end
end Mine
end
section
open PySem PySem.Calls PySem.W PyProof.Rows PySem.SeqAt PySem.Builtin.Str
namespace Mine
theorem mapSeq_lst (f:Array Value→Array Value) (vs:List Value) (n:Nat) (ws:List Value) (h:f vs.toArray=ws.toArray):∃ n',Obj.mapSeq f (lstO vs n)=lstO ws n':=by
  unfold Obj.mapSeq
  simp only [h]
  exact ⟨_,rfl⟩
section
variable {prog:Program} {w:World} {A:Around} {E:Value→Shared→Prop} {s:Shared}
theorem setItem_lst {l : Addr} {vs : List Value} {n : Nat} {k : Int} {t : Tok} {v : Value} {Q : Unit → Shared → Prop} (ho : s.heap.get? l = some (lstO vs n)) (h0 : 0 ≤ k) (hfit : k < 2 ^ 63) (hn : k < vs.length)
    (hQ:∀ h',(∃ n',h'.get? l=some (lstO (vs.set k.toNat v) n'))→Heap.SameBut l s.heap h'→Q () { s with heap:=h' }):wpAny (model prog w) A (setItem (.ref l) (.int k t) v) Q E s:=by
  have hl:s.heap.IsList l vs.toArray:=⟨_,ho,rfl,n,rfl⟩
  unfold setItem
  try with_reducible refine wpAny_holding ?_
  first | refine wpAny_bind (wpAny_pure ?_) | skip
  refine wpAny_bind (wpAny_sequenceKey hl.typeIs (by decide) ?_)
  refine wpAny_bind (wpAny_callSpecial?_slot (name:=Str.ofString "__setitem__") hl.typeIs slot_list_setitem
    (wpAny_call_entry slot_list_setitem hl.typeIs entry_list_setitem ?_ (args_list_setitem _ _ _)))
  show wpAny _ _ (Builtin.List.listSubscript? (.int k t) >>= _) _ _ s
  refine wpAny_bind (wpAny_listSubscript_int (fitsIndex_of h0 hfit) ?_)
  clear hfit
  obtain ⟨j,rfl⟩:=Int.eq_ofNat_of_zero_le h0
  have hj:j < vs.toArray.size:=by simp;lia
  have hx':vs.toArray[j]?=some vs.toArray[j]:=Array.getElem?_eq_getElem hj
  show wpAny _ _ ((seqItemAt l j >>= fun r=>pure (r.map (j,·))) >>= _) _ _ s
  refine wpAny_bind (wpAny_bind (wpAny_seqItemAt ho rfl (wpAny_pure ?_)))
  rw [hx']
  show wpAny _ _ (setSeqItemAt l j v >>= _) _ _ s
  obtain ⟨n',hd'⟩:=mapSeq_lst (·.setIfInBounds j v) vs n (vs.set j v) (by simp)
  have hfin:(s.heap.update l (Obj.mapSeq (·.setIfInBounds j v))).get? l=some (lstO (vs.set j v) n'):=by
    rw [Heap.get?_update_self _ ho (by rw [hd'];rfl),hd']
  refine wpAny_bind (wpAny_setSeqItemAt ho rfl ?_)
  first
    | exact wpAny_bind (wpAny_pure (wpAny_pure ⟨.none,rfl,wpAny_pure (hQ _ ⟨n',hfin⟩ (Heap.SameBut.update ..))⟩))
    | exact wpAny_pure ⟨.none,rfl,wpAny_pure (hQ _ ⟨n',hfin⟩ (Heap.SameBut.update ..))⟩
end
section
variable {g:G} {ρ:List (Option D)} {μ μ' p q:List (Addr × Mut)} {S:List Addr} {s s':Shared} {Φ:Flow→Shared→Prop} {rest:List Stmt} {c:Addr} {ds:List D}
theorem mem_mid {m:Mut}:(p++((c,m)::q))[p.length]?=some (c,m):=by simp
theorem set_mid {m m':Mut}:(p++((c,m)::q)).set p.length (c,m')=p++((c,m')::q):=by simp
theorem dom_mid {m m':Mut} (h:m'.more=m.more):doms (p++((c,m')::q))=doms (p++((c,m)::q)):=by simp [doms_app,doms,h]
theorem St.relst {vs : List Value} {n : Nat} {es : List D} {h' : Heap} {tk : Nat} (y : St g ρ (p ++ ((c, .lst ds) :: q)) s) (hs : Heap.SameBut c s.heap h') (ho : h'.get? c = some (lstO vs n)) (r : RepL g.X s.heap vs es) :
    Ext g.C (doms (p++((c,.lst ds)::q))) s { s with heap:=h',toks:=tk }∧St g ρ (p++((c,.lst es)::q)) { s with heap:=h',toks:=tk }:=by
  have hcX:=(y.mX c (mem_doms (List.mem_of_getElem? mem_mid))).1
  have:=y.setmut (m':=.lst es) (tk:=tk) mem_mid (.head _) rfl hs ⟨vs,n,ho,r.mono fun b o hb z=>⟨hb,(hs.2 b (fun w=>hb (w ▸ hcX))).trans z⟩⟩ ⟨_,ho⟩
  rw [set_mid] at this
  exact this
theorem Ex.setItem {o i e : Expr} {tp pos : Pos} {k : Int} {d : D} (he : Ev g ρ (p ++ ((c, .lst ds) :: q)) e d) (ho : Ev g ρ (p ++ ((c, .lst ds) :: q)) o (.val (.ref c))) (hi : Ev g ρ (p ++ ((c, .lst ds) :: q)) i (.int k)) (h0 : 0 ≤ k) (hk : k < ds.length) (hz : ds.length ≤ sizeLine)
    (hS:∀ b∈doms (p++((c,.lst ds)::q)),b∈S) (kk:Ex g S ρ (p++((c,.lst (ds.set k.toNat d))::q)) rest Φ) (hs:swapsWith e (some (.Subscript o i tp)) pos.line g.env=pure false:=by rfl) :
    Ex g S ρ (p++((c,.lst ds)::q)) (.Assign [.Subscript o i tp] e pos::rest) Φ:=Ex.step fun s y =>
  wpAny_Assign_Subscript (he.wp y fun v s₁ y₁ r₁ e₁=>ho.wp y₁ fun ov s₂ y₂ r₂ e₂=>hi.wp y₂ fun iv s₃ y₃ r₃ e₃=>by
    (first | obtain rfl:=r₂.vI | obtain ⟨_,rfl⟩:=r₂.iI | obtain ⟨_,rfl⟩:=r₂.sI | obtain ⟨_,rfl⟩:=r₂.bI | obtain rfl:=r₂.nI | cases r₂);(first | obtain rfl:=r₃.vI | obtain ⟨_,rfl⟩:=r₃.iI | obtain ⟨_,rfl⟩:=r₃.sI | obtain ⟨_,rfl⟩:=r₃.bI | obtain rfl:=r₃.nI | cases r₃)
    have hsz:sizeLine=16777216:=rfl
    obtain ⟨vs,n,hg,r⟩:=y₃.muts (c,.lst ds) (List.mem_of_getElem? mem_mid)
    refine setItem_lst hg h0 (by lia) (by rw [r.length];exact hk) fun h' ⟨n',hp⟩ hs'=>?_
    have rd:=(r₁.ext e₂ (fun _ h=>nomatch h) y₁.inv.pin).ext e₃ (fun _ h=>nomatch h) y₂.inv.pin
    obtain ⟨e₄,y₄⟩:=y₃.relst (tk:=s₃.toks) hs' hp (r.set k.toNat rd)
    exact ⟨((e₁.trans e₂).trans e₃).up0.trans (e₄.wider fun b hb=>.inl (hS b hb)),kk _ y₄⟩) hs
theorem Ex.augItem {o i e : Expr} {tp pos : Pos} {op : Operator} {k : Int} {a b d : D} (R : Room g.A 0) (ho : Ev g ρ (p ++ ((c, .lst ds) :: q)) o (.val (.ref c))) (hi : Ev g ρ (p ++ ((c, .lst ds) :: q)) i (.int k)) (h0 : 0 ≤ k) (ha : ds[k.toNat]? = some a) (hz : ds.length ≤ sizeLine)
    (he:Ev g ρ (p++((c,.lst ds)::q)) e b) (oo:Inp op a b d) (hS:∀ b∈doms (p++((c,.lst ds)::q)),b∈S) (kk:Ex g S ρ (p++((c,.lst (ds.set k.toNat d))::q)) rest Φ)
    (hi':∀ ov iv new,augStore i ov iv new=(do holding [new,ov,iv] (PySem.setItem ov iv new);release [new,ov,iv] [];pure .next):=by intros;rfl) :
    Ex g S ρ (p++((c,.lst ds)::q)) (.AugAssign (.Subscript o i tp) op e pos::rest) Φ:=Ex.step fun s y =>
  wpAny_AugAssign_SubscriptAny (ho.wp y fun ov s₁ y₁ r₁ e₁=>hi.wp y₁ fun iv s₂ y₂ r₂ e₂=>by
    (first | obtain rfl:=r₁.vI | obtain ⟨_,rfl⟩:=r₁.iI | obtain ⟨_,rfl⟩:=r₁.sI | obtain ⟨_,rfl⟩:=r₁.bI | obtain rfl:=r₁.nI | cases r₁);(first | obtain rfl:=r₂.vI | obtain ⟨_,rfl⟩:=r₂.iI | obtain ⟨_,rfl⟩:=r₂.sI | obtain ⟨_,rfl⟩:=r₂.bI | obtain rfl:=r₂.nI | cases r₂)
    have hsz:sizeLine=16777216:=rfl
    obtain ⟨vs,n,hg,r⟩:=y₂.muts (c,.lst ds) (List.mem_of_getElem? mem_mid)
    have hL:s₂.heap.IsList c vs.toArray:=⟨_,hg,rfl,n,rfl⟩
    obtain ⟨w,hw,rw'⟩:=r.get ha
    have hlt:k.toNat < ds.length:=(List.getElem?_eq_some_iff.mp ha).1
    refine wpAny_getItem_list hL h0 (by lia) (by simpa using hw) ?_
    refine he.wp y₂ fun v s₃ y₃ r₃ e₃=>?_
    refine (oo g.C g.A g.X s₃ w v y₃.inv R (rw'.ext e₃ (fun _ h=>nomatch h) y₂.inv.pin) r₃).use fun new s₄ e₄ r₄=>?_
    have y₄:=y₃.ext e₄
    obtain ⟨vs',n',hg',r'⟩:=y₄.muts (c,.lst ds) (List.mem_of_getElem? mem_mid)
    refine setItem_lst hg' h0 (by lia) (by rw [r'.length];lia) fun h' ⟨n'',hp⟩ hs'=>?_
    obtain ⟨e₅,y₅⟩:=y₄.relst (tk:=s₄.toks) hs' hp (r'.set k.toNat r₄)
    exact ⟨(((e₁.trans e₂).trans e₃).trans e₄).up0.trans (e₅.wider fun b hb=>.inl (hS b hb)),kk _ y₅⟩) hi'
theorem Ex.setBa {o i e : Expr} {tp pos : Pos} {k x : Int} {b : Array UInt8} (he : Ev g ρ (p ++ ((c, .ba b) :: q)) e (.int x)) (ho : Ev g ρ (p ++ ((c, .ba b) :: q)) o (.val (.ref c))) (hi : Ev g ρ (p ++ ((c, .ba b) :: q)) i (.int k)) (h0 : 0 ≤ k) (hk : k < b.size) (hz : b.size ≤ sizeLine) (hx0 : 0 ≤ x) (hx : x < 256)
    (hS:∀ z∈doms (p++((c,.ba b)::q)),z∈S) (kk:Ex g S ρ (p++((c,.ba (b.setIfInBounds k.toNat x.toNat.toUInt8))::q)) rest Φ) (hs:swapsWith e (some (.Subscript o i tp)) pos.line g.env=pure false:=by rfl) :
    Ex g S ρ (p++((c,.ba b)::q)) (.Assign [.Subscript o i tp] e pos::rest) Φ:=Ex.step fun s y =>
  wpAny_Assign_Subscript (he.wp y fun v s₁ y₁ r₁ e₁=>ho.wp y₁ fun ov s₂ y₂ r₂ e₂=>hi.wp y₂ fun iv s₃ y₃ r₃ e₃=>by
    (first | obtain rfl:=r₁.vI | obtain ⟨_,rfl⟩:=r₁.iI | obtain ⟨_,rfl⟩:=r₁.sI | obtain ⟨_,rfl⟩:=r₁.bI | obtain rfl:=r₁.nI | cases r₁);(first | obtain rfl:=r₂.vI | obtain ⟨_,rfl⟩:=r₂.iI | obtain ⟨_,rfl⟩:=r₂.sI | obtain ⟨_,rfl⟩:=r₂.bI | obtain rfl:=r₂.nI | cases r₂);(first | obtain rfl:=r₃.vI | obtain ⟨_,rfl⟩:=r₃.iI | obtain ⟨_,rfl⟩:=r₃.sI | obtain ⟨_,rfl⟩:=r₃.bI | obtain rfl:=r₃.nI | cases r₃)
    obtain ⟨n,hg⟩:=y₃.muts (c,.ba b) (List.mem_of_getElem? mem_mid)
    refine setItem_ba hg h0 hk hz hx0 hx fun h' hs' hp=>?_
    have:=y₃.setmut (m':=.ba (b.setIfInBounds k.toNat x.toNat.toUInt8)) (tk:=s₃.toks) mem_mid (.head _) rfl hs' ⟨n,hp⟩ ⟨_,hp⟩
    rw [set_mid] at this
    exact ⟨((e₁.trans e₂).trans e₃).up0.trans (this.1.wider fun b hb=>.inl (hS b hb)),kk _ this.2⟩) hs
theorem Ex.extend {o e : Expr} {apos pos spos : Pos} {es : List D} {μ₁ : List (Addr × Mut)} {ds' : List D} {p' q' : List (Addr × Mut)} (hd : doms (p' ++ ((c, .lst ds') :: q')) = doms (p ++ ((c, .lst ds) :: q))) (ho : Ev g ρ (p ++ ((c, .lst ds) :: q)) o (.val (.ref c))) (hS : ∀ b ∈ doms (p ++ ((c, .lst ds) :: q)), b ∈ S)
    (he:EvM g ρ (p++((c,.lst ds)::q)) e (.lst es) (p'++((c,.lst ds')::q'))) (hlen:ds'.length+es.length≤1000)
    (kk:Ex g S ρ (p'++((c,.lst (ds'++es))::q')) rest Φ)
    (hbase:attributeBase o "extend" g.env (eval o g.env)=eval o g.env:=by rfl)
    (hfew:((backTo pos (starEach [e] g.env)).all (fun x=>!x.1) && (backToKw pos (keywordEach [] g.env)).all (fun x=>x.1.isSome) && decide ([e].length+([]:List Keyword).length+(if ([]:List Keyword).isEmpty then 0 else 1) < 30))=true:=by rfl)
    (hline:(apos.endLine == pos.line)=true:=by rfl) (hst:starEach [e] g.env=(false,eval e g.env)::starEach [] g.env:=by rfl)
    (hi:interactive g.env=false:=by rfl) (hs:swapsWith (.Call (.Attribute o "extend" apos) [e] [] pos) none spos.line g.env=pure false:=by rfl) :
    Ex g S ρ (p++((c,.lst ds)::q)) (.Expr (.Call (.Attribute o "extend" apos) [e] [] pos) spos::rest) Φ:=Ex.step fun s y=>by
  refine wpAny_Expr_any (wpAny_Call_method hbase hfew hline F.plainAttrs_list F.slot_list_extend F.type_list_extend (ho.wp y fun v s₁ y₁ r₁ e₁=>?_)) hi hs
  (first | obtain rfl:=r₁.vI | obtain ⟨_,rfl⟩:=r₁.iI | obtain ⟨_,rfl⟩:=r₁.sI | obtain ⟨_,rfl⟩:=r₁.bI | obtain rfl:=r₁.nI | cases r₁)
  obtain ⟨vs,n,hg,r⟩:=y₁.muts (c,.lst ds) (List.mem_of_getElem? mem_mid)
  refine ⟨⟨_,hg,rfl⟩,fun b hb=>by cases hb;exact ⟨_,hg,rfl⟩,callWith_B rfl ?_ hst⟩
  refine ((EvLM.cons he EvLM.nil hst).2 s₁ y₁).use fun ws s₂ e₂ q₂=>?_
  obtain ⟨y₂,r₂⟩:=q₂
  obtain ⟨vs,n,hg,r⟩:=y₂.muts (c,.lst ds') (List.mem_of_getElem? mem_mid)
  obtain ⟨w,rfl,rw'⟩:=r₂.one
  cases rw' with | @lst b us m _ hb ho' ru =>
  have hsz:sizeLine=16777216:=rfl
  obtain ⟨n',hm⟩:=mapSeq_lst (fun xs=>xs++us.toArray) vs n (vs++us) (by simp)
  have lv:=r.length
  have lu:=ru.length
  refine call_meets PySem.F.slot_list_extend ⟨_,hg,rfl⟩ PySem.F.entry_list_extend (PySem.F.args_list_extend_2 _ _) (PySem.AutoSeq1.list_extend_list_list_0 c vs.toArray n b us.toArray m ?_ (by simp;lia) (by simp;lia)) ⟨hg,ho',?_⟩
  · have:Builtin.List.listTooLong (vs.toArray.size+us.toArray.size)=false:=by
      unfold Builtin.List.listTooLong
      simp;lia
    rw [this];simp
  have hfin:(s₂.heap.update c (Obj.mapSeq fun xs=>xs++us.toArray)).get? c=some (lstO (vs++us) n'):=by
    rw [Heap.get?_update_self _ hg (by rw [hm];rfl),hm]
  obtain ⟨e₃,y₃⟩:=y₂.relst (tk:=s₂.toks) (Heap.SameBut.update ..) hfin (r.append ru)
  exact ⟨(e₁.up0.trans (e₂.wider fun b hb=>.inl (hS b hb))).trans (e₃.wider fun b hb=>.inl (hS b (hd ▸ hb))),kk _ y₃⟩
theorem unpack_D {ds : List D} {v : Value} {targets : List (Bool × (Value → Sem Unit))} {Ψ : Unit → Shared → Prop} (y : St g ρ μ s) (R : Room g.A 0) (r : Rep g.X s.heap v (.tup ds)) (hn : targets.length = ds.length) (hstar : targets.findIdx? (·.1) = none)
    (h:∀ s' vs,St g ρ μ s'→Ext g.C [] s s'→RepL g.X s'.heap vs ds→Dn g.C g.A S s' (assignInOrder (targets.map (·.2)) vs) Ψ):Dn g.C g.A S s (unpack v targets) Ψ:=by
  have hI:=r.tI;clear r;obtain ⟨t,vs,n,hE,ht,ho,rl⟩:=hI;cases hE
  have hT:s.heap.IsTuple t vs.toArray:=⟨_,ho,rfl,n,rfl⟩
  refine wpAny_unpack_tuple R.h hT (by rw [hn,List.size_toArray,rl.length]) hstar fun h' hx=>?_
  have k:∀ b o,s.heap.get? b=some o→h'.get? b=some o:=fun b o e=>hx b o (Nat.ne_of_lt (Heap.lt_size e)) e
  have e₁:Ext g.C [] s { s with heap:=h' }:=.of_keeps k rfl rfl
  exact (h { s with heap:=h' } vs (y.ext e₁) e₁ (rl.mono fun b o hb z=>⟨hb,k b o z⟩)).use fun v s' e q=>⟨e₁.up0.trans e,q⟩
theorem aio_cons {x:Value→Sem Unit} {xs:List (Value→Sem Unit)} {v:Value} {vs:List Value} {M:Model} {A:Around} {E:Value→Shared→Prop} {Q:Unit→Shared→Prop} {s:Shared} (h:wpAny M A (x v) (fun _ s'=>wpAny M A (assignInOrder xs vs) Q E s') E s):wpAny M A (assignInOrder (x::xs) (v::vs)) Q E s:=by
  unfold assignInOrder
  exact wpAny_bind (wpAny_holding h)
end
end Mine
end
section
open PySem PySem.Calls PySem.W PyProof.Rows PySem.SeqAt
open Sem (wp)
set_option maxHeartbeats 4000000
namespace Mine
structure MakesL (M:Model) (h:Heap) (C:Addr):Prop where
  obj:∃ oc od cd sl,h.get? C=some ⟨oc,od,.cls cd,sl⟩∧cd.hasDel=false∧cd.mro.isEmpty=false
  made:Looks M h (Bind.madeBy (.ref C)) (some "list.__new__")
  base:Looks M h (Bind.staticBase (.ref C)) (.ref C)
  self:Looks M h (isSubtype (.ref C) (.ref C)) true
  top:Looks M h (isSubtype (.ref C) (.type "list")) true
  call:Looks M h (specialOf (.ref C) "__call__") (some (.builtin "type.__call__"))
  typ:Looks M h (isInstance (.ref C) (.type "type")) true
noncomputable def makesLIn (K:Frag) (C:Addr):Bool:=match K.lookup C with
  | some ⟨_, _, .cls cd, sl⟩ => !cd.hasDel && (sl.toList[4]?).join == some (.builtin "list.__new__") && !cd.mro.isEmpty && cd.mro.contains (.ref C) && cd.mro.contains (.type "list") &&
      specialIn K (.ref C) "__call__" == some (some (.builtin "type.__call__")) && instIn K (.ref C) (.type "type") == some true
  | _=>false
theorem makesL_of {K:Frag} {M:Model} {h:Heap} (X:K.In h) {C:Addr} (e:makesLIn K C=true):MakesL M h C:=by
  unfold makesLIn at e
  split at e
  · rename_i oc od cd sl ho
    simp only [Bool.and_eq_true,Bool.not_eq_true',beq_iff_eq] at e
    obtain ⟨⟨⟨⟨⟨⟨e2,e3⟩,e4⟩,e5⟩,e6⟩,e7⟩,e8⟩:=e
    have hc:clsIn K C=some cd:=by unfold clsIn;rw [ho]
    have hm:Looks M h (mroOf (.ref C)) cd.mro:=(looks_clsIn X hc).andThen .now
    obtain ⟨c,l,hl⟩:∃ c l,cd.mro=c::l:=by cases q:cd.mro with | nil=>rw [q] at e4;cases e4 | cons c l=>exact ⟨c,l,rfl⟩
    have made:Looks M h (Bind.madeBy (.ref C)) (some "list.__new__"):=by
      intro A Q E s k q
      unfold Bind.madeBy
      refine wpAny_bind (hm A _ E s k ?_)
      rw [hl,List.forIn_cons]
      refine wpAny_bind (wpAny_bind (wpAny_bind (wpAny_bind (wpAny_loadPart (k _ _ (X _ _ ho)) (wpAny_pure ?_)))))
      dsimp only
      rw [← Array.getElem?_toList,e3]
      exact wpAny_pure (wpAny_pure (wpAny_pure q))
    refine ⟨⟨oc,od,cd,sl,X _ _ ho,e2,e4⟩,made,?_,looks_mroIn X ?_,looks_mroIn X ?_,looks_specialIn X e7,looks_instIn X e8⟩
    · intro A Q E s k q
      unfold Bind.staticBase
      refine wpAny_bind (hm A _ E s k ?_)
      rw [hl,List.forIn_cons]
      exact wpAny_bind (wpAny_bind (wpAny_bind (made A _ E s k (wpAny_pure (wpAny_pure (wpAny_pure q))))))
    · unfold mroIn;rw [hc,Option.bind_some,if_neg (by rw [e4];decide),e5]
    · unfold mroIn;rw [hc,Option.bind_some,if_neg (by rw [e4];decide),e6]
  · cases e
theorem ln_kind:builtinKind "list.__new__"=some .builtinFn:=by decide +kernel
theorem ln_split:splitId "list.__new__"=some ("list","__new__"):=by decide +kernel
theorem ln_quiet:"list.__new__".startsWith "lifetime."=false:=by decide +kernel
theorem ln_sig:(Manifest.signature? "list.__new__").isSome=true:=by decide +kernel
theorem ln_args (c:Addr):argsOk "list.__new__" ⟨[.ref c],[]⟩:=by unfold argsOk;kernel_rfl
noncomputable abbrev accObj (C dx:Addr):Obj:={ cls:=.ref C,dict:=some dx,data:=.seq #[] }
theorem check_meth {M : Model} {A : Around} {E : Value → Shared → Prop} {s : Shared} {i owner n : String} {self : Value} {rest : List Value} {kw : List (Str × Value)} {Q : Unit → Shared → Prop}
    (hk:builtinKind i=some .method) (hs:splitId i=some (owner,n)) (hi:Looks M s.heap (isInstance self (.type owner)) true) (ha:argsOk i ⟨self::rest,kw⟩) (q:Q () s) :
    wpAny M A (checkBuiltinCall i ⟨self::rest,kw⟩) Q E s:=by
  simp only [checkBuiltinCall,hk,hs]
  refine wpAny_bind (hi.here ?_)
  simp only [Bool.not_true,Bool.false_eq_true,if_false]
  cases hsig:Manifest.signature? i with
  | none=>exact wpAny_pure q
  | some sig =>
    simp only [argsOk,hsig] at ha
    have h2:Bind.checkArgs i sig ⟨self::rest,kw⟩=pure ():=ha
    show wpAny M A (Bind.checkArgs i sig ⟨self::rest,kw⟩) Q E s
    rw [h2];exact wpAny_pure q
section
variable {prog:Program} {w:World} {A:Around} {K:Frag} {C:Addr} {R:Result→Shared→Prop} {h:Heap} {g:Array GenState} {d:Drawn} {t:Nat} {os:OsState}
theorem newL_K (Y : MakesL (model prog w) h C)
    (hq:R (.ok (.ret (.ref (h.objs.size+1)))) ⟨(h.push emptyDict).push (accObj C h.objs.size),g,d,t,os⟩) :
    codeAny (model prog w) A (.call (.builtin "list.__new__") ⟨[.ref C],[]⟩) R ⟨h,g,d,t,os⟩:=by
  obtain ⟨⟨oc,od,cd,sl,hC,e2,e4⟩,made,base,self,top,call,typ⟩:=Y
  refine codeAny_call_builtin_code (Code.quiet_builtin _ ln_quiet) ?_
  simp only [checkBuiltinCall,ln_kind,ln_split]
  cases hsig:Manifest.signature? "list.__new__" with
  | none=>have:=ln_sig;rw [hsig] at this;cases this
  | some sig =>
    have args:Bind.checkArgs "list.__new__" sig ⟨[.ref C],[]⟩=pure ():=by
      have:=ln_args C
      unfold argsOk at this
      rw [hsig] at this
      exact this
    simp only [args]
    repeat (first | simp only [bne_self_eq_false,Bool.false_eq_true,if_false] | lk)
    refine codeAny_builtin_stack F.entry_list_new rfl fun p st=>?_
    rw [Around.under_plainId F.plain_list_new _]
    have hown:=owner_list_new
    simp only [hown]
    repeat (first | simp only [Bool.false_eq_true,if_false] | lk)
    refine nd_load (Heap.get?_push_of_some _ (Heap.get?_push_of_some _ hC)) (nd_pure ?_)
    refine wpAny_pure ?_
    simp only [e2,Bool.false_eq_true,if_false]
    refine wpAny_pure (wpAny_pure ?_)
    rw [Heap.size_push]
    exact hq
theorem makeL_core {init : Value} (Y : MakesL (model prog w) h C) (hi : Looks (model prog w) h (typeLookup (.ref C) "__init__") (some init))
    (hb:∀ self,Looks (model prog w) h (bindSpecial init self) (init,[self]))
    (hq:codeAny (model prog w) (A.under (.builtin "type.__call__" ⟨[.ref C],[]⟩)) (.call init ⟨[.ref (h.objs.size+1)],[]⟩) (InitBack (h.objs.size+1) R) ⟨(h.push emptyDict).push (accObj C h.objs.size),g,d,t,os⟩) :
    codeAny (model prog w) A (.call (.ref C) ⟨[],[]⟩) R ⟨h,g,d,t,os⟩:=by
  have Y':=Y
  obtain ⟨⟨oc,od,cd,sl,hC,e2,e4⟩,made,base,self,top,call,typ⟩:=Y
  refine codeAny_of_tree ?_
  show wpAny _ _ (callAny (.ref C) _) _ _ _
  refine nd_load hC ?_
  show wpAny _ _ (callAny.viaDunder (.ref C) _) _ _ _
  unfold callAny.viaDunder
  refine wpAny_bind (call.at ?_)
  dsimp only
  rw [tc_bind]
  refine wpAny_bind (wpAny_pure (wpAny_bind (wpAny_pure ?_)))
  refine wpAny_pure (a:=Fin.again (.call (.builtin "type.__call__") ⟨[.ref C],[]⟩)) (And.intro rfl ?_)
  refine codeAny_call_builtin_at (Code.quiet_builtin _ (by decide +kernel)) entry_typeCall (check_slot tc_kind tc_split typ (tc_args _ _ _) ?_)
  unfold Builtin.«type.__call__»
  have hm:Looks (model prog w) h (mroOf (.ref C)) cd.mro:=((Looks.ld (part:=none) hC).andThen .now).andThen .now
  repeat (first | simp only [e4,Bool.false_eq_true,if_false] | with_reducible refine wpAny_call ?_ | lk)
  refine newL_K Y' ?_
  have k:∀ b o,h.get? b=some o→((h.push emptyDict).push (accObj C h.objs.size)).get? b=some o:=fun b o e=>Heap.get?_push_of_some _ (Heap.get?_push_of_some _ e)
  have hx:((h.push emptyDict).push (accObj C h.objs.size)).get? (h.objs.size+1)=some (accObj C h.objs.size):=by heap_get
  have t1:Looks (model prog w) ((h.push emptyDict).push (accObj C h.objs.size)) (typeOf (.ref (h.objs.size+1))) (.ref C):=(Looks.ld hx).andThen .now
  have s1:=self.keeps k
  have i1:=hi.keeps k
  have b1:=(hb (.ref (h.objs.size+1))).keeps k
  unfold isInstance callSpecial? specialOf
  repeat (first | with_reducible refine wpAny_call ?_ | lk)
  refine codeAny_mono hq fun r s' z=>?_
  rcases r with e | (v | _ | _ | _) <;> first | exact z | exact z.elim | skip
  obtain ⟨rfl,z⟩:=z
  exact wpAny_pure (wpAny_pure z)
end
end Mine
end
section
open PySem PySem.Calls PySem.W PyProof.Rows PySem.SeqAt Builtin.ObjectAttr
open Sem (wp)
set_option maxHeartbeats 4000000
namespace Mine
noncomputable def Mut.cls?:Mut→Option (Addr × Str)
  | .acc c _ _=>some (c,"_initial_size")
  | .inst c _=>some (c,"passwd")
  | _=>none
theorem shadow_one {hsh:Int} {key name:Str} {t:Tok} {v:Value} {n:Nat} (hr:v=v) (hne:(key == name)=false):shadowIn (some (dictOf [⟨hsh,.str key t,v⟩] n)) name=some false:=by
  have h1:(Value.str key t).isStr name=false:=hne
  have:lookIn name (dictOf [⟨hsh,.str key t,v⟩] n)=some none:=by
    unfold lookIn
    simp only [List.toList_toArray,List.find?_cons,h1,List.find?_nil,List.any_cons,List.any_nil,Bool.or_false]
    rfl
  unfold shadowIn
  simp only [this]
  rfl
theorem MutOk.instAt {X:List Addr} {hp:Heap} {a:Addr} {m:Mut} {c:Addr} {key:Str} (h:MutOk X hp a m) (hc:m.cls?=some (c,key)):∃ ox od,InstAt hp a ox c (some od)∧∀ name,(key == name)=false→shadowIn (some od) name=some false:=by
  cases m with
  | lst ds=>cases hc
  | ba b=>cases hc
  | obj o dx od=>cases hc
  | acc cls dx ds =>
    cases hc
    obtain ⟨⟨vs,n,ho,_⟩,_,hsh,t,u,n',hd⟩:=h
    exact ⟨_,_,⟨ho,rfl,rfl,hd⟩,fun name hn=>shadow_one rfl hn⟩
  | inst cls dx =>
    cases hc
    obtain ⟨⟨sl,ho⟩,_,hsh,t,v,n',hd⟩:=h
    exact ⟨_,_,⟨ho,rfl,rfl,hd⟩,fun name hn=>shadow_one rfl hn⟩
section
variable {prog:Program} {w:World} {A:Around} {E:Value→Shared→Prop} {s:Shared} {K:Frag} {x C:Addr} {ox:Obj} {od:Option Obj} {name:Str}
theorem method_md {f : Value} {T : Value} {ga : String} {pl : Sem Bool} {Q : Value × List Value → Shared → Prop} (X : K.In s.heap) (I : InstAt s.heap x ox C od) (hga : findIn K (.ref C) "__getattribute__" = some (some (.builtin ga))) (hcan : Manifest.canonical ga = "object.__getattribute__") (hk : findIn K (.ref C) "__getattr__" = some none)
    (hf:findIn K (.ref C) name=some (some f)) (ht:typeIn K f=some T) (hT:(T != .type "function" && T != .type "method_descriptor" && T != .type "wrapper_descriptor")=false) (hs:shadowIn od name=some false) (h:Q (f,[.ref x]) s) :
    wpAny (model prog w) A (getMethod (.ref x) name pl) Q E s:=by
  unfold getMethod specialOf
  refine wpAny_bind (wpAny_bind (I.type.here ((looks_findIn X hga).here ?_)))
  dsimp only
  rw [if_neg (by rw [hcan];decide)]
  refine wpAny_bind (wpAny_bind (I.type.here ((looks_findIn X hk).here ?_)))
  refine wpAny_bind (wpAny_bind (I.type.here ((looks_findIn X hf).here (wpAny_bind ((looks_typeIn X ht).here ?_)))))
  rw [if_neg (by rw [hT];decide)]
  refine wpAny_bind (wpAny_loadPart I.at_ ?_)
  have hd:=I.dict
  cases e:ox.dict with
  | none=>exact wpAny_bind (wpAny_rule (wpAny_pure h))
  | some dx =>
    cases od with
    | none=>rw [e] at hd;exact hd.elim
    | some o =>
      rw [e] at hd
      obtain ⟨r,a,b⟩:=Option.map_eq_some_iff.mp hs
      refine wpAny_bind (wpAny_bind (wpAny_loadPart hd ?_))
      rw [nsLook_of a]
      refine wpAny_pure ?_
      rw [b]
      exact wpAny_bind (wpAny_rule (wpAny_pure h))
theorem eval_MethodCall {M : Model} {o : Expr} {apos pos : Pos} {args : List Expr} {env : Env} {pl : Sem Bool} {Q : Value → Shared → Prop} (hbase : attributeBase o name env (eval o env) = eval o env)
    (h:wpAny M A (eval o env) (fun ov s₁=>wpAny M A (getMethod ov name pl) (fun fx s₂=>wpAny M A (callWith pos fx.1 fx.2 (backTo pos (starEach args env)) []) Q E s₂) E s₁) E s)
    (he:eval (.Call (.Attribute o name apos) args [] pos) env=(do
      let ov ← attributeBase o name env (eval o env)
      standAt apos.atName
      let (f,first) ← holding [ov] (getMethod ov name pl)
      callWith pos f first (backTo pos (starEach args env)) [])) :
    wpAny M A (eval (.Call (.Attribute o name apos) args [] pos) env) Q E s:=by
  rw [he,hbase]
  exact wpAny_bind (wpAny_mono h (fun ov s₁ h₁=>wpAny_bind (wpAny_standAt (wpAny_bind (wpAny_holding (wpAny_mono h₁ (fun fx s₂ h₂=>h₂) fun _ _ x=>x))))) fun _ _ x=>x)
theorem call_derived {id owner n : String} {b : Builtin} {rest : List Value} {Q : Value → Shared → Prop} (X : K.In s.heap) (I : InstAt s.heap x ox C od) (hp : plainId id = true) (hb : entryFor table id = some b)
    (hk:builtinKind id=some .method∨builtinKind id=some .slot) (hs:splitId id=some (owner,n)) (hi:mroIn K C (.type owner)=some true) (ha:argsOk id ⟨.ref x::rest,[]⟩)
    (h:wpAny (model prog w) A.in1 (b ⟨.ref x::rest,[]⟩) (fun fin s'=>match fin with | .done (.ret v)=>Q v s' | _=>False) E s):wpAny (model prog w) A (call (.builtin id) (.ref x::rest)) Q E s:=by
  have L:Looks (model prog w) s.heap (isInstance (.ref x) (.type owner)) true:=I.type.andThen (looks_mroIn X hi)
  have fin : ∀ (fin : Fin) (s' : Shared), (match fin with | .done (.ret v) => Q v s' | _ => False) → (match fin with
      | .done f=>(match (.ok f:Result) with | .ok (.ret v)=>Q v s' | .ok _=>False | .error e=>E e s')
      | .again c'=>c'.quiet=true∧codeAny (model prog w) A c' (fun r s'=>match r with | .ok (.ret v)=>Q v s' | .ok _=>False | .error e=>E e s') s'):=fun fin s' q=>by
    rcases fin with (_ | _ | _ | _) | _ <;> first | exact q | exact q.elim
  refine wpAny_call (codeAny_mono (codeAny_call_builtin (R:=fun r s'=>match r with | .ok (.ret v)=>Q v s' | .ok _=>False | .error e=>E e s') hp hb ?_) fun r s' q=>?_)
  · rcases hk with hk | hk
    · exact check_meth hk hs L ha (wpAny_mono h (fun f s' q=>fin f s' q) fun _ _ e=>e)
    · exact check_slot hk hs L ha (wpAny_mono h (fun f s' q=>fin f s' q) fun _ _ e=>e)
  · rcases r with e | (v | _ | _ | _) <;> first | exact q | exact q.elim
theorem mapSeq_acc (f:Array Value→Array Value) (cls dx:Addr) (vs:List Value) (n:Nat) (ws:List Value) (h:f vs.toArray=ws.toArray):∃ n',Obj.mapSeq f (accO cls dx vs n)=accO cls dx ws n':=by
  unfold Obj.mapSeq accO
  simp only [h]
  exact ⟨_,rfl⟩
theorem acc_update {dx : Addr} {vs ws : List Value} {n : Nat} {f : Array Value → Array Value} {Q : Unit → Shared → Prop} (ho : s.heap.get? x = some (accO C dx vs n)) (hf : f vs.toArray = ws.toArray) (hz : vs.length ≤ 1000) (hz' : ws.length ≤ 1000)
    (h:∀ h',(∃ n',h'.get? x=some (accO C dx ws n'))→Heap.SameBut x s.heap h'→Q () { s with heap:=h' }):wpAny (model prog w) A (updateSeq x f) Q E s:=by
  obtain ⟨n',hm⟩:=mapSeq_acc f C dx vs n ws hf
  have hz1:sizeLine=16777216:=rfl
  refine wpAny_updateSeq ho rfl (h _ ⟨n',?_⟩ (Heap.SameBut.update ..)) (by simp;lia) (by rw [hf];simp;lia)
  rw [Heap.get?_update_self _ ho (by rw [hm];rfl),hm]
end
end Mine
end
section
open PySem PySem.Calls PySem.W PyProof.Rows PySem.SeqAt Builtin.ObjectAttr
open Sem (wp)
set_option maxHeartbeats 4000000
namespace Mine
theorem slot_md_get:Slot "method_descriptor" "__get__" "method_descriptor.__get__":=.of (owner:="method_descriptor") (n:="__get__") (by rw [typeLookup_type,builtinLookup_eq_fast];kernel_rfl) (by decide +kernel) (by decide +kernel) (by decide +kernel)
  (by first | exact .inl (by decide +kernel) | exact .inr (by decide +kernel)) (by rw [isSubtype_type];kernel_rfl)
theorem slot_wd_get:Slot "wrapper_descriptor" "__get__" "wrapper_descriptor.__get__":=.of (owner:="wrapper_descriptor") (n:="__get__") (by rw [typeLookup_type,builtinLookup_eq_fast];kernel_rfl) (by decide +kernel) (by decide +kernel) (by decide +kernel)
  (by first | exact .inl (by decide +kernel) | exact .inr (by decide +kernel)) (by rw [isSubtype_type];kernel_rfl)
theorem entry_md_get:entryFor table "method_descriptor.__get__"=some Builtin.«method_descriptor.__get__»:=entryFor_of_tree (by kernel_rfl)
theorem entry_wd_get:entryFor table "wrapper_descriptor.__get__"=some Builtin.«wrapper_descriptor.__get__»:=entryFor_of_tree (by kernel_rfl)
theorem args_md_get (a b c:Value):argsOk "method_descriptor.__get__" ⟨[a,b,c],[]⟩:=by unfold argsOk;kernel_rfl
theorem args_wd_get (a b c:Value):argsOk "wrapper_descriptor.__get__" ⟨[a,b,c],[]⟩:=by unfold argsOk;kernel_rfl
noncomputable abbrev boundObj (kind id:String) (x:Addr):Obj:={ cls:=.type kind,dict:=none,data:=.fields #[.builtin id,.ref x],slots:=#[] }
structure Descr (id n T kind:String):Prop where
  own:(kfb_private% "ownerAndName") id=("list",n)
  ty:typeOf (.builtin id)=pure (.type T)
  get:∃ g B,Slot T "__get__" g∧entryFor table g=some B∧(∀ a b c,argsOk g ⟨[a,b,c],[]⟩) ∧
    ∀ (prog:Program) (w:World) (A:Around) (E:Value→Shared→Prop) (s:Shared) (x C:Addr) (P:Fin→Shared→Prop),Looks (model prog w) s.heap (isInstance (.ref x) (.type "list")) true →
      P (.done (.ret (.ref s.heap.objs.size))) { s with heap:=s.heap.push (boundObj kind id x) }→wpAny (model prog w) A (B ⟨[.builtin id,.ref x,.ref C],[]⟩) P E s
theorem check_own {prog : Program} {w : World} {A : Around} {E : Value → Shared → Prop} {s : Shared} {id n : String} {x : Addr} {Q : Unit → Shared → Prop} (ho : (kfb_private% "ownerAndName") id = ("list", n)) (L : Looks (model prog w) s.heap (isInstance (.ref x) (.type "list")) true)
    (h:Q () s):wpAny (model prog w) A ((kfb_private% "checkInstance") (.builtin id) (.ref x)) Q E s:=by
  have e:(kfb_private% "nameAndClass") (.builtin id)=pure ((Str.ofString n),Value.type "list"):=by
    show pure (Str.ofString ((kfb_private% "ownerAndName") id).2,Value.type ((kfb_private% "ownerAndName") id).1)=_
    rw [ho]
  show wpAny _ _ ((kfb_private% "nameAndClass") (.builtin id) >>= _) _ _ _
  rw [e]
  refine wpAny_bind (wpAny_pure ?_)
  refine wpAny_bind (L.here ?_)
  exact wpAny_pure h
theorem bind_run {prog : Program} {w : World} {A : Around} {E : Value → Shared → Prop} {s : Shared} {id n kind : String} {x : Addr} {P : Fin → Shared → Prop} (ho : (kfb_private% "ownerAndName") id = ("list", n)) (L : Looks (model prog w) s.heap (isInstance (.ref x) (.type "list")) true)
    (h:P (.done (.ret (.ref s.heap.objs.size))) { s with heap:=s.heap.push (boundObj kind id x) }):wpAny (model prog w) A ((kfb_private% "bindBuiltin") kind (.builtin id) (some (.ref x))) P E s:=by
  show wpAny _ _ ((kfb_private% "checkInstance") (.builtin id) (.ref x) >>= fun _=>newFields kind [.builtin id,.ref x] >>= fun v=>ret v) _ _ _
  refine wpAny_bind (check_own ho L ?_)
  exact wpAny_bind (wpAny_newObj_type (wpAny_pure h))
theorem Descr.md {id n:String} (ho:(kfb_private% "ownerAndName") id=("list",n)) (ty:typeOf (.builtin id)=pure (.type "method_descriptor")) (ht:Manifest.toldItsClass.contains id=false):Descr id n "method_descriptor" "builtin_function_or_method" where
  own:=ho
  ty:=ty
  get:=⟨_,_,slot_md_get,entry_md_get,args_md_get,fun prog w A E s x C P L h=>by
    unfold Builtin.«method_descriptor.__get__»
    refine wpAny_bind (wpAny_of_eq (a:=(.builtin id,some (.ref x),some (.ref C))) (by first | rfl | kernel_rfl) ?_)
    simp only [ht,Bool.false_eq_true,if_false]
    exact bind_run ho L h⟩
theorem Descr.wd {id n:String} (ho:(kfb_private% "ownerAndName") id=("list",n)) (ty:typeOf (.builtin id)=pure (.type "wrapper_descriptor")):Descr id n "wrapper_descriptor" "method-wrapper" where
  own:=ho
  ty:=ty
  get:=⟨_,_,slot_wd_get,entry_wd_get,args_wd_get,fun prog w A E s x C P L h=>by
    unfold Builtin.«wrapper_descriptor.__get__»
    refine wpAny_bind (wpAny_of_eq (a:=(.builtin id,some (.ref x),some (.ref C))) (by first | rfl | kernel_rfl) ?_)
    exact bind_run ho L h⟩
theorem descr_pop:Descr "list.pop" "pop" "method_descriptor" "builtin_function_or_method":=.md (by first | decide +kernel | kernel_rfl) F.type_list_pop (by decide +kernel)
theorem descr_len:Descr "list.__len__" "__len__" "wrapper_descriptor" "method-wrapper":=.wd (by first | decide +kernel | kernel_rfl) (by kernel_rfl)
theorem descr_init:Descr "list.__init__" "__init__" "wrapper_descriptor" "method-wrapper":=.wd (by first | decide +kernel | kernel_rfl) (by kernel_rfl)
section
variable {prog:Program} {w:World} {A:Around} {E:Value→Shared→Prop} {h:Heap} {g:Array GenState} {d:Drawn} {t:Nat} {os:OsState}
theorem super_ga {so D x C : Addr} {id n T kind : String} {l₀ l : List Value} {K : Frag} {name : Str} {tk : Tok} {Q : Fin → Shared → Prop} (Ds : Descr id n T kind) (hT : T = "method_descriptor" ∨ T = "wrapper_descriptor")
    (hso:h.get? so=some { cls:=.type "super",dict:=none,data:=.fields #[.ref D,.ref x,.ref C],slots:=#[] }) (hno:Looks (model prog w) h (opaqueClassAbove (.ref C)) none)
    (hC:Looks (model prog w) h (mroOf (.ref C)) l₀) (hl:(l₀.dropWhile (· != .ref D)).drop 1=l) (X:K.In h)
    (hf:alongIn K name l=some (some (.builtin id))) (L:Looks (model prog w) h (isInstance (.ref x) (.type "list")) true) (hxC:x≠C) (hn:(name == ("__class__":Str))=false)
    (hq:Q (.done (.ret (.ref h.objs.size))) ⟨h.push (boundObj kind id x),g,d,t,os⟩) :
    wpAny (model prog w) A (Builtin.«super.__getattribute__» ⟨[.ref so,.str name tk],[]⟩) Q E ⟨h,g,d,t,os⟩:=by
  obtain ⟨gid,B,slot,entry,gargs,run⟩:=Ds.get
  have hty:=Ds.ty
  have hlk:=slot.lookup
  have hne:(Value.ref x == Value.ref C)=false:=by simp [hxC]
  have hTf:(⟨h,g,d,t,os⟩:Shared).TypeIs (.builtin id) T:=Ds.ty
  have hdt:({ cls:=.type "super",dict:=none,data:=.fields #[.ref D,.ref x,.ref C],slots:=#[] }:Obj).data=.fields #[.ref D,.ref x,.ref C]:=rfl
  have f0:(#[.ref D,.ref x,.ref C]:Array Value)[0]?=some (.ref D):=rfl
  have f1:(#[.ref D,.ref x,.ref C]:Array Value)[1]?=some (.ref x):=rfl
  have f2:(#[.ref D,.ref x,.ref C]:Array Value)[2]?=some (.ref C):=rfl
  unfold Builtin.«super.__getattribute__»
  repeat (first
    | (with_reducible refine wpAny_field hso hdt f0 ?_) | (with_reducible refine wpAny_field hso hdt f1 ?_) | (with_reducible refine wpAny_field hso hdt f2 ?_)
    | (with_reducible refine ks_wpAny_notOpaque hno ?_)
    | (with_reducible refine Looks.at hC ?_;rw [hl])
    | (refine ks_forIn_along X (fun _ _=>rfl) rfl ?_ hf)
    | (with_reducible refine wpAny_typeOf hTf ?_)
    | (with_reducible refine wpAny_call_entry slot hTf entry ?_ (gargs _ _ _))
    | (with_reducible refine ⟨_,rfl,?_⟩)
    | (simp only [hn,hne,hty,Bool.or_false,Bool.false_eq_true,if_false])
    | wp_step
    | dsimp only)
  all_goals exact run _ _ _ _ _ _ _ _ L ⟨_,rfl,wpAny_bind (wpAny_pure (wpAny_pure (wpAny_pure hq)))⟩
theorem super_method {so D x C : Addr} {id n T kind : String} {l₀ l : List Value} {K : Frag} {name : Str} {pl : Sem Bool} {Q : Value × List Value → Shared → Prop} (Ds : Descr id n T kind) (hT : T = "method_descriptor" ∨ T = "wrapper_descriptor")
    (hso:h.get? so=some { cls:=.type "super",dict:=none,data:=.fields #[.ref D,.ref x,.ref C],slots:=#[] }) (hno:Looks (model prog w) h (opaqueClassAbove (.ref C)) none)
    (hC:Looks (model prog w) h (mroOf (.ref C)) l₀) (hl:(l₀.dropWhile (· != .ref D)).drop 1=l) (X:K.In h)
    (hf:alongIn K name l=some (some (.builtin id))) (L:Looks (model prog w) h (isInstance (.ref x) (.type "list")) true) (hxC:x≠C) (hn:(name == ("__class__":Str))=false)
    (hq:Q (.ref h.objs.size,[]) ⟨h.push (boundObj kind id x),g,d,t+1,os⟩) :
    wpAny (model prog w) A (getMethod (.ref so) name pl) Q E ⟨h,g,d,t,os⟩:=by
  have hlk:=F.ks_slot_super_ga.lookup
  have hcan:=F.ks_canon_super_ga
  have hT':∀ t',(⟨h,g,d,t',os⟩:Shared).TypeIs (.ref so) "super":=fun _=>⟨_,hso,rfl⟩
  unfold getMethod
  refine wpAny_bind (wpAny_specialOf (hT' _) hlk ?_)
  show wpAny _ _ (if (Manifest.canonical "super.__getattribute__" != "object.__getattribute__")=true then _ else _) _ _ _
  rw [if_pos hcan]
  unfold getAttr getAttrBy
  refine wpAny_bind (wpAny_bind (wpAny_mkText (wpAny_holding (wpAny_bind (wpAny_typeOf (hT' _) (wpAny_bind (wpAny_of_eq hlk ?_)))))))
  show wpAny _ _ (getAttrByItsOwn (.ref so) (.str name t) (.type "super") (.builtin "super.__getattribute__") true false) _ _ _
  unfold getAttrByItsOwn hookBefore callGetattribute boundAndCalled
  refine wpAny_bind (wpAny_of_eq (show (if onTheHeap (.type "super") then typeLookup (.type "super") "__getattr__" else pure none)=pure none from rfl) ?_)
  refine wpAny_bind (wpAny_attempt (wpAny_holding ?_))
  show wpAny _ _ (bindSpecial (.builtin "super.__getattribute__") (.ref so) >>= _) _ _ _
  refine wpAny_bind (wpAny_of_eq (F.ks_slot_super_ga.bind _) ?_)
  refine wpAny_mono (Q:=fun v s'=>v=.ref h.objs.size∧s'=⟨h.push (boundObj kind id x),g,d,t+1,os⟩) (E:=fun _ _=>False)
    (wpAny_call_entry F.ks_slot_super_ga (hT' _) F.ks_entry_super_ga (super_ga Ds hT hso hno hC hl X hf L hxC hn ⟨_,rfl,rfl,rfl⟩) (F.ks_gaArgs_super _ _)) (fun v s' hv=>?_) fun _ _ z=>z.elim
  obtain ⟨rfl,rfl⟩:=hv
  exact wpAny_pure (wpAny_pure hq)
end
section
variable {prog:Program} {w:World} {A:Around} {E:Value→Shared→Prop} {s:Shared}
theorem bound_slot {id:String} {args:Args} {sig:Manifest.Signature} (hs:Manifest.signature? id=some sig) (hk:builtinKind id=some .slot) (ha:Bind.checkArgs id sig args=pure ()):checkBoundCall id args=pure ():=by
  unfold checkBoundCall
  rw [hs]
  dsimp only
  rw [hk]
  obtain ⟨pos,kw⟩:=args
  cases pos with
  | nil=>exact ha
  | cons v r=>exact ha
theorem bound_meth {id : String} {x : Addr} {rest : List Value} {Q : Unit → Shared → Prop} {C : Addr} {ox : Obj} {od : Option Obj} {K : Frag} {sig : Manifest.Signature} {cd : ClassData} (hs : Manifest.signature? id = some sig) (hk : builtinKind id = some .method) (hv : Manifest.varargsMethods.contains id = false)
    (X:K.In s.heap) (I:InstAt s.heap x ox C od) (hmod:mroIn K C (.type "module")=some false) (hcd:clsIn K C=some cd) (hty:typeIn K (.ref C)=some (.type "type"))
    (ha:Bind.checkArgs id { sig with full:=s!"{cd.qualname.toString}.{Bind.lastOf id}" } ⟨.ref x::rest,[]⟩=pure ()) (h:Q () s):wpAny (model prog w) A (checkBoundCall id ⟨.ref x::rest,[]⟩) Q E s:=by
  have L:Looks (model prog w) s.heap (isInstance (.ref x) (.type "module")) false:=I.type.andThen (looks_mroIn X hmod)
  have hno:=I.no
  unfold checkBoundCall
  rw [hs]
  dsimp only
  rw [hk]
  show wpAny _ _ (isInstance (.ref x) (.type "module") >>= _) _ _ _
  refine wpAny_bind (L.here ?_)
  rw [hv,Bool.false_or,if_neg (by decide)]
  obtain ⟨hh,g,d,t,os⟩:=s
  refine wpAny_bind (ks_wpAny_isType_inst I.at_ (fun c e=>?_) ?_)
  · unfold notCls at hno;rw [e] at hno;cases hno
  · rw [if_neg (by decide)]
    refine wpAny_bind (I.type.here ?_)
    dsimp only
    refine wpAny_bind ((looks_clsIn X hcd).here ?_)
    refine wpAny_bind ((looks_typeIn X hty).here ?_)
    rw [if_pos (by decide),ha]
    exact wpAny_pure h
noncomputable abbrev sigPop:Manifest.Signature:=⟨.positional,"list.pop","pop",.self,[⟨"index",.posOnly,false⟩]⟩
noncomputable abbrev sigLen:Manifest.Signature:=⟨.exact,"wrapper __len__","",.self,[]⟩
noncomputable abbrev sigInit:Manifest.Signature:=⟨.constructor,"list","list",.self,[⟨"iterable",.posOnly,false⟩]⟩
theorem sig_pop:Manifest.signature? "list.pop"=some sigPop:=by kernel_rfl
theorem sig_len:Manifest.signature? "list.__len__"=some sigLen:=by kernel_rfl
theorem sig_init:Manifest.signature? "list.__init__"=some sigInit:=by kernel_rfl
theorem chk_pop (x:Addr):Bind.checkArgs "list.pop" { sigPop with full:="_Accumulator.pop" } ⟨[.ref x],[]⟩=pure ():=by kernel_rfl
theorem chk_len (x:Addr):Bind.checkArgs "list.__len__" sigLen ⟨[.ref x],[]⟩=pure ():=by kernel_rfl
theorem chk_init (x:Addr):Bind.checkArgs "list.__init__" sigInit ⟨[.ref x],[]⟩=pure ():=by kernel_rfl
theorem call_bound {kind id : String} {b x : Addr} {B : Builtin} {rest : List Value} {Q : Value → Shared → Prop} (hk : kind = "builtin_function_or_method" ∨ kind = "method-wrapper") (ho : s.heap.get? b = some (boundObj kind id x)) (hp : plainId id = true) (hb : entryFor table id = some B)
    (hc:∀ (A:Around) (Q:Unit→Shared→Prop) (E:Value→Shared→Prop),Q () s→wpAny (model prog w) A (checkBoundCall id ⟨.ref x::rest,[]⟩) Q E s)
    (h:wpAny (model prog w) A.in1 (B ⟨.ref x::rest,[]⟩) (fun fin s'=>match fin with | .done (.ret v)=>Q v s' | _=>False) E s):wpAny (model prog w) A (call (.ref b) rest) Q E s:=by
  refine wpAny_call (codeAny_of_tree ?_)
  show wpAny _ A.in1 (callAny (.ref b) ⟨rest,[]⟩) _ _ _
  unfold callAny
  refine wpAny_bind (wpAny_load ho ?_)
  have c1:((boundObj kind id x).cls == .type "method" || (boundObj kind id x).cls == .type "builtin_function_or_method" || (boundObj kind id x).cls == .type "method-wrapper")=true:=by rcases hk with rfl | rfl <;> rfl
  have c2:((boundObj kind id x).cls != .type "method")=true:=by rcases hk with rfl | rfl <;> rfl
  dsimp only
  rw [if_pos c1]
  show wpAny _ _ (if (boundObj kind id x).cls != .type "method" then _ else _) _ _ _
  rw [if_pos c2]
  refine wpAny_bind (hc _ _ _ ?_)
  refine wpAny_pure ⟨plainId_quiet hp _,codeAny_builtin hb ?_⟩
  rw [Around.under_plainId hp _]
  refine wpAny_mono h (fun fin s' q=>?_) fun _ _ e=>e
  rcases fin with (_ | _ | _ | _) | _ <;> first | exact q | exact q.elim
theorem callWith_bound {pos : Pos} {kind id : String} {b x : Addr} {Q : Value → Shared → Prop} {M : Model} {env : Env} (hk : kind = "builtin_function_or_method" ∨ kind = "method-wrapper") (ho : s.heap.get? b = some (boundObj kind id x))
    (h:wpAny M A (call (.ref b) []) Q E s):wpAny M A (callWith pos (.ref b) [] (backTo pos (starEach [] env)) []) Q E s:=by
  unfold callWith
  refine wpAny_bind (wpAny_holding (evalArgs_nil3 ?_))
  refine wpAny_bind (wpAny_standAt ?_)
  refine wpAny_bind (m:=keeperOf (.ref b)) ?_
  unfold keeperOf
  refine wpAny_bind (wpAny_load ho ?_)
  have c2:((boundObj kind id x).cls != .type "method")=true:=by rcases hk with rfl | rfl <;> rfl
  have c3:((boundObj kind id x).cls == .type "builtin_function_or_method" || (boundObj kind id x).cls == .type "method-wrapper")=true:=by rcases hk with rfl | rfl <;> rfl
  dsimp only
  rw [if_pos c2,if_pos c3]
  refine wpAny_pure ?_
  exact wpAny_bind (wpAny_mono h (fun r s₂ hr=>wpAny_bind (wpAny_holding (wpAny_point (wpAny_pure hr)))) fun _ _ x=>x)
end
end Mine
end
section
open PySem PySem.Calls PySem.W PyProof.Rows PySem.SeqAt Builtin.ObjectAttr
open Sem (wp)
set_option maxHeartbeats 4000000
namespace Mine
theorem Room.zero {A:Around} {k:Nat} (R:Room A k):Room A 0:=R.less (Nat.zero_le _)
theorem Bin.subB {p q:Bool}:Bin .Sub (D.bool p) (D.bool q) (.int ((if p then 1 else 0) - (if q then 1 else 0))):=fun C A X s va vb _ _ r q'=>by
  (first | obtain rfl:=r.vI | obtain ⟨_,rfl⟩:=r.iI | obtain ⟨_,rfl⟩:=r.sI | obtain ⟨_,rfl⟩:=r.bI | obtain rfl:=r.nI | cases r);(first | obtain rfl:=q'.vI | obtain ⟨_,rfl⟩:=q'.iI | obtain ⟨_,rfl⟩:=q'.sI | obtain ⟨_,rfl⟩:=q'.bI | obtain rfl:=q'.nI | cases q')
  refine sub_bool ⟨.tok,?_⟩
  have:∀ b,b2i b=if b=true then (1:Int) else 0:=fun b=>by cases b <;> rfl
  rw [this,this]
  exact .int ..
noncomputable def typ:Value→Option String
  | .type n=>some n
  | _=>none
noncomputable def isRef:Value→Bool
  | .ref _=>true
  | _=>false
noncomputable def plainL:List Value→Bool
  | []=>false
  | v::r=>(isRef v && plainL r) || (decide ((v::r).map typ=["list","object"].map some) || decide ((v::r).map typ=["object"].map some))
theorem typ_eq {v:Value} {n:String} (h:typ v=some n):v=.type n:=by
  unfold typ at h
  split at h
  · rw [Option.some.inj h]
  · cases h
theorem typ_map {l:List Value}:∀ {ns:List String},l.map typ=ns.map some→l=ns.map Value.type:=by
  induction l with
  | nil=>intro ns h;rw [List.map_eq_nil_iff.mp h.symm];rfl
  | cons v r ih =>
    intro ns h
    cases ns with
    | nil=>cases h
    | cons n ns =>
      injection h with h1 h2
      rw [typ_eq h1,ih h2];rfl
theorem refuse_list (self:Value):refuseLoop self "__setattr__" [.type "list",.type "object"]=pure ():=by
  have:refuseLoop self "__setattr__" [.type "list",.type "object"]=refuseLoop self "__setattr__" [.type "object"]:=by
    unfold refuseLoop
    kernel_rfl
  rw [this]
  exact PySem.F.store_object.passes self
theorem refuse_plain (self:Value) {l:List Value}:plainL l=true→refuseLoop self "__setattr__" l=pure ():=by
  induction l with
  | nil=>intro e;cases e
  | cons v r ih =>
    intro e
    rcases Bool.or_eq_true_iff.mp e with e | e
    · obtain ⟨e1,e2⟩:=Bool.and_eq_true_iff.mp e
      have:∃ c,v=.ref c:=by
        unfold isRef at e1
        split at e1
        · exact ⟨_,rfl⟩
        · cases e1
      obtain ⟨c,rfl⟩:=this
      rw [refuseLoop_ref];exact ih e2
    · rcases Bool.or_eq_true_iff.mp e with e | e
      · rw [typ_map (of_decide_eq_true e)];exact refuse_list self
      · rw [typ_map (of_decide_eq_true e)];exact PySem.F.store_object.passes self
noncomputable def plainOverL (K:Frag) (C:Addr):Bool:=(clsIn K C).any fun cd=>plainL cd.mro && cd.mro.contains (.type "object") && cd.hasDict
section
variable {prog:Program} {w:World} {A:Around} {E:Value→Shared→Prop} {s:Shared} {K:Frag} {x C:Addr} {R:Result→Shared→Prop}
theorem set_raw {ox od od' : Obj} {dx : Addr} {name : Str} {v : Value} {es : List DictEntry} {n : Nat} {Q : Unit → Shared → Prop} (X : K.In s.heap) (I : InstAt s.heap x ox C (some od)) (hd : ox.dict = some dx) (hs : findIn K (.ref C) "__setattr__" = some (some (.builtin "object.__setattr__")))
    (hp:plainOverL K C=true) (ht:takerIn K C name=some none) (hl:(lookIn name od).isSome=true)
    (e:Obj.putName name (PyData.keyHash w.params name) (.str name (s.toks+1)) v od=od') (e':od'.data=.dict es.toArray n) (hf:od'.isFreed=false) (hz:es.length≤1000)
    (h:∀ h',Heap.SameBut dx s.heap h'→h'.get? dx=some od'→Q () { s with heap:=h',toks:=s.toks+2 }):wpAny (model prog w) A (setAttr (.ref x) name v) Q E s:=by
  have SF:=PySem.F.store_object
  obtain ⟨cd,hc,ho⟩:=any_some hp
  rw [Bool.and_eq_true,Bool.and_eq_true] at ho
  obtain ⟨⟨ho1,ho2⟩,ho3⟩:=ho
  have ne:cd.mro.isEmpty=false:=by cases q:cd.mro with | nil=>rw [q] at ho2;cases ho2 | cons _ _=>rfl
  refine set_plain X I hs ?_
  have sub:Looks (model prog w) s.heap (isInstance (.ref x) (.type "object")) true:=I.type.andThen (looks_mroIn X (by unfold mroIn;rw [hc,Option.bind_some,if_neg (by rw [ne];decide),ho2]))
  refine codeAny_call_builtin SF.slot.plain SF.entry (@check_slot (model prog w) _ _ { s with toks:=s.toks+1 } "object.__setattr__" "object" "__setattr__" (.ref x) [.str name s.toks,v] [] _ SF.kind SF.split sub (SF.args (.ref x) (.str name s.toks) v) ?_)
  obtain ⟨attr,ha,hr⟩:=Option.bind_eq_some_iff.mp ht
  have hm:Looks (model prog w) s.heap (mroOf (.ref C)) cd.mro:=(looks_clsIn X hc).andThen .now
  have L3:Looks (model prog w) s.heap (storeTaker? attr) none:=by
    cases attr with
    | none=>exact .now
    | some a =>
      obtain ⟨b,hb,hbn⟩:=Option.map_eq_some_iff.mp hr
      refine (looks_takesIn X hb).andThen ?_
      cases b with
      | false=>exact .now
      | true=>cases hbn
  rw [osa_eq,refuse_eq]
  have hI:=I.dict
  rw [hd] at hI
  have I0:=I
  obtain ⟨hx,hcl,hn,-⟩:=I
  obtain ⟨oc,odi,oda,osl⟩:=ox
  dsimp only at hcl hd
  subst hcl hd
  refine wpAny_bind (wpAny_bind (I0.type.here (s:={ s with toks:=s.toks+1 }) (wpAny_bind (hm.here (s:={ s with toks:=s.toks+1 }) ?_))))
  rw [refuse_plain _ ho1]
  refine wpAny_pure (wpAny_bind (I0.type.here (s:={ s with toks:=s.toks+1 }) (wpAny_bind ((looks_findIn X ha).here (s:={ s with toks:=s.toks+1 }) (wpAny_bind (L3.here (s:={ s with toks:=s.toks+1 }) ?_))))))
  refine wpAny_bind (wpAny_pure (wpAny_bind (wpAny_bind (wpAny_loadPart hx (wpAny_bind ((looks_clsIn X hc).here (s:={ s with toks:=s.toks+1 }) ?_))))))
  rw [ho3]
  refine wpAny_pure (a:=some dx) (wpAny_bind (wpAny_pure (wpAny_bind ?_)))
  unfold nsSet
  refine wpAny_bind (wpAny_bind (wpAny_askSetting (wpAny_pure (wpAny_bind (wpAny_mkText (wpAny_bind (wpAny_loadPart hI ?_)))))))
  unfold lookIn at hl
  split at hl
  · rename_i es₀ n₀ q
    rw [q]
    dsimp only
    have c:(!es₀.any (·.key.isStr name) && es₀.any (·.refKey))=false:=by
      rw [← Array.any_toList,← Array.any_toList]
      split at hl
      · rename_i en he
        rw [List.any_eq_true.mpr ⟨en,List.mem_of_find?_eq_some he,List.find?_some he⟩];rfl
      · split at hl
        · cases hl
        · rename_i z;rw [Bool.not_eq_true] at z;rw [z,Bool.and_false]
    rw [aRefKeyMayBeTheName_at,c]
    refine wpAny_updatePart hI ?_
    have D':(s.heap.update dx (Obj.putName name (PyData.keyHash w.params name) (.str name (s.toks+1)) v)).get? dx=some od':=by
      rw [Heap.get?_update_self _ hI (by rw [e];exact hf),e]
    refine wpAny_bind (wpAny_lookBehind D' (by rw [e'];exact pastItsLine_dict (by rw [List.size_toArray,sizeLine_eq];lia)) ?_)
    exact wpAny_pure (h _ (Heap.SameBut.update ..) D')
  · cases hl
end
end Mine
end
section
open PySem PySem.Calls PySem.W PyProof.Rows PySem.SeqAt Builtin.ObjectAttr
open Sem (wp)
set_option maxHeartbeats 4000000
namespace Mine
section
variable {C:Cx} {oc:Value} {od:Option Addr} {osl:Array (Option Value)} {fd:FuncData} {body:List Stmt} {f:Addr}
theorem FnM.introAt {k : Nat} {ds es : List D} {μ μ' : List (Addr × Mut)} {d : D} (pn others : List Str) (j : Nat)
    (ho:C.K.lookup f=some ⟨oc,od,.func fd,osl⟩) (hcd:codeIn C.K fd.code fd.qualname=true) (hbody:fd.body=.stmts body) (hclo:∀ x c,fd.closure.lookup x=some c→c∉C.P∧∃ v,∃ oc od osl,C.K.lookup c=some ⟨oc,od,.cell (some v),osl⟩)
    (hinj:∀ x y c,fd.closure.lookup x=some c→fd.closure.lookup y=some c→x=y) (hgl:fd.globals=mainGlobals) (hbi:fd.builtins=builtinsNs)
    (hbind:∀ s vals,C.K.In s.heap→vals.length=ds.length→∃ ex,(∀ X h,RepL X h ex es)∧BindsTo s fd ⟨vals,[]⟩ (pn.zip (vals++ex))) (hlen:pn.length=(ds++es).length)
    (hnd:(pn++others).Nodup) (hkind:∀ x∈pn,fd.scope.names.lookup x=some .local)
    (hcn:∀ x∈fd.scope.names,x.2≠.cell)
    (h:∀ (A:Around) (X:List Addr) (L:Addr),Room A k→(∀ a∈doms μ,a∈X∧a≠L∧a∉C.P) →
      ∀ s,St ⟨C,A,L::X,callEnv fd L f,pn++others⟩ ((ds++es).map some++List.replicate j none) μ s→_root_.PySem.wpAt C.M A (.func body (callEnv fd L f)) (execs body (callEnv fd L f)) (fun fl s'=>Ext C (L::doms μ) s s'∧RetAs (L::X) d μ' fl s') NoE s)
    (hco:fd.scope.isCoroutine=false:=by rfl) (hgen:fd.scope.isGenerator=false:=by rfl) (hk:fd.scope.kind=.function:=by rfl):FnM C (k+1) (.ref f) ds μ d μ':=by
  intro A X s vals R I rv hm hmX hmd
  have hvl:vals.length=ds.length:=rv.length
  obtain ⟨ex,rex,hb⟩:=hbind s vals I.K hvl
  have rva:RepL X s.heap (vals++ex) (ds++es):=rv.append (rex _ _)
  refine ks_codeAny_call_defAt (fd:=fd) (body:=body) R.depth (I.K _ _ ho) rfl I.lim (codeRec_of I.K hcd) hbody hb hcn
    (fun x hx=>hkind _ (List.of_mem_zip hx).1) (fun h₁ xns xkeep=>?_) hco hgen hk
  generalize hL:s.heap.objs.size=L at xns ⊢
  have hLn:s.heap.get? L=none:=none_of_ge (by lia)
  have hLP:L∉C.P:=fun hP=>by
    obtain ⟨o,e⟩:=I.occ L (I.pin L hP)
    rw [hLn] at e;cases e
  have hXnew:∀ a∈L::X,a∈X∨s.heap.get? a=none:=fun a ha =>
    (List.mem_cons.mp ha).elim (fun q=>.inr (q ▸ hLn)) .inl
  have hdl:∀ a∈doms μ,a≠L:=fun a ha e=>by
    obtain ⟨o,q⟩:=I.occ a (hmX a ha).1
    rw [e,hLn] at q;(first | obtain rfl:=q.vI | obtain ⟨_,rfl⟩:=q.iI | obtain ⟨_,rfl⟩:=q.sI | obtain ⟨_,rfl⟩:=q.bI | obtain rfl:=q.nI | cases q)
  have hcell:∀ x c,(callEnv fd L f).cells.lookup x=some c→c∉C.P∧c≠L∧(∃ v,h₁.IsCell c v)∧c∉X:=fun x c hc=>by
    obtain ⟨hP,v,oc',od',osl',hl⟩:=hclo x c hc
    have e:=I.base.X _ _ hl
    have e₁:=I.K _ _ hl
    refine ⟨hP,(fun z=>by rw [← z,e₁] at hLn;cases hLn),⟨some v,_,xkeep _ _ e₁,rfl⟩,fun hX=>?_⟩
    have:=I.new c hX hP
    rw [e] at this;cases this
  have hkn:∀ x,(callEnv fd L f).kindOf x≠some .cell:=fun x e=>by
    have:(x,NameKind.cell)∈fd.scope.names:=mem_of_lookup e
    exact hcn _ this rfl
  have st:St ⟨C,A.deeper (callEnv fd L f),L::X,callEnv fd L f,pn++others⟩ ((ds++es).map some++List.replicate j none) μ { s with heap:=h₁,toks:=s.toks+(pn.zip (vals++ex)).length }:=by
    refine ⟨⟨I.base,fun b o hb e=>xkeep b o (I.keep b o hb e),fun p hp=>(I.tab p hp).keeps xkeep,I.os,I.gens,fun p hp=>.tail _ (I.pin p hp),fun a ha hP=>?_,fun a ha=>?_⟩,
      ⟨hk,hgl,hbi,⟨_,xns⟩,.head _,hLP,fun n c hc=>⟨(hcell n c hc).1,(hcell n c hc).2.1,(hcell n c hc).2.2.1⟩,fun n c hkc _=>absurd hkc (hkn n),fun n n' c hc hc'=>hinj n n' c hc hc'⟩,
      fun i n d' hn hd=>?_,fun p hp=>(hm p hp).more xkeep hXnew,fun a ha=>⟨.tail _ (hmX a ha).1,(hmX a ha).2,hdl a ha,fun n c hc e=>(hcell n c hc).2.2.2 (e ▸ (hmX a ha).1)⟩,hmd,hnd⟩
    · rcases List.mem_cons.mp ha with rfl | q
      · exact I.hb_none hLn hP
      · exact I.new a q hP
    · rcases List.mem_cons.mp ha with rfl | q
      · obtain ⟨o,_,_,e,_⟩:=xns;exact ⟨o,e⟩
      · obtain ⟨o,e⟩:=I.occ a q
        exact ⟨o,xkeep a o e⟩
    · have hi:i < (ds++es).length:=by
        by_cases q:i < (ds++es).length
        · exact q
        · rw [List.getElem?_append_right (by rw [List.length_map];lia)] at hd
          have:=List.mem_of_getElem? hd
          rw [List.mem_replicate] at this
          cases this.2
      rw [List.getElem?_append_left (by rw [List.length_map];exact hi),List.getElem?_map] at hd
      rw [List.getElem?_append_left (by lia)] at hn
      cases hdi:(ds++es)[i]? with
      | none=>rw [hdi] at hd;cases hd
      | some d₀ =>
        rw [hdi] at hd;cases hd
        obtain ⟨v,hv,r⟩:=rva.get hdi
        have hz:(pn.zip (vals++ex))[i]?=some (n,v):=List.getElem?_zip_eq_some.mpr ⟨hn,hv⟩
        have hnn:((pn.zip (vals++ex)).map (·.1)).Nodup:=by
          rw [List.map_fst_zip (by have:=rva.length;lia)]
          exact (List.nodup_append.mp hnd).1
        refine ⟨v,.inl ⟨hkind n (List.mem_of_getElem? hn),_,xns,?_⟩,r.more xkeep hXnew⟩
        show (pn.zip (vals++ex)).reverse.lookup n=some v
        refine lookup_of_nodup ?_ (List.mem_reverse.mpr (List.mem_of_getElem? hz))
        rw [List.map_reverse]
        exact List.pairwise_reverse.mpr (List.Pairwise.imp (fun h=>Ne.symm h) hnn)
  have e₁:Ext C (doms μ) s { s with heap:=h₁,toks:=s.toks+(pn.zip (vals++ex)).length }:=.up xkeep
  refine ks_wpAt_mono (h _ X L R.deeper (fun a ha=>⟨(hmX a ha).1,hdl a ha,(hmX a ha).2⟩) _ st) (fun fl s' q=>?_) fun _ _ e=>e.elim
  obtain ⟨e,r,m⟩:=q
  have e':Ext C (L::doms μ) s s':=(e₁.wider fun b hb=>.inl (.tail _ hb)).trans e
  exact ⟨_,rfl,e'.wider (fun b hb=>(List.mem_cons.mp hb).elim (fun q=>.inr (q ▸ hLn)) .inl),r.sub fun a ha=>.tail _ ha,fun p hp=>(m p hp).sub fun a ha=>.tail _ ha⟩
end
end Mine
end
section
open PySem PySem.Calls PySem.W PyProof.Rows PySem.SeqAt Builtin.ObjectAttr
open Sem (wp)
set_option maxHeartbeats 4000000
namespace Mine
structure ClsOk (K:Frag) (c:Addr):Prop where
  ga:∃ id,findIn K (.ref c) "__getattribute__"=some (some (.builtin id))∧Manifest.canonical id="object.__getattribute__"
  gt:findIn K (.ref c) "__getattr__"=some none
structure MethOk (K:Frag) (c:Addr) (name:Str) (f:Addr):Prop where
  fnd:findIn K (.ref c) name=some (some (.ref f))
  ty:typeIn K (.ref f)=some (.type "function")
  keep:keepIn K (.ref f)=true
section
variable {g:G} {ρ:List (Option D)} {μ μ' a b μ₀ μ₁ p q:List (Addr × Mut)} {s s':Shared} {S:List Addr} {Φ:Flow→Shared→Prop} {rest:List Stmt}
theorem EvM.own {o e : Expr} {es : List Expr} {name : Str} {apos pos : Pos} {k : Nat} {f x c : Addr} {m : Mut} {key : Str} {ds : List D} {d : D} {pl : Sem Bool} (a b : List (Addr × Mut)) (R : Room g.A k) (ho : Ev g ρ (a ++ (μ₀ ++ b)) o (.val (.ref x))) (hx : (x, m) ∈ a ++ (μ₀ ++ b)) (hm : m.cls? = some (c, key))
    (O:ClsOk g.C.K c) (F:MethOk g.C.K c name f) (hn:(key == name)=false) (ha:EvL g ρ (a++(μ₀++b)) pos (e::es) ds) (hc:FnM g.C k (.ref f) (.val (.ref x)::ds) μ₀ d μ₁) (hd:doms μ₁=doms μ₀)
    (hbase:attributeBase o name g.env (eval o g.env)=eval o g.env:=by rfl)
    (heq:eval (.Call (.Attribute o name apos) (e::es) [] pos) g.env=(do
      let ov ← attributeBase o name g.env (eval o g.env)
      standAt apos.atName
      let (f,first) ← holding [ov] (getMethod ov name pl)
      callWith pos f first (backTo pos (starEach (e::es) g.env)) []):=by rfl)
    (he:starEach (e::es) g.env=(false,eval e g.env)::starEach es g.env:=by rfl) (hplain:(backTo pos (starEach es g.env)).any (·.1)=false:=by rfl) :
    EvM g ρ (a++(μ₀++b)) (.Call (.Attribute o name apos) (e::es) [] pos) d (a++(μ₁++b)):=by
  refine ⟨by simp only [doms_app,hd],fun s y=>?_⟩
  refine eval_MethodCall hbase (ho.wp y fun v s₁ x₁ r₁ e₁=>?_) heq
  (first | obtain rfl:=r₁.vI | obtain ⟨_,rfl⟩:=r₁.iI | obtain ⟨_,rfl⟩:=r₁.sI | obtain ⟨_,rfl⟩:=r₁.bI | obtain rfl:=r₁.nI | cases r₁)
  obtain ⟨ox,od,I,hsh⟩:=(x₁.muts _ hx).instAt hm
  obtain ⟨gid,hg1,hg2⟩:=O.ga
  refine method_md x₁.inv.K I hg1 hg2 O.gt F.fnd F.ty (by decide) (hsh _ hn) ?_
  refine callWith_K (h₀:=s₁.heap) x₁.inv.K F.keep ((ha s₁ x₁).use fun vs s₂ e₂ r₂=>⟨(x₁.ext e₂).inv.K,?_⟩) he hplain
  have x₂:=x₁.ext e₂
  refine wpAny_call (codeAny_mono (hc _ _ _ _ R x₂.inv (.cons (.val _) r₂) (fun p hp=>x₂.muts p (List.mem_append_right _ (List.mem_append_left _ hp))) (fun c hc=>?_) ?_) fun r s₃ q=>?_)
  · have:=x₂.mX c (by simp only [doms_app];exact List.mem_append_right _ (List.mem_append_left _ hc))
    exact ⟨this.1,this.2.1⟩
  · have nd:=x₂.apart
    simp only [doms_app,List.nodup_append] at nd
    exact nd.2.1.1
  · obtain ⟨v,rfl,e₃,r₃,m₃⟩:=q
    exact ⟨((e₁.trans e₂).up0).trans e₃.wideD,x₂.called e₃ hd m₃,r₃⟩
theorem EvM.own0 {o : Expr} {name : Str} {apos pos : Pos} {k : Nat} {f x c : Addr} {m : Mut} {key : Str} {d : D} {pl : Sem Bool} (a b : List (Addr × Mut)) (R : Room g.A k) (ho : Ev g ρ (a ++ (μ₀ ++ b)) o (.val (.ref x))) (hx : (x, m) ∈ a ++ (μ₀ ++ b)) (hm : m.cls? = some (c, key))
    (O:ClsOk g.C.K c) (F:MethOk g.C.K c name f) (hn:(key == name)=false) (hc:FnM g.C k (.ref f) [.val (.ref x)] μ₀ d μ₁) (hd:doms μ₁=doms μ₀)
    (hbase:attributeBase o name g.env (eval o g.env)=eval o g.env:=by rfl)
    (heq:eval (.Call (.Attribute o name apos) [] [] pos) g.env=(do
      let ov ← attributeBase o name g.env (eval o g.env)
      standAt apos.atName
      let (f,first) ← holding [ov] (getMethod ov name pl)
      callWith pos f first (backTo pos (starEach [] g.env)) []):=by rfl) :
    EvM g ρ (a++(μ₀++b)) (.Call (.Attribute o name apos) [] [] pos) d (a++(μ₁++b)):=by
  refine ⟨by simp only [doms_app,hd],fun s y=>?_⟩
  refine eval_MethodCall hbase (ho.wp y fun v s₁ x₁ r₁ e₁=>?_) heq
  (first | obtain rfl:=r₁.vI | obtain ⟨_,rfl⟩:=r₁.iI | obtain ⟨_,rfl⟩:=r₁.sI | obtain ⟨_,rfl⟩:=r₁.bI | obtain rfl:=r₁.nI | cases r₁)
  obtain ⟨ox,od,I,hsh⟩:=(x₁.muts _ hx).instAt hm
  obtain ⟨gid,hg1,hg2⟩:=O.ga
  refine method_md x₁.inv.K I hg1 hg2 O.gt F.fnd F.ty (by decide) (hsh _ hn) ?_
  refine callWith_K0 x₁.inv.K F.keep ?_
  refine wpAny_call (codeAny_mono (hc _ _ _ _ R x₁.inv (.cons (.val _) .nil) (fun p hp=>x₁.muts p (List.mem_append_right _ (List.mem_append_left _ hp))) (fun c hc=>?_) ?_) fun r s₃ q=>?_)
  · have:=x₁.mX c (by simp only [doms_app];exact List.mem_append_right _ (List.mem_append_left _ hc))
    exact ⟨this.1,this.2.1⟩
  · have nd:=x₁.apart
    simp only [doms_app,List.nodup_append] at nd
    exact nd.2.1.1
  · obtain ⟨v,rfl,e₃,r₃,m₃⟩:=q
    exact ⟨e₁.up0.trans e₃.wideD,x₁.called e₃ hd m₃,r₃⟩
theorem St.reacc {x c dx : Addr} {ds es : List D} {vs : List Value} {n : Nat} {h' : Heap} {tk : Nat} (y : St g ρ (p ++ ((x, .acc c dx ds) :: q)) s) (hs : Heap.SameBut x s.heap h') (ho : h'.get? x = some (accO c dx vs n)) (r : RepL g.X s.heap vs es) :
    Ext g.C (doms (p++((x,.acc c dx ds)::q))) s { s with heap:=h',toks:=tk }∧St g ρ (p++((x,.acc c dx es)::q)) { s with heap:=h',toks:=tk }:=by
  have hxX:=(y.mX x (mem_doms (List.mem_of_getElem? mem_mid))).1
  obtain ⟨_,hne,hsh,t,u,n',hd⟩:=y.muts (x,.acc c dx ds) (List.mem_of_getElem? mem_mid)
  have:=y.setmut (m':=.acc c dx es) (tk:=tk) mem_mid (.head _) rfl hs ⟨⟨vs,n,ho,r.mono fun b o hb z=>⟨hb,(hs.2 b (fun w=>hb (w ▸ hxX))).trans z⟩⟩,hne,hsh,t,u,n',(hs.2 dx hne).trans hd⟩ ⟨_,ho⟩
  rw [set_mid] at this
  exact this
theorem EvM.accAppend {o e : Expr} {apos pos : Pos} {x c dx : Addr} {ds : List D} {d : D} {pl : Sem Bool} (ho : Ev g ρ (p ++ ((x, .acc c dx ds) :: q)) o (.val (.ref x))) (he : Ev g ρ (p ++ ((x, .acc c dx ds) :: q)) e d) (hz : ds.length < 1000)
    (O:ClsOk g.C.K c) (hf:findIn g.C.K (.ref c) "append"=some (some (.builtin "list.append"))) (hi:mroIn g.C.K c (.type "list")=some true)
    (hbase:attributeBase o "append" g.env (eval o g.env)=eval o g.env:=by rfl)
    (heq:eval (.Call (.Attribute o "append" apos) [e] [] pos) g.env=(do
      let ov ← attributeBase o "append" g.env (eval o g.env)
      standAt apos.atName
      let (f,first) ← holding [ov] (getMethod ov "append" pl)
      callWith pos f first (backTo pos (starEach [e] g.env)) []):=by rfl)
    (hst:starEach [e] g.env=(false,eval e g.env)::starEach [] g.env:=by rfl) :
    EvM g ρ (p++((x,.acc c dx ds)::q)) (.Call (.Attribute o "append" apos) [e] [] pos) D.nil (p++((x,.acc c dx (ds++[d]))::q)):=by
  refine ⟨(dom_mid (m:=.acc c dx ds) (m':=.acc c dx (ds++[d])) rfl),fun s y=>?_⟩
  refine eval_MethodCall hbase (ho.wp y fun v s₁ x₁ r₁ e₁=>?_) heq
  (first | obtain rfl:=r₁.vI | obtain ⟨_,rfl⟩:=r₁.iI | obtain ⟨_,rfl⟩:=r₁.sI | obtain ⟨_,rfl⟩:=r₁.bI | obtain rfl:=r₁.nI | cases r₁)
  have hmem:(x,Mut.acc c dx ds)∈p++((x,.acc c dx ds)::q):=List.mem_of_getElem? mem_mid
  obtain ⟨ox,od,I,hsh⟩:=(x₁.muts _ hmem).instAt rfl
  obtain ⟨gid,hg1,hg2⟩:=O.ga
  refine method_md x₁.inv.K I hg1 hg2 O.gt hf (T:=.type "method_descriptor") (by rfl) (by decide) (hsh _ (by decide)) ?_
  refine callWith_B rfl ?_ hst
  refine ((EvL.cons he EvL.nil hst) s₁ x₁).use fun ws s₂ e₂ r₂=>?_
  obtain ⟨w,rfl,rw'⟩:=r₂.one
  have x₂:=x₁.ext e₂
  obtain ⟨ox,od,I,_⟩:=(x₂.muts _ hmem).instAt rfl
  obtain ⟨⟨vs,n,ho,r⟩,_⟩:=x₂.muts _ hmem
  have hl:=r.length
  refine call_derived x₂.inv.K I (by decide +kernel) F.entry_list_append (owner:="list") (n:="append") (.inl (by decide +kernel)) (by decide +kernel) hi (F.args_list_append_2 _ _) ?_
  unfold Builtin.«list.append»
  refine wpAny_bind (wpAny_pure (wpAny_bind ?_))
  show wpAny _ _ (updateSeq x _) _ _ _
  refine acc_update (ws:=vs++[w]) ho (by simp) (by lia) (by simp;lia) fun h' ⟨n',hp⟩ hs=>?_
  obtain ⟨e₃,x₃⟩:=x₂.reacc (tk:=s₂.toks) hs hp (r.snoc rw')
  exact wpAny_pure ⟨((e₁.trans e₂).up0).trans e₃,x₃,.val _⟩
end
end Mine
end
section
open PySem PySem.Calls PySem.W PyProof.Rows PySem.SeqAt Builtin.ObjectAttr
open Sem (wp)
set_option maxHeartbeats 4000000
namespace Mine
structure SuperOk (C:Cx) (env:Env) (f c:Addr) (name:Str) (id n T kind:String):Prop where
  ks:env.kindOf "super"=some .globalImplicit
  kc:env.kindOf "__class__"=some .free
  kself:env.kindOf "self"=some .local
  fu:env.func=some f
  hf:∃ oc od fd osl,C.K.lookup f=some ⟨oc,od,.func fd,osl⟩∧∃ ar,(fd.params.posonlyargs++fd.params.args).head?=some ar∧ar.arg="self"
  code:∃ cda oc od vs osl file tf,env.code=.ref cda∧C.K.lookup cda=some ⟨oc,od,.fields vs,osl⟩∧vs[2]?=some (.str file tf)∧((C.prog.main.file:Str) == file)=true
  top:(C.prog.main.scope.names.lookup ("super":Str)).isSome=false
  cell:∃ cc oc od osl,env.cells.lookup ("__class__":Str)=some cc∧C.K.lookup cc=some ⟨oc,od,.cell (some (.ref c)),osl⟩
  glob:nsIn C.K mainGlobals "super"=some none
  third:nsIn C.K cStatics "thirdparty.any"=some none
  cls:∃ cd,clsIn C.K c=some cd∧alongIn C.K name ((cd.mro.dropWhile (· != .ref c)).drop 1)=some (some (.builtin id))
  self:mroIn C.K c (.ref c)=some true
  lst:mroIn C.K c (.type "list")=some true
  ds:Descr id n T kind
  hT:(T="method_descriptor"∧kind="builtin_function_or_method")∨(T="wrapper_descriptor"∧kind="method-wrapper")
  hn:(name == ("__class__":Str))=false
section
variable {g:G} {ρ:List (Option D)} {μ μ' a b μ₀ μ₁ p q:List (Addr × Mut)} {s s':Shared}
theorem super_run {body : List Stmt} {f c dx x : Addr} {name : Str} {id n T kind : String} {p0 p1 apos pos : Pos} {i : Nat} {ds : List D} {B : Builtin} {Q : Value → Shared → Prop} {pl : Sem Bool} (V : SuperOk g.C g.env f c name id n T kind) (y : St g ρ μ s)
    (h1:g.ns[i]?=some "self") (h2:ρ[i]?=some (some (.val (.ref x)))) (hx:(x,.acc c dx ds)∈μ) (hp:plainId id=true) (hb:entryFor table id=some B)
    (hc:∀ (s:Shared) (A:Around) (Q:Unit→Shared→Prop) (E:Value→Shared→Prop) ox od,g.C.K.In s.heap→InstAt s.heap x ox c (some od)→Q () s→wpAny g.C.M A (checkBoundCall id ⟨[.ref x],[]⟩) Q E s)
    (h:∀ s',Ext g.C [] s s'→St g ρ μ s'→wpAny g.C.M g.A.in1 (B ⟨[.ref x],[]⟩) (fun fin s''=>match fin with | .done (.ret v)=>Q v s'' | _=>False) NoE s')
    (heq:eval (.Call (.Attribute (.Call (.Name "super" p0) [] [] p1) name apos) [] [] pos) g.env=(do
      let ov ← attributeBase (.Call (.Name "super" p0) [] [] p1) name g.env (eval (.Call (.Name "super" p0) [] [] p1) g.env)
      standAt apos.atName
      let (f,first) ← holding [ov] (getMethod ov name pl)
      callWith pos f first (backTo pos (starEach [] g.env)) []):=by rfl) :
    _root_.PySem.wpAt g.C.M g.A (.func body g.env) (eval (.Call (.Attribute (.Call (.Name "super" p0) [] [] p1) name apos) [] [] pos) g.env) Q NoE s:=by
  obtain ⟨oc,od,fd,osl,hf,ar,har,hself⟩:=V.hf
  obtain ⟨cda,occ,odc,vs,osc,file,tf,hcode,hcda,hvs,hfile⟩:=V.code
  obtain ⟨cc,oce,ode,ose,hcl,hcc⟩:=V.cell
  obtain ⟨cd,hcd,hal⟩:=V.cls
  obtain ⟨oD,hD1,hD2⟩:∃ oD,s.heap.get? c=some oD∧oD.data=.cls cd:=by
    unfold clsIn at hcd
    split at hcd
    · rename_i c d cd' sl ho
      cases hcd
      exact ⟨_,y.inv.K _ _ ho,rfl⟩
    · cases hcd
  obtain ⟨ox,ood,I,hsh⟩:=(y.muts _ hx).instAt rfl
  obtain ⟨v,bd,r⟩:=y.vars i _ _ h1 h2
  (first | obtain rfl:=r.vI | obtain ⟨_,rfl⟩:=r.iI | obtain ⟨_,rfl⟩:=r.sI | obtain ⟨_,rfl⟩:=r.bI | obtain rfl:=r.nI | cases r)
  obtain ⟨hv1,m,hm,hv2⟩:g.env.kindOf "self"=some .local∧∃ m,s.heap.Ns g.env.locals m∧m "self"=some (.ref x):=by
    rcases bd with q | ⟨q,_⟩
    · exact q
    · rw [V.kself] at q;rcases q with q | q <;> (first | obtain rfl:=q.vI | obtain ⟨_,rfl⟩:=q.iI | obtain ⟨_,rfl⟩:=q.sI | obtain ⟨_,rfl⟩:=q.bI | obtain rfl:=q.nI | cases q)
  have hxc:x≠c:=ks_ne y.inv.K I hcd
  refine ks_wpAt_MethodCall (pl:=pl) ?_ heq
  refine ks_wpAt_super_base V.ks V.kc V.hn V.fu (y.inv.K _ _ hf) rfl har hcode (y.inv.K _ _ hcda) rfl hvs hfile V.top ?_
  refine ks_loadName_global y.envOk.kind V.ks (loadGlobal_builtin (by rw [y.envOk.glob];exact y.mg) (mg_none_of y.inv.K y.mg V.glob) (by rw [y.envOk.bi];exact y.mb) ((y.inv.base.bi _ (by decide)).trans (by rfl)) ⟨rfl,?_⟩)
  refine wpAny_loadName_free y.envOk.kind V.kc hcl ⟨_,y.inv.K _ _ hcc,rfl⟩ ?_
  rw [hself]
  refine wpAny_loadName_local y.envOk.kind hv1 hm hv2 ?_
  obtain ⟨hh,gs,d,t,os⟩:=s
  refine ks_wpAny_isType_cls hD1 hD2 ⟨rfl,?_⟩
  refine ks_wpAny_call_super hD1 hD2 I.at_ I.cls (fun c e=>?_) (looks_mroIn y.inv.K V.self) (fun h' e k=>?_)
  · have:=I.no
    unfold notCls at this
    rw [e] at this
    exact Bool.noConfusion this
  have e₁:Ext g.C [] ⟨hh,gs,d,t,os⟩ ⟨h',gs,d,t,os⟩:=.of_keeps k rfl rfl
  have y₁:=y.ext e₁
  have X₁:=y₁.inv.K
  obtain ⟨ox,ood,I₁,_⟩:=(y₁.muts _ hx).instAt rfl
  refine super_method (l₀:=cd.mro) V.ds (V.hT.elim (fun q=>.inl q.1) fun q=>.inr q.1) e (looks_opaque X₁ V.third) ((looks_clsIn X₁ hcd).andThen .now) rfl X₁ hal (I₁.type.andThen (looks_mroIn X₁ V.lst)) hxc V.hn ?_
  have e₂:Ext g.C [] ⟨h',gs,d,t,os⟩ ⟨h'.push (boundObj kind id x),gs,d,t+1,os⟩:=.push
  have y₂:=y₁.ext e₂
  have hk:kind="builtin_function_or_method"∨kind="method-wrapper":=V.hT.elim (fun q=>.inl q.2) fun q=>.inr q.2
  have hbo:(h'.push (boundObj kind id x)).get? h'.objs.size=some (boundObj kind id x):=Heap.get?_push_size _ rfl
  refine callWith_bound hk hbo (call_bound hk hbo hp hb (fun A Q E hq=>?_) (h _ (e₁.trans e₂) y₂))
  obtain ⟨ox,ood,I₂,_⟩:=(y₂.muts _ hx).instAt rfl
  exact hc _ A Q E _ _ y₂.inv.K I₂ hq
end
end Mine
end
section
open PySem PySem.Calls PySem.W PyProof.Rows PySem.SeqAt Builtin.ObjectAttr
open Sem (wp)
set_option maxHeartbeats 4000000
namespace Mine
section
variable {prog:Program} {w:World} {A:Around} {E:Value→Shared→Prop} {s:Shared} {x c dx:Addr} {vs:List Value} {n:Nat} {v:Value} {Q:Value→Shared→Prop}
theorem run_len (ho : s.heap.get? x = some (accO c dx vs n)) (h : Q (.int vs.length s.toks) { s with toks := s.toks + 1 }) :
    wpAny (model prog w) A (Builtin.«list.__len__» ⟨[.ref x],[]⟩) (fun fin s'=>match fin with | .done (.ret v)=>Q v s' | _=>False) E s:=by
  unfold Builtin.«list.__len__»
  refine wpAny_bind (wpAny_of_eq (a:=(Value.ref x,[])) rfl ?_)
  show wpAny _ _ (seqSize x >>= _) _ _ _
  unfold seqSize
  refine wpAny_bind (wpAny_bind (wpAny_loadPart ho (wpAny_pure ?_)))
  show wpAny _ _ (mkInt _ >>= fun v=>ret v) _ _ _
  refine wpAny_bind (wpAny_mkInt (wpAny_pure ?_))
  simpa using h
theorem run_init (ho : s.heap.get? x = some (accO c dx vs n)) (hz : vs.length ≤ 1000) (h : ∀ h', (∃ n', h'.get? x = some (accO c dx [] n')) → Heap.SameBut x s.heap h' → Q .none { s with heap := h' }) :
    wpAny (model prog w) A (Builtin.«list.__init__» ⟨[.ref x],[]⟩) (fun fin s'=>match fin with | .done (.ret v)=>Q v s' | _=>False) E s:=by
  unfold Builtin.«list.__init__»
  show wpAny _ _ (Builtin.List.listItems (.ref x) >>= _) _ _ _
  refine wpAny_bind (wpAny_listItems ho rfl ?_)
  show wpAny _ _ (updateSeq x _ >>= _) _ _ _
  refine wpAny_bind (acc_update (ws:=[]) ho (by simp) hz (by simp) fun h' hp hs=>?_)
  refine wpAny_bind (wpAny_letGo ?_)
  exact wpAny_pure (h _ hp hs)
theorem run_pop (ho : s.heap.get? x = some (accO c dx (vs ++ [v]) n)) (hz : vs.length ≤ 900) (h : ∀ h', (∃ n', h'.get? x = some (accO c dx vs n')) → Heap.SameBut x s.heap h' → Q v { s with heap := h' }) :
    wpAny (model prog w) A (Builtin.«list.pop» ⟨[.ref x],[]⟩) (fun fin s'=>match fin with | .done (.ret v)=>Q v s' | _=>False) E s:=by
  unfold Builtin.«list.pop»
  refine wpAny_bind (wpAny_of_eq (a:=(Value.ref x,[])) rfl ?_)
  refine wpAny_bind (wpAny_pure ?_)
  show wpAny _ _ (Builtin.List.listItems (.ref x) >>= _) _ _ _
  refine wpAny_bind (wpAny_listItems ho rfl ?_)
  have he:(vs++[v]).toArray.isEmpty=false:=by simp
  rw [he,if_neg (by decide)]
  have hs:seqIndex? (-1) (vs++[v]).toArray.size=some vs.length:=by
    unfold seqIndex?
    simp only [List.size_toArray,List.length_append,List.length_singleton,show ((-1:Int) < 0) from by decide,if_true]
    have h1:(0≤(-1+((vs.length+1:Nat):Int))):=by lia
    have h2:(-1+((vs.length+1:Nat):Int)) < ((vs.length+1:Nat):Int):=by lia
    rw [decide_eq_true h1,decide_eq_true h2]
    simp only [Bool.and_self,if_true]
    congr 1;lia
  have hm:(vs++[v]).toArray[vs.length]?=some v:=by simp
  rw [hs]
  simp only [Option.bind_some,hm,Option.map_some]
  show wpAny _ _ (updateSeq x _ >>= _) _ _ _
  refine wpAny_bind (acc_update (ws:=vs) ho ?_ (by simp;lia) (by lia) fun h' hp hs=>?_)
  · simp [Array.eraseIdxIfInBounds]
    rw [List.eraseIdx_append_of_length_le (Nat.le_refl _)];simp
  exact wpAny_pure (h _ hp hs)
end
end Mine
end
section
open PySem PySem.Calls PySem.W PyProof.Rows PySem.SeqAt Builtin.ObjectAttr
open Sem (wp)
set_option maxHeartbeats 4000000
namespace Mine
noncomputable abbrev D.ss (p:List Nat × List Nat):D:=.tup [.s p.1,.s p.2]
section
variable {prog:Program} {w:World} {A:Around} {E:Value→Shared→Prop} {s:Shared}
noncomputable def RowAt (h:Heap) (x:Addr) (items:Array Value):Prop:=∃ o n,h.get? x=some o∧o.data=.seq items n
theorem next_item {it l : Addr} {i : Nat} {items} {x : Value} {Q : Option Value → Shared → Prop} (hit : s.heap.IsListIter it l i)
    (hl:RowAt s.heap l items) (hx:items[i]?=some x)
    (hQ:∀ h',h'.IsListIter it l (i+1)→Heap.SameBut it s.heap h'→Q (some x) { s with heap:=h' }) :
    wpAny (model prog w) A (pyNext (.ref it)) Q E s:=by
  obtain ⟨o,ho,hc,hd⟩:=id hit
  obtain ⟨ol,nl,hol,hdl⟩:=hl
  unfold pyNext
  refine wpAny_bind (wpAny_attempt (wpAny_callSpecial?_slot (name:=Str.ofString "__next__") hit.typeIs slot_listiter_next
    (wpAny_call_entry slot_listiter_next hit.typeIs entry_listiter_next ?_ (args_listiter_next _))))
  show wpAny _ _ (field (.ref it) 0 >>= _) _ _ s
  refine wpAny_bind (wpAny_field ho hd (x:=.ref l) rfl ?_)
  show wpAny _ _ (if (Value.ref l == Value.none)=true then _ else _) _ _ s
  rw [if_neg (show ¬ ((Value.ref l == Value.none)=true) from Bool.false_ne_true)]
  show wpAny _ _ (field (.ref it) 1 >>= _) _ _ s
  refine wpAny_bind (wpAny_field ho hd (x:=.int i 0) rfl ?_)
  show wpAny _ _ (seqItems? (.ref l) >>= _) _ _ s
  refine wpAny_bind (wpAny_seqItems hol hdl ?_)
  simp only [Int.toNat_natCast,hx]
  refine wpAny_bind (wpAny_setField ho hd (by simp) (wpAny_pure ⟨x,rfl,wpAny_pure (hQ _ ?_ (Heap.SameBut.update ..))⟩))
  exact ⟨_,Heap.get?_update_self _ ho (Obj.isFreed_of_fields (Obj.data_mapFields hd _)),(Obj.cls_mapFields ..).trans hc,by
    rw [Obj.data_mapFields hd];simp [rawInt]⟩
theorem next_end {it l : Addr} {i : Nat} {items} {Q : Option Value → Shared → Prop} (hh : A.handled = none)
    (hit:s.heap.IsListIter it l i) (hl:RowAt s.heap l items) (hx:items[i]?=none)
    (hQ:∀ h',Heap.ExtBut it s.heap h'→Q none { s with heap:=h' }):wpAny (model prog w) A (pyNext (.ref it)) Q E s:=by
  obtain ⟨o,ho,hc,hd⟩:=id hit
  obtain ⟨ol,nl,hol,hdl⟩:=hl
  unfold pyNext
  refine wpAny_bind (wpAny_attempt (wpAny_callSpecial?_slot (name:=Str.ofString "__next__") hit.typeIs slot_listiter_next
    (wpAny_call_entry slot_listiter_next hit.typeIs entry_listiter_next ?_ (args_listiter_next _))))
  show wpAny _ _ (field (.ref it) 0 >>= _) _ _ s
  refine wpAny_bind (wpAny_field ho hd (x:=.ref l) rfl ?_)
  show wpAny _ _ (if (Value.ref l == Value.none)=true then _ else _) _ _ s
  rw [if_neg (show ¬ ((Value.ref l == Value.none)=true) from Bool.false_ne_true)]
  show wpAny _ _ (field (.ref it) 1 >>= _) _ _ s
  refine wpAny_bind (wpAny_field ho hd (x:=.int i 0) rfl ?_)
  show wpAny _ _ (seqItems? (.ref l) >>= _) _ _ s
  refine wpAny_bind (wpAny_seqItems hol hdl ?_)
  simp only [Int.toNat_natCast,hx]
  refine wpAny_bind (wpAny_rule (wpAny_bind (wpAny_setField ho hd (by simp) ?_)))
  show wpAny _ _ (newExc (.type "StopIteration") [] >>= _) _ _ _
  refine wpAny_bind ?_
  simp only [newExc,newTuple]
  refine wpAny_bind (wpAny_newObj_type ?_ (by size_fits))
  refine wpAny_bind (m:=firstArgMember _ _) (wpAny_of_eq (a:=Value.none) (by first | rfl | (simp only [firstArgMember];rfl)) ?_)
  refine wpAny_newObj_type ?_ (by size_fits)
  simp only [raiseNew]
  refine wpAny_bind (wpAny_handled ?_)
  rw [show A.in1.handled=none from hh]
  refine wpAny_bind (wpAny_pure (wpAny_throw ?_))
  refine wpAny_bind (wpAny_isInstance (T:="StopIteration") (b:=true) ⟨_,Heap.get?_push_size _ rfl,rfl⟩ isSubtype_stop ?_)
  exact wpAny_pure (hQ _ (((Heap.SameBut.update ..).extBut.push _).push _))
end
noncomputable def refsOf (vs:List Value):List Addr:=vs.filterMap fun | .ref a=>some a | _=>none
noncomputable def PairAt (xs:List (List Nat × List Nat)) (i:Nat) (vals:Array Value):Prop:=∃ p ta tb,xs[i]?=some p∧vals=#[.str (sl p.1) ta,.str (sl p.2) tb]
noncomputable def AccIter (I x:Addr) (vs:List Value) (xs:List (List Nat × List Nat)) (i:Nat) (h:Heap):Prop :=
  h.IsListIter I x i∧RowAt h x vs.toArray∧∀ k p,xs[k]?=some p→∃ T vals,vs[k]?=some (.ref T)∧T≠I∧PairAt xs k vals∧h.IsTuple T vals
theorem AccIter.keeps {I x:Addr} {vs:List Value} {xs:List (List Nat × List Nat)} {i:Nat} {h h':Heap} (a:AccIter I x vs xs i h) (hk:∀ b∈I::x::refsOf vs,∀ o,h.get? b=some o→h'.get? b=some o):AccIter I x vs xs i h':=by
  obtain ⟨a1,⟨o,n,a2,a3⟩,a4⟩:=a
  refine ⟨a1.at fun o e=>hk I (.head _) o e,⟨o,n,hk x (.tail _ (.head _)) o a2,a3⟩,fun k p hp=>?_⟩
  obtain ⟨T,vals,h1,h2,h3,⟨o,h4,h5⟩⟩:=a4 k p hp
  exact ⟨T,vals,h1,h2,h3,o,hk T (.tail _ (.tail _ (List.mem_filterMap.mpr ⟨_,List.mem_of_getElem? h1,rfl⟩))) o h4,h5⟩
theorem WalksU.acc {prog : Program} {w : World} {A : Around} (hh : A.handled = none) (I x : Addr) (hne : x ≠ I) (vs : List Value) (xs : List (List Nat × List Nat)) (hl : vs.length = xs.length) :
    WalksU prog w A I (I::x::refsOf vs) [I] xs.length (PairAt xs) (AccIter I x vs xs) (fun i T h=>AccIter I x vs xs (i+1) h∧T≠I) where
  sub:=fun b hb=>by rw [List.mem_singleton.mp hb];exact .head _
  frame:=fun _ _ _ st hk=>st.keeps hk
  item:=fun i s Q E hi st hQ=>by
    obtain ⟨a1,a2,a4⟩:=st
    obtain ⟨T,vals,h1,h2,h3,h4⟩:=a4 i xs[i] (List.getElem?_eq_getElem hi)
    have hsz:vs.toArray[i]?=some (.ref T):=by simpa using h1
    refine next_item a1 a2 hsz fun h' hit' hs'=>?_
    have up:∀ b o,b≠I→s.heap.get? b=some o→h'.get? b=some o:=fun b o hb e=>(hs'.2 b hb).trans e
    have hT:h'.IsTuple T vals:=let ⟨o,e,r⟩:=h4;⟨o,up T o h2 e,r⟩
    refine hQ T vals h' s.toks h3 hT ⟨⟨hit',?_,fun k p hp=>?_⟩,h2⟩ fun b o hb e=>up b o (fun z=>hb (by simp [z])) e
    · obtain ⟨o,n,e,r⟩:=a2;exact ⟨o,n,up x o hne e,r⟩
    · obtain ⟨T,vals,h1,h2,h3,⟨o,e,r⟩⟩:=a4 k p hp
      exact ⟨T,vals,h1,h2,h3,o,up T o h2 e,r⟩
  go:=fun elts k pos i T s Q E mid hQ=>by
    obtain ⟨o,ho,hc,_⟩:=mid.1.1
    exact letOwned_skip ho hc (by decide) (hQ s.heap mid.1 fun _ _ _ e=>e)
  apart:=fun i T h mid hb=>mid.2 (List.mem_singleton.mp hb)
  done:=fun s Q E st hQ=>next_end hh st.1 st.2.1 (by simp [hl]) fun h' he'=>hQ h' s.toks fun b o hb e=>he' b o (fun h=>hb (by simp [h])) e
  self:=fun _ _ _ _ st hQ=>wpAny_pyIter_listiter st.1 hQ
end Mine
end
section
open PySem PySem.Calls PySem.W PyProof.Rows PySem.SeqAt Builtin.ObjectAttr
open Sem (wp)
set_option maxHeartbeats 4000000
namespace Mine
theorem IsCode.swap {h h':Heap} {c c₁ p:Addr} {ps ps':Array Value} (a:h.IsCode c₁ p ps) (b:h'.IsCode c p ps') (hk:∀ o,h.get? c₁=some o→h'.get? c₁=some o):h'.IsCode c₁ p ps':=by
  obtain ⟨o,vs,file,tf,flags,tg,inF,text,tt,op,ho,hd,h11,h2,h7,h9,h10,hop,hpd,htr,hne⟩:=a
  obtain ⟨o',vs',file',tf',flags',tg',inF',text',tt',op',ho',hd',h11',h2',h7',h9',h10',hop',hpd',htr',hne'⟩:=b
  exact ⟨o,vs,file,tf,flags,tg,inF,text,tt,op',hk o ho,hd,h11,h2,h7,h9,h10,hop',hpd',htr',hne⟩
structure CodeOk (C:Cx) (c p:Addr):Prop where
  mem:p∈C.P
  rec_:∃ oc od osl vs file tf flags tg inF text tt,C.K.lookup c=some ⟨oc,od,.fields vs,osl⟩∧oc=.type "code"∧vs[11]?=some (.ref p)∧vs.getD 18 .none=.str file tf∧vs.getD 7 .none=.int flags tg∧vs.getD 9 .none=.bool inF∧vs.getD 10 .none=.int text tt
section
variable {g:G} {ρ:List (Option D)} {μ:List (Addr × Mut)} {s:Shared}
theorem genCode {c p : Addr} {pos : Pos} {q : Str} {scope : Scope} {Q : Value → Shared → Prop} {E : Value → Shared → Prop} (y : St g ρ μ s) (hc : g.env.code = .ref c) (K : CodeOk g.C c p)
    (h:∀ v s',Ext g.C [] s s'→s'.gens=s.gens→Q v s'):wpAny g.C.M g.A (genexprCode g.env pos q scope) Q E s:=by
  obtain ⟨oc,od,osl,vs,file,tf,flags,tg,inF,text,tt,hl,rfl,h11,h2,h7,h9,h10⟩:=K.rec_
  have I:=y.inv
  have hcP:c∉g.C.P:=I.base.KP c _ hl
  have hcp:c≠p:=fun e=>hcP (e ▸ K.mem)
  have ho:=I.K _ _ hl
  obtain ⟨c₁,ps₀,more,hc₁,t0,t1,i1⟩:=I.tab p K.mem
  have h11':vs.getD 11 .none=.ref p:=by
    simp only [Array.getD_eq_getD_getElem?,h11];rfl
  obtain ⟨_,op⟩:=t1
  have htr:TriplesOk (ps₀++more).toList:=by
    obtain ⟨o',vs',file',tf',flags',tg',inF',text',tt',op',ho',hd',h11',h2',h7',h9',h10',hop',hpd',htr',hne'⟩:=i1
    rw [op] at hop';cases hop';cases hpd';exact htr'
  have ic:s.heap.IsCode c p (ps₀++more):=⟨_,vs,file,tf,flags,tg,inF,text,tt,_,ho,rfl,h11',h2,h7,h9,h10,op,rfl,htr,hcp⟩
  have tc:s.heap.TableAt c p (ps₀++more):=⟨⟨_,vs,ho,rfl,rfl,h11⟩,op⟩
  cases hf:codeAmong pos (ps₀++more).toList with
  | some c'=>exact wpAny_genexprCode_hit hc ic hf (h _ _ (.refl ..) rfl)
  | none =>
    refine wpAny_genexprCodeX hc ic tc hf fun c' h' tk hx hle hlt ic' hr tc' _=>h _ _ ⟨fun b o _ hb e=>hx b o (fun z=>hb (z ▸ K.mem)) e,fun b o e=>?_,fun t q hq=>?_,rfl,fun g=>g⟩ rfl
    · by_cases hb:b=p
      · subst hb;exact ⟨_,tc'.2⟩
      · exact ⟨o,hx b o hb e⟩
    · obtain ⟨c₂,qs₀,more₂,hc₂,u0,u1,u2⟩:=t q hq
      have hc₂p:c₂≠p:=fun e=>hc₂ (e ▸ K.mem)
      by_cases hqp:q=p
      · subst hqp
        have e:=u1.2
        rw [op] at e
        have e':ps₀++more=qs₀++more₂:=by injection e with e;injection e with _ _ e _;injection e
        refine ⟨c₂,qs₀,more₂++#[rawInt pos.line,rawInt pos.col,.ref c'],hc₂,u0,?_,?_⟩
        · obtain ⟨⟨o,vs,a,b⟩,_⟩:=u1
          refine ⟨⟨o,vs,hx _ _ hc₂p a,b⟩,?_⟩
          rw [← Array.append_assoc,← e']
          exact tc'.2
        · rw [← Array.append_assoc,← e']
          exact IsCode.swap u2 ic' fun o e=>hx _ _ hc₂p e
      · exact ⟨c₂,qs₀,more₂,hc₂,u0,u1.extBut hx hc₂p hqp,u2.extBut hx hc₂p hqp⟩
end
end Mine
end
section
open PySem PySem.Calls PySem.W PyProof.Rows PySem.SeqAt Builtin.ObjectAttr
open Sem (wp)
set_option maxHeartbeats 4000000
namespace Mine
theorem special_bi {M : Model} {A : Around} {E : Value → Shared → Prop} {s : Shared} {K : Frag} {x C : Addr} {ox : Obj} {od : Option Obj} {name : Str} {id : String} {args : List Value} {Q : Option Value → Shared → Prop} (X : K.In s.heap) (I : InstAt s.heap x ox C od)
    (hs:findIn K (.ref C) name=some (some (.builtin id))) (hb:∀ self,bindSpecial (.builtin id) self=pure (.builtin id,[self])) (h:wpAny M A (call (.builtin id) (.ref x::args)) (fun v=>Q (some v)) E s) :
    wpAny M A (callSpecial? (.ref x) name args) Q E s:=by
  unfold callSpecial? specialOf
  refine wpAny_bind (wpAny_bind (I.type.here ((looks_findIn X hs).here ?_)))
  refine wpAny_holding ?_
  rw [hb]
  exact wpAny_bind (wpAny_pure (wpAny_bind (wpAny_mono h (fun _ _ z=>wpAny_pure z) fun _ _ z=>z)))
theorem pyIter_acc {prog : Program} {w : World} {A : Around} {E : Value → Shared → Prop} {s : Shared} {K : Frag} {x C : Addr} {ox : Obj} {od : Option Obj} {Q : Value → Shared → Prop} (X : K.In s.heap) (I : InstAt s.heap x ox C od)
    (hs:findIn K (.ref C) "__iter__"=some (some (.builtin "list.__iter__"))) (hi:mroIn K C (.type "list")=some true)
    (h:Q (.ref s.heap.objs.size) { s with heap:=s.heap.push { cls:=.type "list_iterator",data:=.fields #[.ref x,.int 0 0] } }):wpAny (model prog w) A (pyIter (.ref x)) Q E s:=by
  unfold pyIter specialOf
  refine wpAny_bind (wpAny_bind (I.type.here ((looks_findIn X hs).here ?_)))
  dsimp only
  unfold callSpecialIfBoundUnlessNone? bindSpecialIfBound? specialOf
  refine wpAny_bind (wpAny_holding (wpAny_bind (wpAny_bind (wpAny_bind (I.type.here ((looks_findIn X hs).here ?_))))))
  simp only [slot_list_iter.bind]
  refine wpAny_bind (wpAny_askSetting (wpAny_ite ?_))
  have run:wpAny (model prog w) A (call (.builtin "list.__iter__") [.ref x]) (fun it s'=>it=.ref s.heap.objs.size∧s'={ s with heap:=s.heap.push { cls:=.type "list_iterator",data:=.fields #[.ref x,.int 0 0] } }) E s:=by
    refine call_derived X I (by decide +kernel) entry_list_iter (owner:="list") (n:="__iter__") (.inr (by decide +kernel)) (by decide +kernel) hi (args_list_iter _) ?_
    show wpAny _ _ (do ret (← newFields "list_iterator" [.ref x,rawInt 0])) _ _ s
    exact wpAny_bind (wpAny_newObj_type (wpAny_pure ⟨rfl,rfl⟩))
  have fin : wpAny (model prog w) A (if (Value.builtin "list.__iter__" == Value.none) = true then ((do rule "iter.none"; raiseError "TypeError" s!"'{← typeNameOf (.ref x)}' object is not iterable") >>= fun v => pure (some v)) else (call (.builtin "list.__iter__") [.ref x] >>= fun v => pure (some v)))
      (fun r s'=>r=some (.ref s.heap.objs.size)∧s'={ s with heap:=s.heap.push { cls:=.type "list_iterator",data:=.fields #[.ref x,.int 0 0] } }) E s:=by
    rw [if_neg (by decide)]
    exact wpAny_bind (wpAny_mono run (fun v s' h'=>wpAny_pure ⟨by rw [h'.1],h'.2⟩) fun _ _ h'=>h')
  have last : ∀ (r : Option Value) (s' : Shared), (r = some (.ref s.heap.objs.size) ∧ s' = { s with heap := s.heap.push { cls := .type "list_iterator", data := .fields #[.ref x, .int 0 0] } }) → wpAny (model prog w) A (match r with
      | some it=>do match ← specialOf it "__next__" with
        | none=>rule "iter.non-iterator";raiseError "TypeError" s!"iter() returned non-iterator of type '{← typeNameOf it}'"
        | some _=>pure it
      | none=>do match ← bindSpecialIfBound? (.ref x) "__getitem__" with
        | none=>rule "iter.not-iterable";raiseError "TypeError" s!"'{← typeNameOf (.ref x)}' object is not iterable"
        | some _=>rule "iter.getitem-fallback";newFields "iterator" [.ref x,← mkInt 0]) Q E s':=by
    rintro r s' ⟨rfl,rfl⟩
    exact wpAny_bind (wpAny_specialOf (T:="list_iterator") ⟨_,Heap.get?_push_size _ rfl,rfl⟩ slot_listiter_next.lookup (wpAny_pure h))
  split
  · exact wpAny_bind (wpAny_pure (wpAny_pure (wpAny_mono fin (fun r s' q=>last r s' q) fun _ _ e=>e)))
  · exact wpAny_tryCatch (wpAny_bind (wpAny_pure (wpAny_pure (wpAny_mono fin (fun r s' q=>last r s' q) fun _ _ e=>e))))
end Mine
end
section
open PySem PySem.Calls PySem.W PyProof.Rows PySem.SeqAt Builtin.ObjectAttr
open Sem (wp)
set_option maxHeartbeats 4000000
namespace Mine
theorem passing_all (n:Nat):passing (fun _=>true) n 0=List.range n:=by
  unfold passing
  rw [List.drop_zero]
  exact List.filter_eq_self.mpr fun _ _=>rfl
theorem Ext.moved {C:Cx} {S wr:List Addr} {s₀ s s':Shared} {k:Nat} (e:Ext C S s₀ s) (m:Moved wr (GenOnlyQ k) s s') (hn:∀ b∈wr,s₀.heap.get? b=none) (hP:∀ b∈wr,C.hb.get? b=none):Ext C S s₀ s':=by
  have z:Ext C S s₀ { s with heap:=s'.heap,toks:=s.toks }:=e.iter m.heap hn hP
  exact ⟨z.keep,z.occ,z.tab,m.os.trans e.os,fun a=>m.gens.bare (e.gens a)⟩
section
variable {g:G} {ρ:List (Option D)} {μ:List (Addr × Mut)} {s:Shared}
structure AccOk (K:Frag) (c:Addr):Prop where
  ok:ClsOk K c
  lst:mroIn K c (.type "list")=some true
  iter:findIn K (.ref c) "__iter__"=some (some (.builtin "list.__iter__"))
theorem gen_acc {c p c₀ dx x : Addr} {xs : List (List Nat × List Nat)} {elt : Expr} {xa xb : Str} {pa pb pt ps pos : Pos} {kt i : Nat} {scope : Scope} {Q : Value → Shared → Prop} (F : (List Nat × List Nat) → Value → Prop)
    (R:Room g.A 0) (y:St g ρ μ s) (hc:g.env.code=.ref c) (K:CodeOk g.C c p) (O:AccOk g.C.K c₀) (hx:(x,.acc c₀ dx (xs.map D.ss))∈μ) (h1:g.ns[i]?=some "self") (h2:ρ[i]?=some (some (.val (.ref x))))
    (hbm:∃ a o,BMod g.C.hb mainGlobals g.C.mg a o∧a∉g.C.P)
    (hco:scope.isCoroutine=false) (hkind:scope.kind=.function) (hclos:closureFor scope g.env=pure []) (hcell:∀ y∈scope.names,y.2≠.cell) (h0:scope.names.lookup (".0":Str)=some NameKind.local)
    (hxa:scope.names.lookup xa=some .local) (hxb:scope.names.lookup xb=some .local) (hab:xa≠xb)
    (helt:∀ (cenv:Env),cenv.scope=scope→cenv.globals=mainGlobals→cenv.builtins=builtinsNs→∀ (A':Around) (E':Value→Shared→Prop) p ta tb (s₂:Shared) m₂,p∈xs→s₂.heap.Ns cenv.locals m₂→m₂ xa=some (.str (sl p.1) ta)→m₂ xb=some (.str (sl p.2) tb) →
      s₂.heap.Ns mainGlobals g.C.mg→s₂.heap.Ns builtinsNs g.C.mb→wpAny g.C.M A' (eval elt cenv) (fun y s₃=>F p y∧Keeps s₂ s₃) E' s₂)
    (cont:∀ a s₅ fp wr k (P':Nat→Value→Prop) St',(∀ j y,P' j y→∃ p,xs[j]?=some p∧F p y)→WalksS g.C.prog g.C.w g.A.in4 a fp wr (GenOnlyQ k) xs.length P' St'→(∀ j s,St' j s→s.TypeIs (.ref a) "generator")→St' 0 s₅→(∀ b∈fp,b < s₅.heap.objs.size)→a∈fp→Ext g.C [] s s₅ →
      (∀ s₆ s',Ext g.C [] s s₆→Moved wr (GenOnlyQ k) s₆ s'→Ext g.C [] s s')→Q (.ref a) s₅) :
    wpAny g.C.M g.A (eval (.GeneratorExp elt [⟨.Tuple [.Name xa pa,.Name xb pb] kt pt,.Name "self" ps,[],0⟩] scope pos) g.env) Q NoE s:=by
  have hh:=R.h
  refine wpAny_GeneratorExp_walksQT hh hco hclos hcell h0 hxa hxb hab hkind (R.depth (k:=0)) ?_ (fun _=>rfl)
  refine (Ev.name i h1 h2).wp y fun v s₁ y₁ r₁ e₁=>?_
  (first | obtain rfl:=r₁.vI | obtain ⟨_,rfl⟩:=r₁.iI | obtain ⟨_,rfl⟩:=r₁.sI | obtain ⟨_,rfl⟩:=r₁.bI | obtain rfl:=r₁.nI | cases r₁)
  obtain ⟨ox,od,I,_⟩:=(y₁.muts _ hx).instAt rfl
  refine pyIter_acc y₁.inv.K I O.iter O.lst ?_
  have e₂:Ext g.C [] s₁ { s₁ with heap:=s₁.heap.push { cls:=.type "list_iterator",data:=.fields #[.ref x,.int 0 0] } }:=.push'
  have y₂:=y₁.ext e₂
  refine ⟨y₂.inv.lim,?_⟩
  refine genCode y₂ hc K fun code s₃ e₃ g₃=>?_
  have y₃:=y₂.ext e₃
  obtain ⟨bm,ob,BM,hbP⟩:=hbm
  refine wpAny_builtinsFor (bm:=bm) (o:=ob) (by rw [y₃.envOk.glob];exact y₃.mg) BM.name BM.ne (y₃.inv.keep _ _ hbP BM.obj) BM.cls BM.dict BM.data ?_
  generalize hI:s₁.heap.objs.size=It at *
  have hIn:s.heap.get? It=none:=e₁.none_back (none_of_ge (by lia))
  have hIh:g.C.hb.get? It=none:=y.inv.hb_none hIn (fun hP=>by obtain ⟨o,q⟩:=y.inv.occ It (y.inv.pin It hP);rw [hIn] at q;(first | obtain rfl:=q.vI | obtain ⟨_,rfl⟩:=q.iI | obtain ⟨_,rfl⟩:=q.sI | obtain ⟨_,rfl⟩:=q.bI | obtain rfl:=q.nI | cases q))
  have hIP:It∉g.C.P:=(y.fresh hIn).2.1
  obtain ⟨⟨vs,n,ho,rl⟩,_⟩:=y₃.muts _ hx
  have hlen:vs.length=xs.length:=by rw [rl.length,List.length_map]
  have hxI:x≠It:=fun e=>by
    have:=(y.mX x (mem_doms hx)).1
    obtain ⟨o,q⟩:=y.inv.occ x this
    rw [e,hIn] at q;(first | obtain rfl:=q.vI | obtain ⟨_,rfl⟩:=q.iI | obtain ⟨_,rfl⟩:=q.sI | obtain ⟨_,rfl⟩:=q.bI | obtain rfl:=q.nI | cases q)
  have hit:s₃.heap.IsListIter It x 0:=⟨_,e₃.keep It _ (fun h=>nomatch h) hIP (by rw [← hI];exact Heap.get?_push_size _ rfl),rfl,rfl⟩
  have st:AccIter It x vs xs 0 s₃.heap:=by
    refine ⟨hit,⟨_,n,ho,rfl⟩,fun k p hp=>?_⟩
    obtain ⟨v,hv,r⟩:=rl.get (k:=k) (d:=D.ss p) (by rw [List.getElem?_map,hp];rfl)
    have hI:=r.tI;clear r;obtain ⟨t,ws,m,hE,ht,hot,rt⟩:=hI;cases hE
    obtain ⟨u,w,rfl,ru,rw'⟩:=rt.two
    cases ru;cases rw'
    refine ⟨t,_,hv,fun e=>?_,⟨p,_,_,hp,rfl⟩,⟨_,hot,rfl,m,rfl⟩⟩
    obtain ⟨o,q,c,_⟩:=hit
    rw [e,q] at hot;cases hot
    exact absurd (Value.type.inj c) (by decide)
  have lt:∀ b o,s₃.heap.get? b=some o→b < s₃.heap.objs.size:=fun b o e=>Heap.lt_size e
  refine ⟨It,It::x::refsOf vs,[It],xs.length,PairAt xs,AccIter It x vs xs,_,fun _=>true,fun j y=>∃ p,xs[j]?=some p∧F p y,by rw [← hI],fun A' hA=>WalksU.acc hA It x hxI vs xs hlen,?_,st,?_,y₃.inv.lim,?_,?_,?_⟩
  · rintro j vals ⟨p,ta,tb,_,rfl⟩;exact ⟨_,_,rfl⟩
  · intro b hb
    rcases List.mem_cons.mp hb with rfl | hb
    · obtain ⟨o,q,_⟩:=hit;exact lt _ _ q
    rcases List.mem_cons.mp hb with rfl | hb
    · exact lt _ _ ho
    · obtain ⟨v,hv,hb⟩:=List.mem_filterMap.mp hb
      cases v <;> cases hb
      obtain ⟨k,hk⟩:=List.mem_iff_getElem?.mp hv
      obtain ⟨d,hd,r⟩:=rl.get' hk
      rw [List.getElem?_map] at hd
      cases hxk:xs[k]? with
      | none=>rw [hxk] at hd;cases hd
      | some p=>rw [hxk] at hd;cases hd;cases r with | tup _ hot _=>exact lt _ _ hot
  · intro hb
    obtain ⟨mc,⟨o,_,_,q,_⟩,_⟩:=y.inv.lim
    rw [List.mem_singleton.mp hb,hIn] at q
    (first | obtain rfl:=q.vI | obtain ⟨_,rfl⟩:=q.iI | obtain ⟨_,rfl⟩:=q.sI | obtain ⟨_,rfl⟩:=q.bI | obtain rfl:=q.nI | cases q)
  · intro href hk
    refine ⟨fun A' E' j va vb s₂ m₂ hA hP hn ha hb hkp=>?_,fun A' E' j va vb s₂ m₂ hA hP _ hn ha hb hkp=>?_⟩
    · exact wpAny_tests_nil ⟨rfl,_,_,rfl,fun _ _ e=>e⟩
    · obtain ⟨p,ta,tb,hp,hv⟩:=hP
      obtain ⟨rfl,rfl⟩:va=.str (sl p.1) ta∧vb=.str (sl p.2) tb:=by simpa using congrArg Array.toList hv
      have up:∀ b o,b≠It→s₃.heap.get? b=some o→s₂.heap.get? b=some o:=fun b o hb e=>hkp b (List.mem_range.mpr (lt b o e)) (by simpa using hb) o (hk b o e)
      have ns:∀ {b:Addr} {m},s.heap.Ns b m→b≠It:=fun {b m} ⟨o,_,_,q,_⟩ e=>by rw [e,hIn] at q;(first | obtain rfl:=q.vI | obtain ⟨_,rfl⟩:=q.iI | obtain ⟨_,rfl⟩:=q.sI | obtain ⟨_,rfl⟩:=q.bI | obtain rfl:=q.nI | cases q)
      exact wpAny_mono (helt (genEnv scope [] s₃.heap.objs.size code builtinsNs g.env) rfl y.envOk.glob rfl A' E' p ta tb s₂ m₂ (List.mem_of_getElem? hp) hn ha hb (y₃.mg.at' fun o e=>up _ o (ns y.mg) e) (y₃.mb.at' fun o e=>up _ o (ns y.mb) e))
        (fun v s₄ q=>⟨⟨p,hp,q.1⟩,q.2⟩) fun _ _ e=>e
  · intro a h₅ tk gs hgs hlt hsz hk W G
    have e₀₃:Ext g.C [] s s₃:=(e₁.trans e₂).trans e₃
    have hCn:s.heap.get? s₃.heap.objs.size=none:=e₀₃.none_back (none_of_ge (Nat.le_refl _))
    have e₃₅:Ext g.C [] s₃ { s₃ with gens:=s₃.gens.push gs,toks:=tk,heap:=h₅ } :=
      ⟨fun b o _ _ e=>hk b o e,fun b o e=>⟨o,hk b o e⟩,fun t p hp=>(t p hp).keeps hk,rfl,fun z b hb=>by
        rcases Array.mem_push.mp hb with hb | rfl
        · exact z b hb
        · exact hgs⟩
    rw [passing_all,List.length_range] at W
    refine cont a _ _ _ _ _ _ (fun j v q=>?_) W (fun j s st=>st.1.typeIs) G (fun b hb=>?_) (.head _) (e₀₃.trans e₃₅) fun s₆ s' e₆ m=>?_
    · obtain ⟨k,hkj,p,hp,hF⟩:=q
      obtain ⟨hj,rfl⟩:=List.getElem?_eq_some_iff.mp hkj
      rw [List.getElem_range] at hp
      exact ⟨p,hp,hF⟩
    · have hlt':s₃.heap.objs.size < a:=hlt
      have hsz':h₅.objs.size=a+1:=hsz
      show b < h₅.objs.size
      rw [hsz']
      show b < a+1
      rcases List.mem_cons.mp hb with rfl | hb
      · exact Nat.lt_succ_self _
      rcases List.mem_cons.mp hb with rfl | hb
      · exact Nat.lt_succ_of_lt hlt'
      · exact Nat.lt_succ_of_lt (Nat.lt_trans (List.mem_range.mp hb) hlt')
    · have hw:∀ b∈(s₃.heap.objs.size::[It]),s.heap.get? b=none:=fun b hb=>by
        rcases List.mem_cons.mp hb with rfl | hb
        · exact hCn
        · rw [List.mem_singleton.mp hb];exact hIn
      exact Ext.moved e₆ m hw fun b hb=>y.inv.hb_none (hw b hb) (y.fresh (hw b hb)).2.1
end
end Mine
end
section
open PySem PySem.Calls PySem.W PyProof.Rows PySem.SeqAt Builtin.ObjectAttr
open Sem (wp)
set_option maxHeartbeats 4000000
namespace Mine
theorem args_sum2 (a b:Value):argsOk "sum" ⟨[a,b],[]⟩:=by unfold argsOk;kernel_rfl
section
variable {prog:Program} {w:World} {A:Around} {E:Value→Shared→Prop} {s:Shared}
theorem call_sum2 {I : Addr} {fp wr : List Addr} {G : Array GenState → Array GenState → Prop} {n : Nat} {P : Nat → Value → Prop} {St : Nat → Shared → Prop} {val : Nat → Int} {u : Tok} {Q : Value → Shared → Prop}
    (W:WalksS prog w A.in1 I fp wr G n P St) (hst:St 0 s) (hfp:∀ b∈fp,b < s.heap.objs.size) (hval:∀ i v,P i v→∃ t,v=.int (val i) t)
    (hQ:∀ s' t',Moved wr G s s'→Q (.int (preSum val n) t') s'):wpAny (model prog w) A (call (.builtin "sum") [.ref I,.int 0 u]) Q E s:=by
  refine call_function_tree F.kind_sum F.plain_sum F.entry_sum (args_sum2 _ _) ?_
  unfold Builtin.«sum»
  simp only [List.length_cons,List.length_nil]
  rw [if_neg (by decide)]
  refine wpAny_bind (wpAny_of_eq (show Builtin.Builtins.bindParams "sum" ["start"] 0 ⟨[.int 0 u],[]⟩=pure [some (.int 0 u)] from rfl) ?_)
  refine wpAny_bind (W.self 0 s _ _ hst ?_)
  dsimp only
  rw [if_pos (by decide)]
  refine wpAny_bind (wpAny_rule (wpAny_bind (wpAny_mkInt (wpAny_bind (wpAny_pure ?_)))))
  simp only [List.forIn_cons,List.forIn_nil]
  refine wpAny_bind (wpAny_bind (wpAny_bind (wpAny_isInstance (T:="int") (b:=false) (typeIs_int _ _ _) PyProof.Rows.sub_int_str ?_)))
  simp only [Bool.false_eq_true,if_false]
  refine wpAny_pure (wpAny_bind (wpAny_bind (wpAny_isInstance (T:="int") (b:=false) (typeIs_int _ _ _) sub_int_bytes ?_)))
  simp only [Bool.false_eq_true,if_false]
  refine wpAny_pure (wpAny_bind (wpAny_bind (wpAny_isInstance (T:="int") (b:=false) (typeIs_int _ _ _) sub_int_bytearray ?_)))
  simp only [Bool.false_eq_true,if_false]
  refine wpAny_pure (wpAny_pure ?_)
  refine wpAny_bind (wpAny_newObj_type ?_)
  have hSf:s.heap.objs.size∉fp:=fun hm=>Nat.lt_irrefl _ (hfp _ hm)
  refine wpAny_pure ⟨plainId_quiet F.plain_sum_loop _,codeAny_sum_loopAnyS W val hval s.heap.objs.size hSf n 0 _ s.toks 0 0 (.inl rfl) rfl (Nat.zero_le _)
    (W.frame 0 s _ _ hst (by first | exact Nat.le_refl _ | exact Nat.le_succ _ | lia) fun b _ o e=>Heap.get?_push_of_some _ e) (Heap.get?_push_size _ rfl) fun s' t' hm=>?_⟩
  exact hQ s' t' (hm.drop_new (by first | exact Nat.le_refl _ | exact Nat.le_succ _ | lia))
end
theorem preSum_list (l:List Int) (val:Nat→Int) (h:∀ i (hi:i < l.length),val i=l[i]):preSum val l.length=l.sum:=by
  have:∀ k,k≤l.length→preSum val k=(l.take k).sum:=by
    intro k
    induction k with
    | zero=>intro _;rfl
    | succ k ih =>
      intro hk
      have e:preSum val (k+1)=preSum val k+val k:=rfl
      rw [e,ih (by lia),h k (by lia),List.take_succ_eq_append_getElem (by lia),List.sum_append]
      simp
  rw [this _ (Nat.le_refl _),List.take_length]
end Mine
end
section
open PySem PySem.Calls PySem.W PyProof.Rows PySem.SeqAt Builtin.ObjectAttr
open Sem (wp)
set_option maxHeartbeats 4000000
namespace Mine
section
variable {prog:Program} {w:World} {A:Around} {E:Value→Shared→Prop} {s:Shared} {K:Frag} {x C:Addr} {ox:Obj} {od:Option Obj} {name:Str} {expr:Bool} {Q:Value→Shared→Prop}
theorem get_valueL {v : Value} (X : K.In s.heap) (I : InstAt s.heap x ox C od) (hga : findIn K (.ref C) "__getattribute__" = some (some (.builtin "list.__getattribute__"))) (hgt : findIn K (.ref C) "__getattr__" = some none)
    (hf:findObj K C od name=some (.value v)) (hh:handedIn v=true) (hi:mroIn K C (.type "list")=some true) (h:Q v { s with toks:=s.toks+1 }):wpAny (model prog w) A (getAttr (.ref x) name expr) Q E s:=by
  obtain ⟨hp,g,d,t,os⟩:=s
  have L0:=I.type (M:=model prog w)
  have L1:=looks_findIn (M:=model prog w) X hga
  have L2:=looks_findIn (M:=model prog w) X hgt
  have L3:=looks_find (M:=model prog w) X I hf
  unfold getAttr getAttrBy
  refine wpAny_bind (wpAny_mkText (wpAny_holding (wpAny_bind (L0.at (wpAny_bind (L1.at ?_))))))
  show wpAny _ _ (getAttrByItsOwn _ _ _ _ _ _) _ _ _
  unfold getAttrByItsOwn hookBefore callGetattribute boundAndCalled
  refine wpAny_bind ?_
  rw [if_pos (show onTheHeap (.ref C)=true from rfl)]
  refine L2.at ?_
  refine wpAny_bind (wpAny_attempt (wpAny_holding ?_))
  have he:(expr && onTheHeap (Value.builtin "list.__getattribute__"))=false:=by simp [onTheHeap]
  rw [he,if_neg (by decide),F.slot_list_getattribute.bind]
  refine wpAny_bind (wpAny_pure ?_)
  show wpAny _ _ (call (.builtin "list.__getattribute__") [.ref x,.str name t]) _ _ _
  refine call_derived (s:=⟨hp,g,d,t+1,os⟩) X I F.slot_list_getattribute.plain am_entry_list_getattribute (owner:="list") (n:="__getattribute__") (.inr (by decide +kernel)) (by decide +kernel) hi (F.args_list_getattribute_2 _ _) ?_
  unfold Builtin.«object.__getattribute__»
  refine wpAny_bind (wpAny_pure (wpAny_bind (wpAny_pure (wpAny_bind (L0.at (wpAny_bind (L3.at ?_)))))))
  refine wpAny_pure ?_
  show wpAny _ _ (handedOut v) _ _ _
  rw [handedOut_of hh];exact wpAny_pure h
end
end Mine
end
section
open PySem PySem.Calls PySem.W PyProof.Rows PySem.SeqAt Builtin.ObjectAttr
open Sem (wp)
set_option maxHeartbeats 4000000
namespace Mine
section
variable {M:Model} {prog:Program} {w:World} {A:Around} {E:Value→Shared→Prop} {s:Shared} {env:Env}
theorem call_open {func e : Expr} {es : List Expr} {pos : Pos} {Q : Value → Shared → Prop} (hq : eval (.Call func (e :: es) [] pos) env = (eval func env >>= fun v => callWith pos v [] (backTo pos (starEach (e :: es) env)) []))
    (h:wpAny M A (eval func env) (fun v s₁=>wpAny M A (callWith pos v [] (backTo pos (starEach (e::es) env)) []) Q E s₁) E s):wpAny M A (eval (.Call func (e::es) [] pos) env) Q E s:=by
  rw [hq];exact wpAny_bind h
theorem spliced_open {e : Expr} {es : List Expr} {pos : Pos} {Q : List Value → Shared → Prop} (he : starEach (e :: es) env = (false, eval e env) :: starEach es env)
    (h:wpAny M A (eval e env) (fun v s₁=>wpAny M A (spliced (backTo pos (starEach es env))) (fun vs s₂=>Q (v::vs) s₂) E s₁) E s):wpAny M A (spliced (backTo pos (starEach (e::es) env))) Q E s:=by
  rw [he];exact spliced_cons h
theorem name_local {n:Str} {px:Pos} {m:Str→Option Value} {v:Value} {Q:Value→Shared→Prop} (hkind:env.scope.kind=.function) (hn:env.kindOf n=some .local) (hns:s.heap.Ns env.locals m) (hv:m n=some v) (h:Q v s) (hd:(n == ("__debug__":Str))=false):wpAny M A (eval (.Name n px) env) Q E s :=
  wpAny_Name (wpAny_loadName_local hkind hn hns hv h) hd
theorem name_bltn {n:Str} {px:Pos} {mg mb:Str→Option Value} {v:Value} {Q:Value→Shared→Prop} (hkind:env.scope.kind=.function) (hn:env.kindOf n=some .globalImplicit) (hg:s.heap.Ns env.globals mg) (hm:mg n=none) (hb:s.heap.Ns env.builtins mb) (hb':mb n=some v) (h:Q v s) (hd:(n == ("__debug__":Str))=false):wpAny M A (eval (.Name n px) env) Q E s :=
  Name_function_global hkind hn (loadGlobal_builtin hg hm hb hb' h) hd
theorem name_glob {n:Str} {px:Pos} {mg:Str→Option Value} {v:Value} {Q:Value→Shared→Prop} (hkind:env.scope.kind=.function) (hn:env.kindOf n=some .globalImplicit) (hg:s.heap.Ns env.globals mg) (hm:mg n=some v) (h:Q v s) (hd:(n == ("__debug__":Str))=false):wpAny M A (eval (.Name n px) env) Q E s :=
  Name_function_global hkind hn (loadGlobal_global hg hm h) hd
theorem raw_len {n : Str} {pf px pos : Pos} {mg mb m : Str → Option Value} {t : List Nat} {u : Tok} {Q : Value → Shared → Prop} (hkind : env.scope.kind = .function) (hl : env.kindOf "len" = some .globalImplicit) (hn : env.kindOf n = some .local) (hg : s.heap.Ns env.globals mg) (hm : mg "len" = none) (hb : s.heap.Ns env.builtins mb)
    (hb':mb "len"=some (.builtin "len")) (hns:s.heap.Ns env.locals m) (hv:m n=some (.str (sl t) u)) (hz:t.length≤100000) (hd:(n == ("__debug__":Str))=false)
    (h:∀ t',Q (.int t.length t') { s with toks:=s.toks+1+1 })
    (hq:eval (.Call (.Name "len" pf) [.Name n px] [] pos) env=(eval (.Name "len" pf) env >>= fun v=>callWith pos v [] (backTo pos (starEach [.Name n px] env)) []):=by rfl)
    (he:starEach [.Name n px] env=(false,eval (.Name n px) env)::starEach [] env:=by rfl):wpAny (model prog w) A (eval (.Call (.Name "len" pf) [.Name n px] [] pos) env) Q E s:=by
  refine call_open hq (name_bltn hkind hl hg hm hb hb' ?_ (by decide))
  refine callWith_B rfl (spliced_open he (name_local hkind hn hns hv ?_ hd)) he
  refine spliced_nil ?_
  refine PyProof.Rows.len_str (by rw [sl_len];lia) ?_
  rw [sl_len];exact h _
end
end Mine
end
section
open PySem PySem.Calls PySem.W PyProof.Rows PySem.SeqAt Builtin.ObjectAttr
open Sem (wp)
set_option maxHeartbeats 4000000
namespace Mine
structure SizeOk (K:Frag) (c:Addr):Prop where
  ga:findIn K (.ref c) "__getattribute__"=some (some (.builtin "list.__getattribute__"))
  gt:findIn K (.ref c) "__getattr__"=some none
  lst:mroIn K c (.type "list")=some true
  fnd:∀ hsh t u n,findObj K c (some (dictOf [⟨hsh,.str "_initial_size" t,.int 0 u⟩] n)) "_initial_size"=some (.value (.int 0 u))
section
variable {g:G} {ρ:List (Option D)} {μ:List (Addr × Mut)} {s:Shared}
theorem self_at {i : Nat} {x : Addr} {p : Pos} {Q : Value → Shared → Prop} {E : Value → Shared → Prop} (y : St g ρ μ s) (h1 : g.ns[i]? = some (Str.ofString "self")) (h2 : ρ[i]? = some (some (.val (.ref x)))) (hk : g.env.kindOf "self" = some .local) (h : Q (.ref x) s) :
    wpAny g.C.M g.A (eval (.Name "self" p) g.env) Q E s:=by
  obtain ⟨v,bd,r⟩:=y.vars i _ _ h1 h2
  (first | obtain rfl:=r.vI | obtain ⟨_,rfl⟩:=r.iI | obtain ⟨_,rfl⟩:=r.sI | obtain ⟨_,rfl⟩:=r.bI | obtain rfl:=r.nI | cases r)
  rcases bd with ⟨q,m,hm,hv⟩ | ⟨q,_⟩
  · exact name_local y.envOk.kind q hm hv h (by decide)
  · rw [hk] at q;rcases q with q | q <;> (first | obtain rfl:=q.vI | obtain ⟨_,rfl⟩:=q.iI | obtain ⟨_,rfl⟩:=q.sI | obtain ⟨_,rfl⟩:=q.bI | obtain rfl:=q.nI | cases q)
theorem attr_size {i : Nat} {x c dx : Addr} {ds : List D} {p pos : Pos} {Q : Value → Shared → Prop} {E : Value → Shared → Prop} (y : St g ρ μ s) (h1 : g.ns[i]? = some (Str.ofString "self")) (h2 : ρ[i]? = some (some (.val (.ref x)))) (hk : g.env.kindOf "self" = some .local)
    (hx:(x,.acc c dx ds)∈μ) (K:SizeOk g.C.K c) (h:∀ u,Q (.int 0 u) { s with toks:=s.toks+1 }):wpAny g.C.M g.A (eval (.Attribute (.Name "self" p) "_initial_size" pos) g.env) Q E s:=by
  obtain ⟨⟨vs,n,ho,r⟩,hne,hsh,t,u,n',hd⟩:=y.muts _ hx
  refine Attribute_any_ (self_at y h1 h2 hk ?_)
  exact get_valueL y.inv.K ⟨ho,rfl,rfl,hd⟩ K.ga K.gt (K.fnd hsh t u n') rfl K.lst (h u)
theorem Ev.size {i : Nat} {x c dx : Addr} {ds : List D} {p pos : Pos} (h1 : g.ns[i]? = Option.some (Str.ofString "self")) (h2 : ρ[i]? = Option.some (Option.some (.val (.ref x)))) (hk : g.env.kindOf "self" = Option.some .local)
    (hx:(x,.acc c dx ds)∈μ) (K:SizeOk g.C.K c):Ev g ρ μ (.Attribute (.Name "self" p) "_initial_size" pos) (.int 0):=fun s y=>attr_size y h1 h2 hk hx K fun u=>⟨.tok,.int ..⟩
end
end Mine
end
section
open PySem PySem.Calls PySem.W PyProof.Rows PySem.SeqAt Builtin.ObjectAttr PySem.Builtin.Str
open Sem (wp)
set_option maxHeartbeats 4000000
namespace Mine
theorem Ev.globS {g:G} {ρ:List (Option D)} {μ:List (Addr × Mut)} {x:Str} {pos:Pos} {v:Str} {t:Tok} (h:g.C.mg x=Option.some (.str v t)) (hx:g.env.kindOf x=Option.some .globalImplicit) (hd:(x == ("__debug__":Str))=false:=by decide):Ev g ρ μ (.Name x pos) (.str v):=fun s y =>
  Name_function_global y.envOk.kind hx (loadGlobal_global (by rw [y.envOk.glob];exact y.mg) h ⟨.refl ..,.str ..⟩) hd
section
variable {M:Model} {prog:Program} {w:World} {A:Around} {E:Value→Shared→Prop} {s:Shared} {env:Env}
theorem raw_join2 {a b : Str} {pe pa pb pt apos pos : Pos} {k : Nat} {mg m : Str → Option Value} {t : Tok} {x y : List Nat} {ta tb : Tok} {n : Str} {Q : Value → Shared → Prop} (hkind : env.scope.kind = .function) (hl : env.kindOf n = some .globalImplicit) (ha : env.kindOf a = some .local) (hb : env.kindOf b = some .local)
    (hg:s.heap.Ns env.globals mg) (hm:mg n=some (.str (sl []) t)) (hns:s.heap.Ns env.locals m) (hva:m a=some (.str (sl x) ta)) (hvb:m b=some (.str (sl y) tb)) (hz:x.length+y.length≤100000)
    (hdn:(n == ("__debug__":Str))=false) (hda:(a == ("__debug__":Str))=false) (hdb:(b == ("__debug__":Str))=false)
    (h:∀ t' k,Q (.str (sl (x++y)) t') { s with heap:=s.heap.push (tupO [.str (sl x) ta,.str (sl y) tb] 0),toks:=k })
    (hline:(apos.endLine == pos.line)=true) :
    wpAny (model prog w) A (eval (.Call (.Attribute (.Name n pe) "join" apos) [.Tuple [.Name a pa,.Name b pb] k pt] [] pos) env) Q E s:=by
  refine wpAny_Call_method (by rfl) (by rfl) hline F.plainAttrs_str F.slot_str_join F.type_str_join (name_glob hkind hl hg hm ⟨typeIs_str _ _ _,(fun a h=>nomatch h),?_⟩ hdn)
  refine callWith_B rfl (spliced_open (by rfl) ?_) (by rfl)
  refine Tuple_ (spliced_open (pos:=pt) (by rfl) ?_)
  refine name_local hkind ha hns hva ?_ hda
  refine spliced_open (by rfl) (name_local hkind hb hns hvb ?_ hdb)
  refine spliced_nil ?_
  show wpAny _ _ (newTuple _) _ _ _
  refine wpAny_newObj_type ?_ (by show 2≤_;decide)
  refine spliced_nil ?_
  refine join_tupleW (ys:=[sl x,sl y]) ⟨_,Heap.get?_push_size _ rfl,rfl,0,rfl⟩ (.cons _ _ (.cons _ _ .nil)) (by rw [sl_len];decide) (by simp [sl_len];lia) fun t' k=>?_
  have e:Txt.join (sl []) [sl x,sl y]=sl (x++y):=by
    show glued (sl []) [sl x,sl y]=_
    rw [StrLaws.glued_eq_join]
    simpa using join_flat [x,y]
  rw [e];exact h t' k
end
end Mine
end
section
open PySem PySem.Calls PySem.W PyProof.Rows PySem.SeqAt Builtin.ObjectAttr PySem.Builtin.Str
open Sem (wp)
set_option maxHeartbeats 4000000
namespace Mine
section
variable {prog:Program} {w:World} {A:Around} {E:Value→Shared→Prop} {s:Shared} {K:Frag} {x C f:Addr} {ox:Obj} {od:Option Obj}
theorem len_body {Q : Value → Shared → Prop} (X : K.In s.heap) (I : InstAt s.heap x ox C od) (hs : findIn K (.ref C) "__len__" = some (some (.ref f))) (hf : typeIn K (.ref f) = some (.type "function"))
    (h:wpAny (model prog w) A (call (.ref f) [.ref x]) (fun v s'=>∃ n t,v=.int n t∧0≤n∧n < 2 ^ 63∧Q (.int n s'.toks) { s' with toks:=s'.toks+1 }) E s) :
    wpAny (model prog w) A (Builtin.«len» ⟨[.ref x],[]⟩) (fun fin s'=>match fin with | .done (.ret v)=>Q v s' | _=>False) E s:=by
  unfold Builtin.«len»
  refine wpAny_bind (m:=oneArg "len" _) (wpAny_pure ?_)
  refine wpAny_bind (m:=callSpecial? (.ref x) (Str.ofString "__len__")) (special_fn X I hs hf (wpAny_mono h (fun v s' q=>?_) fun _ _ e=>e))
  obtain ⟨n,t,rfl,h0,hfit,q⟩:=q
  refine wpAny_bind (wpAny_holding (wpAny_pure ?_))
  refine wpAny_bind (wpAny_letGo ?_)
  show wpAny _ _ (if n < 0 then _ else _) _ _ _
  rw [if_neg (by lia)]
  show wpAny _ _ (if n≥2 ^ 63 then _ else _) _ _ _
  rw [if_neg (by lia)]
  exact wpAny_bind (wpAny_mkInt (wpAny_pure q))
theorem len_own {Q : Value → Shared → Prop} (X : K.In s.heap) (I : InstAt s.heap x ox C od) (hs : findIn K (.ref C) "__len__" = some (some (.ref f))) (hf : typeIn K (.ref f) = some (.type "function"))
    (h:wpAny (model prog w) A.in1 (call (.ref f) [.ref x]) (fun v s'=>∃ n t,v=.int n t∧0≤n∧n < 2 ^ 63∧Q (.int n s'.toks) { s' with toks:=s'.toks+1 }) E s):wpAny (model prog w) A (call (.builtin "len") [.ref x]) Q E s:=by
  refine call_function_tree kind_len plain_len entry_len (args_len1 _) ?_
  exact wpAny_mono (len_body X I hs hf h) (fun fin s' q=>by rcases fin with (_ | _ | _ | _) | _ <;> first | exact q | exact q.elim) fun _ _ e=>e
theorem truthy_own {Q : Bool → Shared → Prop} (X : K.In s.heap) (I : InstAt s.heap x ox C od) (hb : findIn K (.ref C) "__bool__" = some none) (hs : findIn K (.ref C) "__len__" = some (some (.ref f))) (hf : typeIn K (.ref f) = some (.type "function"))
    (h:wpAny (model prog w) A.in1 (call (.ref f) [.ref x]) (fun v s'=>∃ n t,v=.int n t∧0≤n∧n < 2 ^ 63∧Q (n != 0) { s' with toks:=s'.toks+1 }) E s):wpAny (model prog w) A (truthy (.ref x)) Q E s:=by
  unfold truthy
  refine wpAny_bind ?_
  unfold callSpecial? specialOf
  refine wpAny_bind (wpAny_bind (I.type.here ((looks_findIn X hb).here ?_)))
  refine wpAny_pure ?_
  refine wpAny_bind (wpAny_bind (I.type.here ((looks_findIn X hs).here ?_)))
  rw [if_neg (by simp)]
  refine wpAny_bind (wpAny_runValue (codeAny_builtin entry_len ?_))
  rw [Around.under_plainId plain_len _]
  have:=len_body (Q:=fun v s'=>∃ n t,v=.int n t∧Q (n != 0) s') (A:=A.in1) X I hs hf (wpAny_mono h (fun v s' ⟨n,t,a,b,c,q⟩=>⟨n,t,a,b,c,n,_,rfl,q⟩) fun _ _ e=>e)
  refine wpAny_mono this (fun fin s' q=>?_) fun _ _ e=>e
  rcases fin with (v | _ | _ | _) | _ <;> first | exact q.elim | skip
  obtain ⟨n,t,rfl,q⟩:=q
  exact wpAny_pure q
end
end Mine
end
section
open PySem PySem.Calls PySem.W PyProof.Rows PySem.SeqAt Builtin.ObjectAttr PySem.Builtin.Str
open Sem (wp)
set_option maxHeartbeats 4000000
namespace Mine
section
variable {g:G} {ρ:List (Option D)} {μ μ' a b μ₀ μ₁ p q:List (Addr × Mut)} {s s':Shared} {S:List Addr} {Φ:Flow→Shared→Prop} {rest:List Stmt}
noncomputable def EvOrVM (g:G) (ρ:List (Option D)) (μ:List (Addr × Mut)) (pos:Pos) (es:List Expr) (d:D) (μ':List (Addr × Mut)):Prop:=doms μ'=doms μ∧∀ s,St g ρ μ s→Dn g.C g.A (doms μ) s (boolOp pos .Or (evalEach es g.env)) fun v s'=>St g ρ μ' s'∧Rep g.X s'.heap v d
theorem EvOrVM.one {pos:Pos} {e:Expr} {d:D} (h:EvM g ρ μ e d μ'):EvOrVM g ρ μ pos [e] d μ':=⟨h.1,fun s x=>h.2 s x⟩
theorem EvOrVM.cons {pos:Pos} {e e':Expr} {es:List Expr} {p q:Bool} {μ₂:List (Addr × Mut)} (h:EvM g ρ μ e (D.bool p) μ') (k:p=false→EvOrVM g ρ μ' pos (e'::es) (D.bool q) μ₂) (hd:doms μ₂=doms μ):EvOrVM g ρ μ pos (e::e'::es) (D.bool (p || q)) (if p then μ' else μ₂):=by
  refine ⟨by cases p with | true=>exact h.1 | false=>exact hd,fun s x=>?_⟩
  show Dn g.C g.A _ s (boolOp pos .Or (eval e g.env::eval e' g.env::evalEach es g.env)) _
  rw [boolOp_cons2]
  refine wpAny_bind (h.wp x fun v s₁ x₁ r e₁=>wpAny_bind (wpAny_standAt (wpAny_bind (wpAny_holding ?_))))
  (first | obtain rfl:=r.vI | obtain ⟨_,rfl⟩:=r.iI | obtain ⟨_,rfl⟩:=r.sI | obtain ⟨_,rfl⟩:=r.bI | obtain rfl:=r.nI | cases r)
  refine wpAny_truthy_bool ?_
  cases p with
  | true=>exact wpAny_pure ⟨e₁,by simpa using x₁,.val _⟩
  | false=>exact ((k rfl).2 s₁ x₁).use fun v s₂ e₂ r=>⟨e₁.trans (e₂.eqD h.1),by simpa using r⟩
theorem EvM.or {es:List Expr} {pos:Pos} {d:D} (h:EvOrVM g ρ μ pos es d μ'):EvM g ρ μ (.BoolOp .Or es pos) d μ':=⟨h.1,fun s x=>h.2 s x⟩
theorem EvOrVM.same {pos:Pos} {e e':Expr} {es:List Expr} {p q:Bool} (h:EvM g ρ μ e (D.bool p) μ') (k:p=false→EvOrVM g ρ μ' pos (e'::es) (D.bool q) μ') (hd:doms μ'=doms μ):EvOrVM g ρ μ pos (e::e'::es) (D.bool (p || q)) μ':=by
  have:=EvOrVM.cons h k hd
  rwa [ite_self] at this
theorem EvAndM.same {pos:Pos} {e e':Expr} {es:List Expr} {p q:Bool} (h:EvM g ρ μ e (D.bool p) μ') (k:p=true→EvAndM g ρ μ' pos (e'::es) (D.bool q) μ') (hd:doms μ'=doms μ):EvAndM g ρ μ pos (e::e'::es) (D.bool (p && q)) μ':=by
  have:=EvAndM.cons h k hd
  rwa [ite_self] at this
theorem EvOrM.same {e:Expr} {es:List Expr} {p q:Bool} (h:EvTM g ρ μ e p μ') (k:p=false→EvOrM g ρ μ' es q μ') (hd:doms μ'=doms μ):EvOrM g ρ μ (e::es) (p || q) μ':=by
  have:=EvOrM.cons h k hd
  rwa [ite_self] at this
structure LenOk (K:Frag) (c f:Addr):Prop where
  fnd:findIn K (.ref c) "__len__"=some (some (.ref f))
  ty:typeIn K (.ref f)=some (.type "function")
  nob:findIn K (.ref c) "__bool__"=some none
structure StrOk (K:Frag) (c f:Addr):Prop where
  fnd:findIn K (.ref c) "__str__"=some (some (.ref f))
  ty:typeIn K (.ref f)=some (.type "function")
theorem call_contract {k : Nat} {f : Addr} {ds : List D} {vs : List Value} {d : D} {A : Around} {Q : Value → Shared → Prop} {E : Value → Shared → Prop} (y : St g ρ (a ++ (μ₀ ++ b)) s) (R : Room A k) (r : RepL g.X s.heap vs ds) (hc : FnM g.C k (.ref f) ds μ₀ d μ₁) (hd : doms μ₁ = doms μ₀)
    (h:∀ v s',St g ρ (a++(μ₁++b)) s'→Ext g.C (doms (a++(μ₀++b))) s s'→Rep g.X s'.heap v d→Q v s'):wpAny g.C.M A (call (.ref f) vs) Q E s:=by
  refine wpAny_call (codeAny_mono (hc _ _ _ _ R y.inv r (fun p hp=>y.muts p (List.mem_append_right _ (List.mem_append_left _ hp))) (fun c hc=>?_) ?_) fun r s₃ q=>?_)
  · have:=y.mX c (by simp only [doms_app];exact List.mem_append_right _ (List.mem_append_left _ hc))
    exact ⟨this.1,this.2.1⟩
  · have nd:=y.apart
    simp only [doms_app,List.nodup_append] at nd
    exact nd.2.1.1
  · obtain ⟨v,rfl,e₃,r₃,m₃⟩:=q
    exact h v s₃ (y.called e₃ hd m₃) e₃.wideD r₃
theorem EvM.len {o func : Expr} {pos : Pos} {k : Nat} {f x c : Addr} {m : Mut} {key : Str} {n : Int} (a b : List (Addr × Mut)) (R : Room g.A (k + 1)) (hf : Ev g ρ (a ++ (μ₀ ++ b)) func (.val (.builtin "len"))) (ho : Ev g ρ (a ++ (μ₀ ++ b)) o (.val (.ref x))) (hx : (x, m) ∈ a ++ (μ₀ ++ b)) (hm : m.cls? = some (c, key)) (L : LenOk g.C.K c f)
    (hc:FnM g.C k (.ref f) [.val (.ref x)] μ₀ (.int n) μ₁) (hd:doms μ₁=doms μ₀) (h0:0≤n) (hn:n < 2 ^ 63)
    (hq:eval (.Call func [o] [] pos) g.env=(eval func g.env >>= fun v=>callWith pos v [] (backTo pos (starEach [o] g.env)) []):=by rfl)
    (he:starEach [o] g.env=(false,eval o g.env)::starEach [] g.env:=by rfl):EvM g ρ (a++(μ₀++b)) (.Call func [o] [] pos) (.int n) (a++(μ₁++b)):=by
  refine ⟨by simp only [doms_app,hd],fun s y=>?_⟩
  refine call_open hq (hf.wp y fun v s₁ y₁ r₁ e₁=>?_)
  (first | obtain rfl:=r₁.vI | obtain ⟨_,rfl⟩:=r₁.iI | obtain ⟨_,rfl⟩:=r₁.sI | obtain ⟨_,rfl⟩:=r₁.bI | obtain rfl:=r₁.nI | cases r₁)
  refine callWith_B rfl (spliced_open he (ho.wp y₁ fun v s₂ y₂ r₂ e₂=>?_)) he
  (first | obtain rfl:=r₂.vI | obtain ⟨_,rfl⟩:=r₂.iI | obtain ⟨_,rfl⟩:=r₂.sI | obtain ⟨_,rfl⟩:=r₂.bI | obtain rfl:=r₂.nI | cases r₂)
  refine spliced_nil ?_
  obtain ⟨ox,od,I,hsh⟩:=(y₂.muts _ hx).instAt hm
  refine len_own y₂.inv.K I L.fnd L.ty ?_
  refine call_contract y₂ R.in1 (.cons (.val _) .nil) hc hd fun v s₃ y₃ e₃ r₃=>?_
  (first | obtain rfl:=r₃.vI | obtain ⟨_,rfl⟩:=r₃.iI | obtain ⟨_,rfl⟩:=r₃.sI | obtain ⟨_,rfl⟩:=r₃.bI | obtain rfl:=r₃.nI | cases r₃)
  exact ⟨n,_,rfl,h0,hn,((e₁.trans e₂).up0.trans e₃).trans .tok,y₃.ext .tok,.int ..⟩
theorem EvTM.own {o : Expr} {k : Nat} {f x c : Addr} {m : Mut} {key : Str} {n : Int} (a b : List (Addr × Mut)) (R : Room g.A (k + 1)) (ho : Ev g ρ (a ++ (μ₀ ++ b)) o (.val (.ref x))) (hx : (x, m) ∈ a ++ (μ₀ ++ b)) (hm : m.cls? = some (c, key)) (L : LenOk g.C.K c f)
    (hc:FnM g.C k (.ref f) [.val (.ref x)] μ₀ (.int n) μ₁) (hd:doms μ₁=doms μ₀) (h0:0≤n) (hn:n < 2 ^ 63)
    (he:isTrue o g.env (eval o g.env)=(do let v ← eval o g.env;standAt o.pos;holding [v] (truthy v)):=by rfl):EvTM g ρ (a++(μ₀++b)) o (n != 0) (a++(μ₁++b)):=by
  refine ⟨by simp only [doms_app,hd],fun s y=>?_⟩
  show wpAny _ _ _ _ _ _
  rw [he]
  refine wpAny_bind (ho.wp y fun v s₁ y₁ r₁ e₁=>?_)
  (first | obtain rfl:=r₁.vI | obtain ⟨_,rfl⟩:=r₁.iI | obtain ⟨_,rfl⟩:=r₁.sI | obtain ⟨_,rfl⟩:=r₁.bI | obtain rfl:=r₁.nI | cases r₁)
  refine wpAny_bind (wpAny_standAt (wpAny_holding ?_))
  obtain ⟨ox,od,I,hsh⟩:=(y₁.muts _ hx).instAt hm
  refine truthy_own y₁.inv.K I L.nob L.fnd L.ty ?_
  refine call_contract y₁ R.in1 (.cons (.val _) .nil) hc hd fun v s₃ y₃ e₃ r₃=>?_
  (first | obtain rfl:=r₃.vI | obtain ⟨_,rfl⟩:=r₃.iI | obtain ⟨_,rfl⟩:=r₃.sI | obtain ⟨_,rfl⟩:=r₃.bI | obtain rfl:=r₃.nI | cases r₃)
  exact ⟨n,_,rfl,h0,hn,(e₁.up0.trans e₃).trans .tok,y₃.ext .tok,rfl⟩
theorem EvM.notOwn {o : Expr} {pos : Pos} {k : Nat} {f x c : Addr} {m : Mut} {key : Str} {n : Int} (a b : List (Addr × Mut)) (R : Room g.A (k + 1)) (ho : Ev g ρ (a ++ (μ₀ ++ b)) o (.val (.ref x))) (hx : (x, m) ∈ a ++ (μ₀ ++ b)) (hm : m.cls? = some (c, key)) (L : LenOk g.C.K c f)
    (hc:FnM g.C k (.ref f) [.val (.ref x)] μ₀ (.int n) μ₁) (hd:doms μ₁=doms μ₀) (h0:0≤n) (hn:n < 2 ^ 63):EvM g ρ (a++(μ₀++b)) (.UnaryOp .Not o pos) (D.bool (!(n != 0))) (a++(μ₁++b)):=by
  refine ⟨by simp only [doms_app,hd],fun s y=>?_⟩
  show wpAny _ _ _ _ _ _
  rw [arm_eval_UnaryOp]
  refine wpAny_bind (ho.wp y fun v s₁ y₁ r₁ e₁=>?_)
  (first | obtain rfl:=r₁.vI | obtain ⟨_,rfl⟩:=r₁.iI | obtain ⟨_,rfl⟩:=r₁.sI | obtain ⟨_,rfl⟩:=r₁.bI | obtain rfl:=r₁.nI | cases r₁)
  refine wpAny_bind (wpAny_standAt (wpAny_holding ?_))
  obtain ⟨ox,od,I,hsh⟩:=(y₁.muts _ hx).instAt hm
  show wpAny _ _ (holding [Value.ref x] (truthy (.ref x) >>= fun t=>pure (Value.bool (!t)))) _ _ _
  refine wpAny_holding ?_
  refine wpAny_bind (truthy_own y₁.inv.K I L.nob L.fnd L.ty ?_)
  refine call_contract y₁ R.in1 (.cons (.val _) .nil) hc hd fun v s₃ y₃ e₃ r₃=>?_
  (first | obtain rfl:=r₃.vI | obtain ⟨_,rfl⟩:=r₃.iI | obtain ⟨_,rfl⟩:=r₃.sI | obtain ⟨_,rfl⟩:=r₃.bI | obtain rfl:=r₃.nI | cases r₃)
  exact ⟨n,_,rfl,h0,hn,wpAny_pure ⟨(e₁.up0.trans e₃).trans .tok,y₃.ext .tok,.val _⟩⟩
theorem EvM.str {o func : Expr} {pos : Pos} {k : Nat} {f x c : Addr} {m : Mut} {key : Str} {t : Str} (a b : List (Addr × Mut)) (R : Room g.A (k + 2)) (hf : Ev g ρ (a ++ (μ₀ ++ b)) func (.val (.type "str"))) (ho : Ev g ρ (a ++ (μ₀ ++ b)) o (.val (.ref x))) (hx : (x, m) ∈ a ++ (μ₀ ++ b)) (hm : m.cls? = some (c, key)) (L : StrOk g.C.K c f)
    (hc:FnM g.C k (.ref f) [.val (.ref x)] μ₀ (.str t) μ₁) (hd:doms μ₁=doms μ₀)
    (hq:eval (.Call func [o] [] pos) g.env=(eval func g.env >>= fun v=>callWith pos v [] (backTo pos (starEach [o] g.env)) []):=by rfl)
    (he:starEach [o] g.env=(false,eval o g.env)::starEach [] g.env:=by rfl):EvM g ρ (a++(μ₀++b)) (.Call func [o] [] pos) (.str t) (a++(μ₁++b)):=by
  refine ⟨by simp only [doms_app,hd],fun s y=>?_⟩
  refine call_open hq (hf.wp y fun v s₁ y₁ r₁ e₁=>?_)
  (first | obtain rfl:=r₁.vI | obtain ⟨_,rfl⟩:=r₁.iI | obtain ⟨_,rfl⟩:=r₁.sI | obtain ⟨_,rfl⟩:=r₁.bI | obtain rfl:=r₁.nI | cases r₁)
  refine callWith_B rfl (spliced_open he (ho.wp y₁ fun v s₂ y₂ r₂ e₂=>?_)) he
  (first | obtain rfl:=r₂.vI | obtain ⟨_,rfl⟩:=r₂.iI | obtain ⟨_,rfl⟩:=r₂.sI | obtain ⟨_,rfl⟩:=r₂.bI | obtain rfl:=r₂.nI | cases r₂)
  refine spliced_nil ?_
  obtain ⟨ox,od,I,hsh⟩:=(y₂.muts _ hx).instAt hm
  have Q1:Room g.A.in1.in1 k:=R.in1.in1
  refine kso_call Q1.units y₂.inv.K I L.fnd (by unfold isFn;rw [L.ty];rfl) ?_
  refine call_contract y₂ Q1 (.cons (.val _) .nil) hc hd fun v s₃ y₃ e₃ r₃=>?_
  (first | obtain rfl:=r₃.vI | obtain ⟨_,rfl⟩:=r₃.iI | obtain ⟨_,rfl⟩:=r₃.sI | obtain ⟨_,rfl⟩:=r₃.bI | obtain rfl:=r₃.nI | cases r₃)
  exact ⟨(e₁.trans e₂).up0.trans e₃,y₃,.str ..⟩
theorem EvM.meth0 {o : Expr} {name : Str} {apos pos : Pos} {T id : String} {d₀ d : D} (R : Room g.A 0) (pa : PlainAttrs T) (slot : Slot T name id) (hty : typeOf (.builtin id) = pure (.type "method_descriptor"))
    (ho:EvM g ρ μ o d₀ μ') (hT:∀ (X:List Addr) (s:Shared) v,Rep X s.heap v d₀→s.TypeIs v T∧(∀ a,v=.ref a→∃ ob,s.heap.get? a=some ob∧ob.dict=Option.none)) (hc:Bi (.builtin id) [d₀] d)
    (hbase:attributeBase o name g.env (eval o g.env)=eval o g.env:=by rfl)
    (hfew:((backTo pos (starEach [] g.env)).all (fun x=>!x.1) && (backToKw pos (keywordEach [] g.env)).all (fun x=>x.1.isSome) && decide (([]:List Expr).length+([]:List Keyword).length+(if ([]:List Keyword).isEmpty then 0 else 1) < 30))=true:=by rfl)
    (hline:(apos.endLine == pos.line)=true:=by rfl):EvM g ρ μ (.Call (.Attribute o name apos) [] [] pos) d μ':=⟨ho.1,fun s x =>
  wpAny_Call_method hbase hfew hline pa slot hty (ho.wp x fun v s₁ x₁ r₁ e₁=>⟨(hT _ _ _ r₁).1,(hT _ _ _ r₁).2,callWith_B0 rfl ((hc _ _ _ _ [v] x₁.inv R (.cons r₁ .nil)).use fun v s₃ e₃ r₃=>⟨e₁.trans e₃.up0,x₁.ext e₃,r₃⟩)⟩)⟩
end
end Mine
end
section
open PySem PySem.Calls PySem.W PyProof.Rows PySem.SeqAt
namespace Mine
theorem Ev.neg {g:G} {ρ:List (Option D)} {μ:List (Addr × Mut)} {e:Expr} {pos:Pos} {n:Int} (h:Ev g ρ μ e (.int n)):Ev g ρ μ (.UnaryOp .USub e pos) (.int (-n)):=fun s y=>by
  show wpAny _ _ _ _ _ _
  rw [arm_eval_UnaryOp]
  refine wpAny_bind (h.wp y fun v s₁ y₁ r₁ e₁=>?_)
  (first | obtain rfl:=r₁.vI | obtain ⟨_,rfl⟩:=r₁.iI | obtain ⟨_,rfl⟩:=r₁.sI | obtain ⟨_,rfl⟩:=r₁.bI | obtain rfl:=r₁.nI | cases r₁)
  refine wpAny_bind (wpAny_standAt (wpAny_holding ?_))
  exact neg_int ⟨e₁.trans .tok,.int ..⟩
end Mine
end
section
open PySem PySem.Calls PySem.W PyProof.Rows PySem.SeqAt Builtin.ObjectAttr
set_option maxHeartbeats 4000000
namespace Mine
section
variable {g:G} {ρ:List (Option D)} {μ:List (Addr × Mut)} {s:Shared} {S:List Addr} {Φ:Flow→Shared→Prop} {rest:List Stmt}
noncomputable def EvNew (g:G) (ρ:List (Option D)) (μ:List (Addr × Mut)) (e:Expr) (m:Addr→Mut):Prop:=∀ s,St g ρ μ s→Dn g.C g.A [] s (eval e g.env) fun v s'=>∃ a dx,v=.ref a∧s.heap.get? a=none∧s.heap.get? dx=none∧a≠dx∧(∃ o,s'.heap.get? a=some o)∧(∃ o,s'.heap.get? dx=some o)∧MutOk (a::dx::g.X) s'.heap a (m dx)∧(m dx).more=[dx]
theorem Ex.assignNew (i : Nat) {x : Str} {p pos : Pos} {e : Expr} {m : Addr → Mut} (h1 : g.ns[i]? = some x) (hk : Stored g S x) (he : EvNew g ρ μ e m) (k : ∀ a dx, a ∉ g.X → a ∉ S → dx ∉ g.X → Ex { g with X := a :: dx :: g.X } (a :: dx :: S) (ρ.set i (some (.val (.ref a)))) ((a, m dx) :: μ) rest Φ)
    (hS:∀ a∈S,a∈g.X) (hs:swapsWith e (some (.Name x p)) pos.line g.env=pure false:=by rfl):Ex g S ρ μ (.Assign [.Name x p] e pos::rest) Φ:=Ex.step2 fun s y =>
  wpAny_Assign_Name ((he s y).use fun v s₁ e₁ q=>by
    obtain ⟨a,dx,rfl,hn,hd,hne,ho,hod,hm,hmore⟩:=q
    have y₁:=y.wide (wr:=[a,dx]) e₁ (fun b hb=>by simp only [List.mem_cons,List.not_mem_nil,or_false] at hb;rcases hb with rfl | rfl <;> assumption)
      (fun b hb=>by simp only [List.mem_cons,List.not_mem_nil,or_false] at hb;rcases hb with rfl | rfl <;> assumption)
    have f:=y.fresh hn
    have fd:=y.fresh hd
    have y₂:St { g with X:=a::dx::g.X } ρ ((a,m dx)::μ) s₁:=St.addmut (g:={ g with X:=a::dx::g.X }) y₁ hm (fun b hb=>by
      rw [hmore] at hb
      simp only [List.mem_cons,List.not_mem_nil,or_false] at hb
      rcases hb with rfl | rfl
      · exact ⟨.head _,f.2⟩
      · exact ⟨.tail _ (.head _),fd.2⟩) (by rw [hmore];simp [hne])
    have haS:a∉S:=fun q=>f.1 (hS a q)
    refine (St.store (g:={ g with X:=a::dx::g.X }) y₂ h1 hk (.val (.ref a))).use fun _ s₂ e₂ y₂=>?_
    refine (k a dx f.1 haS fd.1 s₂ y₂).use fun fl s₃ e₃ q=>⟨?_,q⟩
    have e₁₂:Ext g.C S s s₂:=(e₁.wider (fun _ h=>nomatch h)).trans e₂
    exact ((e₁₂.wider fun b hb=>.inl (.tail _ (.tail _ hb))).trans e₃).wider fun b hb=>by
      rcases List.mem_cons.mp hb with rfl | hb
      · exact .inr hn
      rcases List.mem_cons.mp hb with rfl | hb
      · exact .inr hd
      · exact .inl hb) hs
theorem Room.make {A:Around} {k:Nat} {C:Addr} {vals:List Value} (R:Room A (k+1)):Room (A.under (.builtin "type.__call__" ⟨.ref C::vals,[]⟩)) k:=by
  refine ⟨R.h,?_,?_,?_⟩
  · rw [depth_under_make];have:=R.d;lia
  · rw [units_under_make];have:=R.u;lia
  · show pushGuards (Code.guards (.builtin "type.__call__" ⟨.ref C::vals,[]⟩)) A.guards=_
    rw [R.g]
    kernel_rfl
theorem new_core {fI : Addr} {o₀ : Addr → Obj} {m : Addr → Mut} {k : Nat} {A : Around} {R' : Result → Shared → Prop} (y : St g ρ μ s) (R : Room A k)
    (hc:∀ x dx,FnM g.C k (.ref fI) [.val (.ref x)] [(x,.obj (o₀ dx) dx emptyDict)] D.nil [(x,m dx)])
    (h:∀ s' ,Ext g.C [] s s'→MutOk ((s.heap.objs.size+1)::s.heap.objs.size::g.X) s'.heap (s.heap.objs.size+1) (m s.heap.objs.size)→(∃ o,s'.heap.get? (s.heap.objs.size+1)=some o)→(∃ o,s'.heap.get? s.heap.objs.size=some o)→R' (.ok (.ret (.ref (s.heap.objs.size+1)))) s') (hf:∀ dx,(o₀ dx).isFreed=false) :
    codeAny g.C.M A (.call (.ref fI) ⟨[.ref (s.heap.objs.size+1)],[]⟩) (InitBack (s.heap.objs.size+1) R') { s with heap:=(s.heap.push emptyDict).push (o₀ s.heap.objs.size) }:=by
  have e₀:Ext g.C [] s { s with heap:=(s.heap.push emptyDict).push (o₀ s.heap.objs.size) }:=.of_keeps (fun b o e=>Heap.get?_push_of_some _ (Heap.get?_push_of_some _ e)) rfl rfl
  generalize hd:s.heap.objs.size=dx at *
  have nd:s.heap.get? dx=none:=none_of_ge (by lia)
  have na:s.heap.get? (dx+1)=none:=none_of_ge (by lia)
  have hx:((s.heap.push emptyDict).push (o₀ dx)).get? (dx+1)=some (o₀ dx):=Heap.get?_push_at (by rw [Heap.size_push,hd]) (hf dx)
  have hdx:((s.heap.push emptyDict).push (o₀ dx)).get? dx=some emptyDict:=Heap.get?_push_of_some _ (Heap.get?_push_at hd.symm rfl)
  have y₁:=y.wide (wr:=[dx+1,dx]) e₀ (fun b hb=>by simp only [List.mem_cons,List.not_mem_nil,or_false] at hb;rcases hb with rfl | rfl <;> assumption)
    (fun b hb=>by simp only [List.mem_cons,List.not_mem_nil,or_false] at hb;rcases hb with rfl | rfl <;> exact ⟨_,by assumption⟩)
  have P1:=y.fresh na
  have P2:=y.fresh nd
  refine codeAny_mono (hc (dx+1) dx A ((dx+1)::dx::g.X) _ _ R y₁.inv (.cons (.val _) .nil) (fun p hp=>?_) (fun a ha=>?_) ?_) fun r s' q=>?_
  · rw [List.mem_singleton.mp hp];exact ⟨hx,Nat.ne_of_lt (Nat.lt_succ_self _),hdx⟩
  · have:a=dx+1∨a=dx:=by simpa [doms,Mut.more] using ha
    rcases this with rfl | rfl
    · exact ⟨.head _,P1.2.1⟩
    · exact ⟨.tail _ (.head _),P2.2.1⟩
  · simp [doms,Mut.more]
  · obtain ⟨v,rfl,e₁,r₁,m₁⟩:=q
    (first | obtain rfl:=r₁.vI | obtain ⟨_,rfl⟩:=r₁.iI | obtain ⟨_,rfl⟩:=r₁.sI | obtain ⟨_,rfl⟩:=r₁.bI | obtain rfl:=r₁.nI | cases r₁)
    have e₂:Ext g.C [] s s':=(e₀.up0.trans e₁).wider fun b hb=>by
      have:b=dx+1∨b=dx:=by simpa [doms,Mut.more] using hb
      rcases this with rfl | rfl
      · exact .inr na
      · exact .inr nd
    exact ⟨rfl,h s' e₂ (m₁ _ (.head _)) (e₁.occ _ _ hx) (e₁.occ _ _ hdx)⟩
theorem EvNew.acc {func : Expr} {pos : Pos} {c fI : Addr} {k : Nat} (R : Room g.A (k + 1)) (hf : Ev g ρ μ func (.val (.ref c))) (hkeep : keepIn g.C.K (.ref c) = true) (hm : makesLIn g.C.K c = true) (hi : findIn g.C.K (.ref c) "__init__" = some (some (.ref fI))) (ht : typeIn g.C.K (.ref fI) = some (.type "function"))
    (hc:∀ x dx,FnM g.C k (.ref fI) [.val (.ref x)] [(x,.obj (accObj c dx) dx emptyDict)] D.nil [(x,.acc c dx [])])
    (hq:eval (.Call func [] [] pos) g.env=(eval func g.env >>= fun v=>callWith pos v [] (backTo pos (starEach [] g.env)) []):=by rfl):EvNew g ρ μ (.Call func [] [] pos) fun dx=>.acc c dx []:=fun s y=>by
  show wpAny _ _ _ _ _ _
  rw [hq]
  refine wpAny_bind (hf.wp y fun v s₁ y₁ r₁ e₁=>?_)
  (first | obtain rfl:=r₁.vI | obtain ⟨_,rfl⟩:=r₁.iI | obtain ⟨_,rfl⟩:=r₁.sI | obtain ⟨_,rfl⟩:=r₁.bI | obtain rfl:=r₁.nI | cases r₁)
  refine callWith_K0 y₁.inv.K hkeep (wpAny_call ?_)
  refine makeL_core (makesL_of y₁.inv.K hm) (looks_findIn y₁.inv.K hi) (fun self=>bind_fn y₁.inv.K self ht) ?_
  refine new_core (o₀:=accObj c) (m:=fun dx=>.acc c dx []) y₁ R.make hc (fun s' e m ho hd=>?_) fun _=>rfl
  exact ⟨e₁.trans e,_,_,rfl,e₁.none_back (none_of_ge (Nat.le_succ _)),e₁.none_back (none_of_ge (Nat.le_refl _)),Nat.succ_ne_self _,ho,hd,m,rfl⟩
theorem EvNew.inst {func : Expr} {pos : Pos} {c fI : Addr} {k : Nat} (R : Room g.A (k + 1)) (hf : Ev g ρ μ func (.val (.ref c))) (hkeep : keepIn g.C.K (.ref c) = true) (hm : makesIn g.C.K c = true) (hi : findIn g.C.K (.ref c) "__init__" = some (some (.ref fI))) (ht : typeIn g.C.K (.ref fI) = some (.type "function"))
    (hc:∀ x dx,FnM g.C k (.ref fI) [.val (.ref x)] [(x,.obj (instObj c dx) dx emptyDict)] D.nil [(x,.inst c dx)])
    (hq:eval (.Call func [] [] pos) g.env=(eval func g.env >>= fun v=>callWith pos v [] (backTo pos (starEach [] g.env)) []):=by rfl):EvNew g ρ μ (.Call func [] [] pos) fun dx=>.inst c dx:=fun s y=>by
  show wpAny _ _ _ _ _ _
  rw [hq]
  refine wpAny_bind (hf.wp y fun v s₁ y₁ r₁ e₁=>?_)
  (first | obtain rfl:=r₁.vI | obtain ⟨_,rfl⟩:=r₁.iI | obtain ⟨_,rfl⟩:=r₁.sI | obtain ⟨_,rfl⟩:=r₁.bI | obtain rfl:=r₁.nI | cases r₁)
  refine callWith_K0 y₁.inv.K hkeep (wpAny_call ?_)
  refine make_core (makes_of y₁.inv.K hm) (looks_findIn y₁.inv.K hi) (fun self=>bind_fn y₁.inv.K self ht) (.inl rfl) ?_
  refine new_core (o₀:=instObj c) (m:=fun dx=>.inst c dx) y₁ R.make hc (fun s' e m ho hd=>?_) fun _=>rfl
  exact ⟨e₁.trans e,_,_,rfl,e₁.none_back (none_of_ge (Nat.le_succ _)),e₁.none_back (none_of_ge (Nat.le_refl _)),Nat.succ_ne_self _,ho,hd,m,rfl⟩
end
end Mine
end
section
open PySem PySem.Calls PySem.W PyProof.Rows PySem.SeqAt
namespace Mine
noncomputable def setAll (ρ:List (Option D)):List (Nat × Str × Pos)→List D→List (Option D)
  | t::ts,d::ds=>setAll (ρ.set t.1 (some d)) ts ds
  | _,_=>ρ
section
variable {g:G} {ρ:List (Option D)} {μ μ':List (Addr × Mut)} {s:Shared} {S:List Addr} {Φ:Flow→Shared→Prop} {rest:List Stmt}
theorem asgs (ts : List (Nat × Str × Pos)) : ∀ (ds : List D) (ρ : List (Option D)) (s : Shared) (vs : List Value), ts.length = ds.length → (∀ t ∈ ts, g.ns[t.1]? = some t.2.1 ∧ Stored g S t.2.1) → (∀ a ∈ S, a ∉ doms μ → a ∈ g.X) → St g ρ μ s → RepL g.X s.heap vs ds → (∀ a ∈ S, a ∈ g.X) →
    Dn g.C g.A S s (assignInOrder (ts.map fun t v=>assign (.Name t.2.1 t.2.2) g.env v) vs) fun _ s'=>St g (setAll ρ ts ds) μ s':=by
  induction ts with
  | nil =>
    intro ds ρ s vs hl _ _ y r _
    obtain rfl:ds=[]:=List.eq_nil_of_length_eq_zero hl.symm
    (first | obtain rfl:=r.vI | obtain ⟨_,rfl⟩:=r.iI | obtain ⟨_,rfl⟩:=r.sI | obtain ⟨_,rfl⟩:=r.bI | obtain rfl:=r.nI | cases r);exact wpAny_pure ⟨.refl ..,y⟩
  | cons t ts ih =>
    intro ds ρ s vs hl h1 hx y r hS
    cases ds with
    | nil=>cases hl
    | cons d ds =>
      cases r with | cons rv r =>
      have st:Dn g.C g.A S s (assign (.Name t.2.1 t.2.2) g.env _) fun _ s'=>St g (ρ.set t.1 (some d)) μ s':=wpAny_assign_Name (St.store y (h1 t (.head _)).1 (h1 t (.head _)).2 rv)
      refine aio_cons (st.use fun _ s₁ e₁ y₁=>?_)
      refine (ih ds _ s₁ _ (Nat.succ.inj hl) (fun t ht=>h1 t (.tail _ ht)) hx y₁ (r.ext e₁ hS y.inv.pin) hS).use fun _ s₂ e₂ y₂=>⟨e₁.trans e₂,y₂⟩
theorem asg_tuple {elts : List Expr} {k : Nat} {p : Pos} {v : Value} {ds : List D} (ts : List (Nat × Str × Pos)) (R : Room g.A 0) (hl : ts.length = ds.length) (h1 : ∀ t ∈ ts, g.ns[t.1]? = some t.2.1 ∧ Stored g S t.2.1) (hS : ∀ a ∈ S, a ∈ g.X)
    (heq:assignEach elts g.env=ts.map fun t=>(false,fun v=>PySem.assign (.Name t.2.1 t.2.2) g.env v)) (y:St g ρ μ s) (r:Rep g.X s.heap v (.tup ds)) :
    Dn g.C g.A S s (assign (.Tuple elts k p) g.env v) fun _ s'=>St g (setAll ρ ts ds) μ s':=by
  show wpAny _ _ _ _ _ _
  rw [arm_assign_Tuple]
  refine wpAny_bind (wpAny_standAt ?_)
  rw [heq]
  refine unpack_D y R r (by simpa using hl) (by simp [List.findIdx?_eq_none_iff]) fun s₁ vs y₁ e₁ rl=>?_
  have:(ts.map fun t=>(false,fun v=>PySem.assign (.Name t.2.1 t.2.2) g.env v)).map (·.2)=ts.map fun t v=>assign (.Name t.2.1 t.2.2) g.env v:=by simp
  rw [this]
  exact asgs ts ds ρ s₁ vs hl h1 (fun a ha _=>hS a ha) y₁ rl hS
theorem Ex.assignT {elts : List Expr} {k : Nat} {p pos : Pos} {e : Expr} {ds : List D} (ts : List (Nat × Str × Pos)) (R : Room g.A 0) (hl : ts.length = ds.length) (h1 : ∀ t ∈ ts, g.ns[t.1]? = some t.2.1 ∧ Stored g S t.2.1) (hS : ∀ a ∈ S, a ∈ g.X) (hμ : ∀ a ∈ doms μ, a ∈ S)
    (he:EvM g ρ μ e (.tup ds) μ') (heq:assignEach elts g.env=ts.map fun t=>(false,fun v=>PySem.assign (.Name t.2.1 t.2.2) g.env v)) (kk:Ex g S (setAll ρ ts ds) μ' rest Φ)
    (hs:swapsWithSole [.Tuple elts k p] e pos.line g.env=pure false:=by rfl) (hw:swappedStores [.Tuple elts k p] e g.env=pure none:=by rfl):Ex g S ρ μ (.Assign [.Tuple elts k p] e pos::rest) Φ:=Ex.step fun s y =>
  Assign_Tuple (he.wp y fun v s₁ y₁ r₁ e₁=>(asg_tuple ts R hl h1 hS heq y₁ r₁).use fun _ s₂ e₂ y₂=>⟨(e₁.wider fun c hc=>.inl (hμ c hc)).trans e₂,kk _ y₂⟩) hs hw
theorem Ex.forT {elts : List Expr} {k : Nat} {p : Pos} {iter : Expr} {body : List Stmt} {pos : Pos} {d : D} {ds : List D} (ts : List (Nat × Str × Pos)) (row : D → List D) (R : Room g.A 0) (hrow : ∀ a ∈ ds, a = .tup (row a) ∧ ts.length = (row a).length) (h1 : ∀ t ∈ ts, g.ns[t.1]? = some t.2.1 ∧ Stored g S t.2.1) (hS : ∀ a ∈ S, a ∈ g.X)
    (heq:assignEach elts g.env=ts.map fun t=>(false,fun v=>PySem.assign (.Name t.2.1 t.2.2) g.env v)) (hi:Ev g ρ μ iter d) (src:Src d ds)
    (J:Nat→List (Option D)→List (Addr × Mut)→Prop) (B:List (Option D)→List (Addr × Mut)→Prop)
    (hμ:∀ i ρ' μ',J i ρ' μ'→doms μ'=doms μ) (hB:∀ ρ' μ',B ρ' μ'→doms μ'=doms μ) (j0:J 0 ρ μ)
    (turn:∀ wr j a ρ' μ',ds[j]?=some a→J j ρ' μ'→Ex { g with X:=wr++g.X } S (setAll ρ' ts (row a)) μ' body (Turn { g with X:=wr++g.X } (J (j+1)) B Φ))
    (done:∀ ρ' μ',J ds.length ρ' μ'→Ex g S ρ' μ' rest Φ) (brk:∀ ρ' μ',B ρ' μ'→Ex g S ρ' μ' rest Φ)
    (hs:∀ x,foldedSetIterable iter g.env x=pure x:=by intro _;rfl):Ex g S ρ μ (.For (.Tuple elts k p) iter body [] pos::rest) Φ :=
  Ex.for R hS hi src J B (fun ρ a=>setAll ρ ts (row a)) hμ hB j0 (fun X' hX ρ' μ' a s v y r ha=>by
    have h:=hrow a ha
    rw [h.1] at r
    exact asg_tuple (g:={ g with X:=X' }) ts R h.2 h1 (fun a ha=>hX a (hS a ha)) heq y r) turn done brk hs
end
end Mine
end
section
open PySem PySem.Calls PySem.W PyProof.Rows PySem.SeqAt
namespace Mine
noncomputable abbrev bl (l:List Nat):Array UInt8:=(l.map fun n=>n.toUInt8).toArray
noncomputable abbrev D.b (l:List Nat):D:=.bytes (bl l)
theorem bl_size (l:List Nat):(bl l).size=l.length:=by simp [bl]
theorem bl_get {l:List Nat} {k c:Nat} (h:l[k]?=some c):(bl l)[k]?=some c.toUInt8:=by simp [bl,h]
theorem byte_nat {c:Nat} (h:c < 256):(c.toUInt8.toNat:Nat)=c:=by
  show c % 2 ^ 8=c
  lia
theorem Src.b {l:List Nat} (h:∀ c∈l,c < 256):Src (.b l) (l.map fun c:Nat=>D.int (c:Int)):=fun C A X s v Q E I hh r hQ=>by
  cases r with | bytes _ t =>
  have W:=PySem.W.KBw.walks (prog:=C.prog) (w:=C.w) hh s.heap.objs.size (bl l) t
  have hlen:(l.map fun c:Nat=>D.int (c:Int)).length=(bl l).size:=by simp [bl]
  rw [← hlen] at W
  refine PySem.W.KBw.pyIter_bytes (hQ _ _ _ _ _ _ .push' ⟨W,?_,?_,?_,?_,?_⟩ ?_)
  · intro b hb;rw [List.mem_singleton.mp hb];exact none_of_ge (Nat.le_refl _)
  · intro b hb;exact .inl hb
  · intro i h' e b hb;rw [List.mem_singleton.mp hb];obtain ⟨o,e,_⟩:=e;exact ⟨_,e⟩
  · rintro i v h' hk ⟨c,u,hc,rfl⟩
    have hi:i < l.length:=by
      have:=(Array.getElem?_eq_some_iff.mp hc).1
      rwa [bl_size] at this
    have hc':=bl_get (List.getElem?_eq_getElem hi)
    rw [hc] at hc';cases hc'
    refine ⟨.int (l[i]:Nat),by simp [List.getElem?_eq_getElem hi],?_⟩
    rw [byte_nat (h _ (List.getElem_mem hi))];exact .int ..
  · intro i s' A' t v Q E e hq
    obtain ⟨o,ho,hc,_⟩:=e
    exact letOwned_skip ho hc (by decide) hq
  · exact ⟨_,Heap.get?_push_size _ rfl,rfl,rfl⟩
theorem iter_str {C : Cx} {A : Around} {X : List Addr} {s : Shared} {l : List Nat} {t : Tok} {T : String} (hT : ownedKinds.contains T = false)
    (W:Walks C.prog C.w A s.heap.objs.size [s.heap.objs.size] [s.heap.objs.size] (sl l).cps.size (SignAt (sl l)) (fun i h=>h.IsStrIter s.heap.objs.size T (sl l) t i)) :
    IterAt C A X s s.heap.objs.size [s.heap.objs.size] [s.heap.objs.size] (SignAt (sl l)) (fun i h=>h.IsStrIter s.heap.objs.size T (sl l) t i) (l.map fun c=>D.s [c]):=by
  have hsz:(sl l).cps.size=(l.map fun c=>D.s [c]).length:=by simp [sl]
  rw [hsz] at W
  refine ⟨W,?_,?_,?_,?_,?_⟩
  · intro b hb;rw [List.mem_singleton.mp hb];exact none_of_ge (Nat.le_refl _)
  · intro b hb;exact .inl hb
  · intro i h' e b hb;rw [List.mem_singleton.mp hb];obtain ⟨o,e,_⟩:=e;exact ⟨_,e⟩
  · rintro i v h' hk ⟨c,u,hc,rfl⟩
    have hc':l[i]?=some c:=by simpa [sl] using hc
    exact ⟨.s [c],by simp [hc'],.str ..⟩
  · intro i s' A' t v Q E e hq
    obtain ⟨o,ho,hc,_⟩:=e
    exact letOwned_skip ho hc hT hq
theorem Src.s {l:List Nat}:Src (.s l) (l.map fun c=>D.s [c]):=fun C A X s v Q E I hh r hQ=>by
  cases r with | str _ t =>
  cases ha:(sl l).cps.all (· < 128)
  · exact wpAny_pyIter_wide ha (hQ _ _ _ _ _ _ .push' (iter_str (by decide) (Walks.strWide hh _ (sl l) t)) ⟨_,Heap.get?_push_size _ rfl,rfl,rfl⟩)
  · exact wpAny_pyIter_ascii ha (hQ _ _ _ _ _ _ .push' (iter_str (by decide) (Walks.strAscii hh _ (sl l) t)) ⟨_,Heap.get?_push_size _ rfl,rfl,rfl⟩)
theorem meets_rev (b : Array UInt8) (t : Tok) (a : Addr) (u : Tok) :
    Meets (Builtin.«bytes.__getitem__» ⟨[.bytes b t,.ref a],[]⟩) (fun _ R s=>s.heap.IsSliceOf a .none .none (.int (-1) u)∧b.size≤sizeLine∧∀ t' k,R (.ok (.ret (.bytes b.toList.reverse.toArray t'))) { s with toks:=k }):=by
  refine .of_wp fun prog w A R s hS=>?_
  obtain ⟨⟨o,ho,hc,hd⟩,hsz,h⟩:=hS
  have hT:s.TypeIs (.ref a) "slice":=⟨o,ho,hc⟩
  show wpAny _ _ (Builtin.Bytes.payload (.bytes b t) >>= fun r=>_) _ _ s
  refine wpAny_bind (wpAny_of_eq (a:=b) rfl ?_)
  show wpAny _ _ (Builtin.Bytes.subscript? (.ref a) >>= fun r=>_) _ _ s
  refine wpAny_bind ?_
  unfold Builtin.Bytes.subscript?
  refine wpAny_bind (wpAny_specialOf hT slice_no_index (wpAny_pure ?_))
  refine wpAny_bind (wpAny_typeOf hT ?_)
  show wpAny _ _ (Builtin.Bytes.sliceParts (.ref a) >>= fun r=>_) _ _ s
  refine wpAny_bind ?_
  unfold Builtin.Bytes.sliceParts
  refine wpAny_bind (wpAny_field (x:=.int (-1) u) ho hd rfl ?_)
  kby_int
  refine wpAny_ite (PySem.W.KBy.ite_no (show ¬ ((rawInt (-1) == rawInt 0)=true) from by decide) ?_)
  refine wpAny_bind (wpAny_field (x:=.none) ho hd rfl ?_)
  kby_none
  refine wpAny_bind (wpAny_field (x:=.none) ho hd rfl ?_)
  kby_none
  refine wpAny_pure ?_
  have go:wpAny (model prog w) A.in1 (sliceIndices (rawPart none) (rawPart none) (rawPart (some (-1))) b.size) (fun r s'=>r=sliceBounds none none (some (-1)) b.size∧s'=s) (fun _ _=>False) s :=
    wpAny_of_eq (sliceIndices_raw none none (some (-1)) b.size (fun e=>by cases e)) ⟨rfl,rfl⟩
  refine wpAny_bind (wpAny_mono go (fun r s' hr=>?_) fun _ _ e=>e.elim)
  obtain ⟨hr1,hr2⟩:=hr
  subst hr1 hr2
  rw [krv_bounds]
  refine wpAny_ite (PySem.W.KBy.ite_no (by simp) ?_)
  have e:Builtin.Bytes.sliced b ((b.size:Int) - 1) (-1) (-1)=b.toList.reverse.toArray:=by
    unfold Builtin.Bytes.sliced
    rw [krv_sliceRange,krv_range,List.filterMap_reverse,krv_all]
  rw [e]
  exact wpAny_bind (wpAny_mkBytes (wpAny_pure ⟨_,rfl,h _ _⟩) (by simpa using hsz))
section
variable {g:G} {ρ:List (Option D)} {μ:List (Addr × Mut)}
theorem picked_cut (b:Array UInt8) (lo hi:Option Int):PySem.W.KBy.picked b lo hi=(cut b.toList lo hi).toArray:=by
  unfold PySem.W.KBy.picked Builtin.Bytes.sliced
  rw [bounds_clip]
  simp only [sliceRange_one,pick_run]
  unfold cut
  rw [Array.length_toList]
theorem Ev.itemB {v i : Expr} {pos : Pos} {l : List Nat} {k : Int} {c : Nat} (R : Room g.A 0) (hv : Ev g ρ μ v (.b l)) (hi : Ev g ρ μ i (.int k)) (h0 : 0 ≤ k) (hd : l[k.toNat]? = Option.some c) (hc : c < 256) (hz : l.length ≤ sizeLine)
    (hs:∀ u t,subscripted i false (.bytes (bl l) u) (.int k t)=operate [.bytes (bl l) u,.int k t] (getItem (.bytes (bl l) u) (.int k t)):=by intro _ _;with_unfolding_all rfl)
    (ht:∀ u r,letTemporaryGo v (.bytes (bl l) u) r=pure ():=by intro _ _;with_unfolding_all rfl):Ev g ρ μ (.Subscript v i pos) (.int c):=Ev.sub R hv hi fun C A X s va vb I R r q=>by
  (first | obtain rfl:=q.vI | obtain ⟨_,rfl⟩:=q.iI | obtain ⟨_,rfl⟩:=q.sI | obtain ⟨_,rfl⟩:=q.bI | obtain rfl:=q.nI | cases q)
  (first | obtain rfl:=r.vI | obtain ⟨_,rfl⟩:=r.iI | obtain ⟨_,rfl⟩:=r.sI | obtain ⟨_,rfl⟩:=r.bI | obtain rfl:=r.nI | cases r)
  have hlt:k.toNat < l.length:=(List.getElem?_eq_some_iff.mp hd).1
  have:sizeLine=16777216:=rfl
  have hl:(PySem.W.KBw.bInts (bl l)).length=l.length:=by rw [PySem.W.KBw.ints_length,bl_size]
  refine PySem.W.KBw.item_K (b:=bl l) rfl (by rw [hl];lia) h0 (by rw [hl];lia) (fun t' k' _ _=>⟨.tok,?_⟩) (hs _ _) (ht _)
  have e:(PySem.W.KBw.bInts (bl l)).getD k.toNat 0=(c:Int):=by
    have:(PySem.W.KBw.bInts (bl l))[k.toNat]?=some (c:Int):=by
      rw [PySem.W.KBw.ints_get (bl_get hd),byte_nat hc]
    rw [List.getD_eq_getElem?_getD,this];rfl
  rw [e];exact .int ..
theorem Ev.sliceB {v : Expr} {lo hi : Option Expr} {p pos : Pos} {l : List Nat} {i j : Option Int} (R : Room g.A 0) (hv : Ev g ρ μ v (.b l)) (hl : EvP g ρ μ lo i) (hh : EvP g ρ μ hi j) (hz : l.length ≤ sizeLine) :
    Ev g ρ μ (.Subscript v (.Slice lo hi Option.none p) pos) (.b (cut l i j)):=Ev.slice hv hl hh EvP.none (fun C A X s va l' u c I R r p1 p2 p3=>by
  (first | obtain rfl:=p3.vI | obtain ⟨_,rfl⟩:=p3.iI | obtain ⟨_,rfl⟩:=p3.sI | obtain ⟨_,rfl⟩:=p3.bI | obtain rfl:=p3.nI | cases p3)
  (first | obtain rfl:=r.vI | obtain ⟨_,rfl⟩:=r.iI | obtain ⟨_,rfl⟩:=r.sI | obtain ⟨_,rfl⟩:=r.bI | obtain rfl:=r.nI | cases r)
  refine tail_any (typeIs_bytes _ _ _) FB.slot_bytes_getitem.lookup (getItem_meets (typeIs_bytes _ _ _) (by decide) FB.slot_bytes_getitem FB.entry_bytes_getitem (FB.args_bytes_getitem_2 _ _) (PySem.W.KBc.meets_slice2 (bl l) _ _ p1 p2)
    ⟨Heap.IsSliceOf.new _ _ _ _,Nat.le_trans (PySem.W.KBc.size_picked_le (bl l) i j) (by rw [bl_size];exact hz),fun t' k=>⟨.tok,?_⟩⟩) rfl
  have e:PySem.W.KBy.picked (bl l) i j=bl (cut l i j):=by
    rw [picked_cut]
    show (cut (l.map _) i j).toArray=_
    rw [cut_map]
  rw [e];exact .bytes ..) R
theorem Ev.revB {v st : Expr} {p pos : Pos} {l : List Nat} (R : Room g.A 0) (hv : Ev g ρ μ v (.b l)) (hst : Ev g ρ μ st (.int (-1))) (hz : l.length ≤ sizeLine) :
    Ev g ρ μ (.Subscript v (.Slice Option.none Option.none (Option.some st) p) pos) (.b l.reverse):=Ev.slice hv EvP.none EvP.none (EvP.some hst) (fun C A X s va l' u c I R r p1 p2 p3=>by
  (first | obtain rfl:=p1.vI | obtain ⟨_,rfl⟩:=p1.iI | obtain ⟨_,rfl⟩:=p1.sI | obtain ⟨_,rfl⟩:=p1.bI | obtain rfl:=p1.nI | cases p1);(first | obtain rfl:=p2.vI | obtain ⟨_,rfl⟩:=p2.iI | obtain ⟨_,rfl⟩:=p2.sI | obtain ⟨_,rfl⟩:=p2.bI | obtain rfl:=p2.nI | cases p2);(first | obtain rfl:=p3.vI | obtain ⟨_,rfl⟩:=p3.iI | obtain ⟨_,rfl⟩:=p3.sI | obtain ⟨_,rfl⟩:=p3.bI | obtain rfl:=p3.nI | cases p3)
  (first | obtain rfl:=r.vI | obtain ⟨_,rfl⟩:=r.iI | obtain ⟨_,rfl⟩:=r.sI | obtain ⟨_,rfl⟩:=r.bI | obtain rfl:=r.nI | cases r)
  refine tail_any (typeIs_bytes _ _ _) FB.slot_bytes_getitem.lookup (getItem_meets (typeIs_bytes _ _ _) (by decide) FB.slot_bytes_getitem FB.entry_bytes_getitem (FB.args_bytes_getitem_2 _ _) (meets_rev (bl l) _ _ _)
    ⟨Heap.IsSliceOf.new _ _ _ _,by rw [bl_size];exact hz,fun t' k=>⟨.tok,?_⟩⟩) rfl
  have e:(bl l).toList.reverse.toArray=bl l.reverse:=by simp [bl]
  rw [e];exact .bytes ..) R
end
end Mine
end
section
open PySem PySem.Calls PySem.W PyProof.Rows PySem.SeqAt MeetsSeq MeetsSeq2 MeetsSeq3 SeqRoads2
open AutoSeq1 (wpAny_loadPart')
set_option maxHeartbeats 4000000
namespace Mine
inductive OrdOp:CmpOp→Int→Prop
  | le:OrdOp .LtE 1
  | gt:OrdOp .Gt 4
  | lt:OrdOp .Lt 0
noncomputable def decI (op:CmpOp) (x y:Int):Bool:=match op with | .Gt=>decide (x > y) | _=>decide (x < y)
noncomputable def ordS (op:CmpOp) (m n:Nat):Bool:=match op with | .Lt=>decide (m < n) | .LtE=>decide (m≤n) | _=>decide (m > n)
noncomputable def ordI (op:CmpOp):List Int→List Int→Bool
  | [],ys=>ordS op 0 ys.length
  | x::xs,ys=>List.casesOn ys (ordS op (xs.length+1) 0) fun y ys=>if x=y then ordI op xs ys else decI op x y
theorem ordI_end {op:CmpOp} {xs ys:List Int} (h:xs=[]∨ys=[]):ordI op xs ys=ordS op xs.length ys.length:=by
  rcases h with rfl | rfl
  · rfl
  · cases xs <;> rfl
theorem ordS_sub {op:CmpOp} {code:Int} (O:OrdOp op code) {i m n:Nat} (h1:i≤m) (h2:i≤n):ordS op (m - i) (n - i)=ordS op m n:=by
  cases O with
  | le=>exact decide_eq_decide.mpr (Nat.sub_le_sub_iff_right h2)
  | gt=>exact decide_eq_decide.mpr (Nat.sub_lt_sub_iff_right h2)
  | lt=>exact decide_eq_decide.mpr (Nat.sub_lt_sub_iff_right h1)
theorem ordI_same {op:CmpOp} {x y:Int} {xs ys:List Int} (h:x=y):ordI op (x::xs) (y::ys)=ordI op xs ys:=if_pos h
theorem ordI_diff {op:CmpOp} {x y:Int} {xs ys:List Int} (h:¬ x=y):ordI op (x::xs) (y::ys)=decI op x y:=if_neg h
theorem rich_int {op:CmpOp} {code:Int} (O:OrdOp op code) {prog:Program} {w:World} {A:Around} {E:Value→Shared→Prop} {Q:Value→Shared→Prop} {s:Shared} {x y:Int} {t u:Tok} (hne:x≠y) (h:Q (.bool (decI op x y)) s):wpAny (model prog w) A (richCompare op (.int x t) (.int y u)) Q E s:=by
  cases O with
  | le =>
    have e:decI .LtE x y=decide (x≤y):=by show decide (x < y)=decide (x≤y);simp only [decide_eq_decide];lia
    rw [e] at h
    exact (_root_.PySem.P.le_int h:wpAny (model prog w) A (compareOp .LtE (.int x t) (.int y u)) Q E s)
  | gt=>exact (_root_.PySem.P.gt_int h:wpAny (model prog w) A (compareOp .Gt (.int x t) (.int y u)) Q E s)
  | lt=>exact (_root_.PySem.P.lt_int h:wpAny (model prog w) A (compareOp .Lt (.int x t) (.int y u)) Q E s)
noncomputable def IntAt (s:Shared) (items:Array Value) (xs:List Int):Prop:=items.size=xs.length∧∀ j,(h:j < xs.length)→∃ t,items[j]?=some (.int xs[j] t)
theorem ord_loop {op : CmpOp} {code : Int} (O : OrdOp op code) (l b : Addr) (items items2 : Array Value) (xs ys : List Int) (n n2 : Nat) (k : Nat) :
    ∀ i:Nat,xs.length - i=k→i≤xs.length→i≤ys.length→Meets (Builtin.«list.__eq__.loop» ⟨[.ref l,.ref b,rawInt i,rawInt code],[]⟩)
      (fun A R s=>s.heap.get? l=some { cls:=.type "list",dict:=none,data:=.seq items n,slots:=#[] }∧s.heap.get? b=some { cls:=.type "list",dict:=none,data:=.seq items2 n2,slots:=#[] } ∧
        IntAt s items xs∧IntAt s items2 ys∧R (.ok (.ret (.bool (ordI op (xs.drop i) (ys.drop i))))) s):=by
  have last : ∀ i : Nat, i ≤ xs.length → i ≤ ys.length → (xs.length ≤ i ∨ ys.length ≤ i) → Meets (Builtin.«list.__eq__.loop» ⟨[.ref l, .ref b, rawInt i, rawInt code], []⟩)
      (fun A R s=>s.heap.get? l=some { cls:=.type "list",dict:=none,data:=.seq items n,slots:=#[] }∧s.heap.get? b=some { cls:=.type "list",dict:=none,data:=.seq items2 n2,slots:=#[] } ∧
        IntAt s items xs∧IntAt s items2 ys∧R (.ok (.ret (.bool (ordI op (xs.drop i) (ys.drop i))))) s):=by
    intro i h1 h2 h3 prog w A R s h
    obtain ⟨hp,g,d,tk,os⟩:=s;obtain ⟨hl,hb,⟨s1,e1⟩,⟨s2,e2⟩,h⟩:=h
    rw [ordI_end (h3.imp List.drop_eq_nil_of_le List.drop_eq_nil_of_le),List.length_drop,List.length_drop,ordS_sub O h1 h2,← s1,← s2] at h
    have hi:items[((i:Nat):Int).toNat]?=none∨((∃ v,items[((i:Nat):Int).toNat]?=some v)∧items2[((i:Nat):Int).toNat]?=none):=by
      show items[i]?=none∨((∃ v,items[i]?=some v)∧items2[i]?=none)
      cases e:items[i]? with
      | none=>exact .inl rfl
      | some v=>exact .inr ⟨⟨v,rfl⟩,h3.elim (fun h=>nomatch (Array.getElem?_eq_none (s1.symm ▸ h)).symm.trans e) fun h=>Array.getElem?_eq_none (s2.symm ▸ h)⟩
    cases O <;>
    · wp_walk using wpAny_loadPart' hl,wpAny_loadPart' hb
      rcases hi with hi | ⟨⟨v,hi⟩,hi2⟩
      · rw [hi]
        wp_walk using wpAny_loadPart' hl,wpAny_loadPart' hb
        exact h
      · rw [hi,hi2]
        wp_walk using wpAny_loadPart' hl,wpAny_loadPart' hb
        exact h
  induction k with
  | zero=>intro i hk h1 h2;exact last i h1 h2 (.inl (by lia))
  | succ k ih =>
    intro i hk h1 h2
    by_cases h3:ys.length≤i
    · exact last i h1 h2 (.inr h3)
    intro prog w A R s h
    obtain ⟨hp,g,d,tk,os⟩:=s;obtain ⟨hl,hb,⟨s1,e1⟩,⟨s2,e2⟩,h⟩:=h
    have hx:i < xs.length:=by lia
    have hy:i < ys.length:=by lia
    obtain ⟨t1,f1⟩:=e1 i hx
    obtain ⟨t2,f2⟩:=e2 i hy
    have hi1:items[((i:Nat):Int).toNat]?=some (.int xs[i] t1):=f1
    have hi2:items2[((i:Nat):Int).toNat]?=some (.int ys[i] t2):=f2
    have hc:((i:Int)+1)=((i+1:Nat):Int):=rfl
    rw [List.drop_eq_getElem_cons hx,List.drop_eq_getElem_cons hy] at h
    cases O <;>
    · wp_walk using wpAny_loadPart' hl,wpAny_loadPart' hb
      rw [hi1,hi2]
      refine wpAny_bind ((MeetsSeq.EqGives.int xs[i] ys[i] t1 t2) prog w _ _ _ _ ?_)
      by_cases hxy:xs[i]=ys[i]
      · rw [ordI_same hxy] at h
        simp only [hxy,decide_true,beq_self_eq_true,if_true]
        rw [hc]
        exact wpAny_pure ⟨plainId_quiet plain_eq_loop _,codeAny_builtin entry_eq_loop (by
          rw [Around.under_plainId plain_eq_loop _]
          exact ih (i+1) (by lia) (by lia) (by lia) prog w A R _ ⟨hl,hb,⟨s1,e1⟩,⟨s2,e2⟩,h⟩)⟩
      · rw [ordI_diff hxy] at h
        simp only [hxy,decide_false,beq_eq_false_iff_ne.mpr hxy,Bool.false_eq_true,if_false]
        wp_walk using wpAny_loadPart' hl,wpAny_loadPart' hb
        rw [hi1,hi2]
        exact wpAny_bind (rich_int (by constructor) hxy (wpAny_pure h))
theorem meets_le (l b : Addr) (items items2 : Array Value) (xs ys : List Int) (n n2 : Nat) : Meets (Builtin.«list.__le__» ⟨[.ref l, .ref b], []⟩)
      (fun A R s=>s.heap.get? l=some { cls:=.type "list",dict:=none,data:=.seq items n,slots:=#[] }∧s.heap.get? b=some { cls:=.type "list",dict:=none,data:=.seq items2 n2,slots:=#[] } ∧
        IntAt s items xs∧IntAt s items2 ys∧R (.ok (.ret (.bool (ordI .LtE xs ys)))) s):=by
  intro prog w A R s h
  obtain ⟨hp,g,d,tk,os⟩:=s;obtain ⟨hl,hb,i1,i2,h⟩:=h
  have f3:=AutoSeq1.sub_list_list
  wp_walk using wpAny_loadPart' hl,wpAny_loadPart' hb
  exact ⟨plainId_quiet plain_eq_loop _,codeAny_builtin entry_eq_loop (by
    rw [Around.under_plainId plain_eq_loop _]
    exact ord_loop OrdOp.le l b items items2 xs ys n n2 _ 0 rfl (Nat.zero_le _) (Nat.zero_le _) prog w A R _ ⟨hl,hb,i1,i2,h⟩)⟩
theorem meets_gt (l b : Addr) (items items2 : Array Value) (xs ys : List Int) (n n2 : Nat) : Meets (Builtin.«list.__gt__» ⟨[.ref l, .ref b], []⟩)
      (fun A R s=>s.heap.get? l=some { cls:=.type "list",dict:=none,data:=.seq items n,slots:=#[] }∧s.heap.get? b=some { cls:=.type "list",dict:=none,data:=.seq items2 n2,slots:=#[] } ∧
        IntAt s items xs∧IntAt s items2 ys∧R (.ok (.ret (.bool (ordI .Gt xs ys)))) s):=by
  intro prog w A R s h
  obtain ⟨hp,g,d,tk,os⟩:=s;obtain ⟨hl,hb,i1,i2,h⟩:=h
  have f3:=AutoSeq1.sub_list_list
  wp_walk using wpAny_loadPart' hl,wpAny_loadPart' hb
  exact ⟨plainId_quiet plain_eq_loop _,codeAny_builtin entry_eq_loop (by
    rw [Around.under_plainId plain_eq_loop _]
    exact ord_loop OrdOp.gt l b items items2 xs ys n n2 _ 0 rfl (Nat.zero_le _) (Nat.zero_le _) prog w A R _ ⟨hl,hb,i1,i2,h⟩)⟩
theorem meets_lt (l b : Addr) (items items2 : Array Value) (xs ys : List Int) (n n2 : Nat) : Meets (Builtin.«list.__lt__» ⟨[.ref l, .ref b], []⟩)
      (fun A R s=>s.heap.get? l=some { cls:=.type "list",dict:=none,data:=.seq items n,slots:=#[] }∧s.heap.get? b=some { cls:=.type "list",dict:=none,data:=.seq items2 n2,slots:=#[] } ∧
        IntAt s items xs∧IntAt s items2 ys∧R (.ok (.ret (.bool (ordI .Lt xs ys)))) s):=by
  intro prog w A R s h
  obtain ⟨hp,g,d,tk,os⟩:=s;obtain ⟨hl,hb,i1,i2,h⟩:=h
  have f3:=AutoSeq1.sub_list_list
  wp_walk using wpAny_loadPart' hl,wpAny_loadPart' hb
  exact ⟨plainId_quiet plain_eq_loop _,codeAny_builtin entry_eq_loop (by
    rw [Around.under_plainId plain_eq_loop _]
    exact ord_loop OrdOp.lt l b items items2 xs ys n n2 _ 0 rfl (Nat.zero_le _) (Nat.zero_le _) prog w A R _ ⟨hl,hb,i1,i2,h⟩)⟩
theorem RepL.intAt {X:List Addr} {s:Shared} {vs:List Value} {xs:List Int} (r:RepL X s.heap vs (xs.map D.int)):IntAt s vs.toArray xs:=by
  refine ⟨r.length.trans (List.length_map ..),fun j h=>?_⟩
  obtain ⟨v,hv,rv⟩:=r.get (k:=j) (d:=.int xs[j]) ((List.getElem?_map ..).trans (congrArg (Option.map D.int) (List.getElem?_eq_getElem h)))
  obtain ⟨t,rfl⟩:=rv.iI
  exact ⟨t,(List.getElem?_toArray ..).trans hv⟩
theorem Cmp.ordL {op:CmpOp} {code:Int} (O:OrdOp op code) (xs ys:List Int):Cmp op (.lst (xs.map D.int)) (.lst (ys.map D.int)) (D.bool (ordI op xs ys)):=fun C A X s va vb I R r q=>by
  have hu:=R.u
  have hc:cLine=9900:=rfl
  have hI:=r.lI;clear r;obtain ⟨l,vs,nn,hE,h1,e1,r⟩:=hI;cases hE
  have hI:=q.lI;clear q;obtain ⟨b,ws,nm,hE,h2,e2,q⟩:=hI;cases hE
  have hT:s.TypeIs (.ref l) "list":=⟨_,e1,rfl⟩
  have hT':s.TypeIs (.ref b) "list":=⟨_,e2,rfl⟩
  have hp:e1=e1:=rfl
  cases O with
  | le=>exact richCompare_meets_room (op:=.LtE) hT hT' F.slot_list_le F.entry_list_le (F.args_list_le_2 _ _) (meets_le l b vs.toArray ws.toArray xs ys nn nm) ⟨e1,e2,r.intAt,q.intAt,(fun x=>nomatch x),.refl ..,.val _⟩ (by lia)
  | gt=>exact richCompare_meets_room (op:=.Gt) hT hT' F.slot_list_gt F.entry_list_gt (F.args_list_gt_2 _ _) (meets_gt l b vs.toArray ws.toArray xs ys nn nm) ⟨e1,e2,r.intAt,q.intAt,(fun x=>nomatch x),.refl ..,.val _⟩ (by lia)
  | lt=>exact richCompare_meets_room (op:=.Lt) hT hT' F.slot_list_lt F.entry_list_lt (F.args_list_lt_2 _ _) (meets_lt l b vs.toArray ws.toArray xs ys nn nm) ⟨e1,e2,r.intAt,q.intAt,(fun x=>nomatch x),.refl ..,.val _⟩ (by lia)
end Mine
end
section
open PySem PySem.Calls PySem.W PyProof.Rows PySem.SeqAt
namespace Mine
noncomputable def kinds (xs:List Int):Nat:=(firstMet (fun i=>xs.getD i 0) xs.length).length
section
variable {g:G} {ρ:List (Option D)} {μ:List (Addr × Mut)}
theorem Ev.lenSet {fl fs e : Expr} {p1 p2 : Pos} {xs : List Int} (R : Room g.A 0) (hl : Ev g ρ μ fl (.val (.builtin "len"))) (hs : Ev g ρ μ fs (.val (.type "set"))) (he : Ev g ρ μ e (.lst (xs.map D.int))) (hz : xs.length ≤ 1000)
    (hq:eval (.Call fl [.Call fs [e] [] p2] [] p1) g.env=(eval fl g.env >>= fun v=>callWith p1 v [] (backTo p1 (starEach [.Call fs [e] [] p2] g.env)) []):=by rfl)
    (hq2:eval (.Call fs [e] [] p2) g.env=(eval fs g.env >>= fun v=>callWith p2 v [] (backTo p2 (starEach [e] g.env)) []):=by rfl)
    (he1:starEach [.Call fs [e] [] p2] g.env=(false,eval (.Call fs [e] [] p2) g.env)::starEach [] g.env:=by rfl) (he2:starEach [e] g.env=(false,eval e g.env)::starEach [] g.env:=by rfl) :
    Ev g ρ μ (.Call fl [.Call fs [e] [] p2] [] p1) (.int (kinds xs)):=fun s y=>by
  refine call_open hq (hl.wp y fun v s₁ y₁ r₁ e₁=>?_)
  (first | obtain rfl:=r₁.vI | obtain ⟨_,rfl⟩:=r₁.iI | obtain ⟨_,rfl⟩:=r₁.sI | obtain ⟨_,rfl⟩:=r₁.bI | obtain rfl:=r₁.nI | cases r₁)
  refine callWith_B rfl (spliced_open he1 (call_open hq2 (hs.wp y₁ fun v s₂ y₂ r₂ e₂=>?_))) he1
  (first | obtain rfl:=r₂.vI | obtain ⟨_,rfl⟩:=r₂.iI | obtain ⟨_,rfl⟩:=r₂.sI | obtain ⟨_,rfl⟩:=r₂.bI | obtain rfl:=r₂.nI | cases r₂)
  refine callWith_B rfl (spliced_open he2 (he.wp y₂ fun v s₃ y₃ r₃ e₃=>?_)) he2
  refine spliced_nil ?_
  have hI:=r₃.lI;clear r₃;obtain ⟨l,vs,nn,hE,h1,e1,r⟩:=hI;cases hE
  have hL:s₃.heap.IsList l vs.toArray:=⟨_,e1,rfl,nn,rfl⟩
  have lv:=r.length
  rw [List.length_map] at lv
  refine call_set_list R.h hL r.ints (by simp [scanBound];lia) fun h' tk hS hk=>?_
  refine spliced_nil ?_
  obtain ⟨o,ho,hso⟩:=hS.objOf
  obtain ⟨hex,es,ep,t,hd,_,_,hn,hf⟩:=hso
  have hsz:es.size=kinds xs:=by rw [hn];unfold kinds;rw [List.size_toArray,lv]
  have hle:kinds xs≤xs.length:=firstMet_length_le _ _
  refine call_len_set ho hex hd hf (by lia) ⟨?_,?_⟩
  · exact (((e₁.trans e₂).trans e₃).trans (.up (s:=s₃) (tk:=tk) fun b o e=>hk b o (Heap.lt_size e) e)).trans .tok
  · rw [hsz];exact .int ..
end
end Mine
end
section
open PySem PySem.Calls PySem.W PyProof.Rows PySem.SeqAt
set_option maxHeartbeats 4000000
namespace Mine
noncomputable def evalT {α:Type} (lt:Nat→Nat→Bool):KasT α→α
  | .ret a=>a
  | .ask i j k=>evalT lt (k (lt i j))
noncomputable def TIn {α:Type} (n:Nat) (post:α→Prop):KasT α→Prop
  | .ret a=>post a
  | .ask i j k=>i < n∧j < n∧∀ b,TIn n post (k b)
theorem TIn.bind {α β:Type} {n:Nat} {p:α→Prop} {q:β→Prop} {f:α→KasT β}:∀ {t:KasT α},TIn n p t→(∀ a,p a→TIn n q (f a))→TIn n q (t.bind f)
  | .ret a,h,k=>k a h
  | .ask i j g,h,k=>⟨h.1,h.2.1,fun b=>TIn.bind (h.2.2 b) k⟩
theorem TIn.eval {α:Type} {n:Nat} {p:α→Prop} {lt:Nat→Nat→Bool}:∀ {t:KasT α},TIn n p t→p (evalT lt t)
  | .ret a,h=>h
  | .ask i j g,h=>TIn.eval (t:=g (lt i j)) (h.2.2 _)
noncomputable def LowP (n:Nat) (p:Array Nat):Prop:=∀ x∈p,x < n
theorem LowP.get {n:Nat} {p:Array Nat} (h:LowP n p) (hn:0 < n) (k:Nat):p.getD k 0 < n:=by
  rw [Array.getD_eq_getD_getElem?]
  cases e:p[k]? with
  | none=>exact hn
  | some x=>exact h x (Array.mem_of_getElem? e)
theorem LowP.perm {n:Nat} {p q:Array Nat} (h:LowP n p) (e:q.Perm p):LowP n q:=fun x hx=>h x (e.mem_iff.mp hx)
theorem LowP.rev {n:Nat} {p:Array Nat} (h:LowP n p) (i j:Nat):LowP n (kas_rev p i j):=h.perm (mirror_perm ..)
section
variable {n:Nat} (hn:0 < n)
include hn
theorem tin_asc {p:Array Nat} (h:LowP n p):∀ f k,TIn n (fun _=>True) (kas_asc p f k)
  | 0,k=>trivial
  | f+1,k=>⟨h.get hn _,h.get hn _,fun b=>by
    cases b with
    | true=>exact trivial
    | false=>exact tin_asc h f (k+1)⟩
theorem tin_desc:∀ f (p:Array Nat) k q,LowP n p→TIn n (fun r:Array Nat × Nat × Nat=>LowP n r.1) (kas_desc f p k q)
  | 0,p,k,q,h=>h
  | f+1,p,k,q,h=>⟨h.get hn _,h.get hn _,fun b=>by
    cases b with
    | true =>
      show TIn n _ (if q > 0 then _ else _)
      by_cases hq:q > 0
      · rw [if_pos hq];exact tin_desc f _ _ _ (h.rev _ _)
      · rw [if_neg hq];exact tin_desc f _ _ _ h
    | false => exact ⟨h.get hn _, h.get hn _, fun d => by
        cases d with
        | true=>exact h
        | false=>exact tin_desc f _ _ _ h⟩⟩
theorem tin_tail3 {p:Array Nat} (h:LowP n p) (k m:Nat):TIn n (fun r:Nat × Array Nat=>LowP n r.2) (kas_tail3 k m p) :=
  TIn.bind (tin_asc hn (h.rev _ _) _ _) fun a _=>h.rev _ _
theorem tin_descPart {p:Array Nat} (h:LowP n p) (k m:Nat):TIn n (fun r:Nat × Array Nat=>LowP n r.2) (kas_descPart k m p) :=
  TIn.bind (tin_desc hn _ _ _ _ h) fun r hr=>by
    show TIn n _ (if r.2.2 > 0 then _ else _)
    by_cases hq:r.2.2 > 0
    · rw [if_pos hq];exact tin_tail3 hn (hr.rev _ _) _ _
    · rw [if_neg hq];exact tin_tail3 hn hr _ _
theorem tin_count {p:Array Nat} (h:LowP n p) (m:Nat):TIn n (fun r:Nat × Array Nat=>LowP n r.2) (kas_count m p) :=
  TIn.bind (tin_asc hn h _ _) fun k _=>by
    show TIn n _ (if (k == m)=true then _ else _)
    by_cases hq:(k == m)=true
    · rw [if_pos hq];exact h
    · rw [if_neg hq]
      by_cases hk:k > 1
      · rw [if_pos hk];exact ⟨h.get hn _,h.get hn _,fun c=>by
          cases c with
          | true=>exact h
          | false=>exact tin_descPart hn (h.rev _ _) _ _⟩
      · rw [if_neg hk];exact tin_descPart hn h _ _
theorem tin_place {p:Array Nat} (h:LowP n p) (k:Nat):∀ f l r,TIn n (fun _=>True) (kas_place p k f l r)
  | 0,l,r=>trivial
  | f+1,l,r=>by
    show TIn n _ (if l≥r then _ else _)
    by_cases hq:l≥r
    · rw [if_pos hq];exact trivial
    · rw [if_neg hq];exact ⟨h.get hn _,h.get hn _,fun c=>by
        cases c with
        | true=>exact tin_place h k f _ _
        | false=>exact tin_place h k f _ _⟩
theorem tin_bin:∀ f (p:Array Nat) k,LowP n p→TIn n (LowP n) (kas_bin f p k)
  | 0,p,k,h=>h
  | f+1,p,k,h=>TIn.bind (tin_place hn h _ _ _ _) fun l _=>tin_bin f _ _ (h.perm (bubble_perm ..))
theorem tin_sort:TIn n (LowP n) (kas_sort n):=by
  have h0:LowP n (List.toArray (List.range n)):=fun x hx=>by simpa using hx
  refine TIn.bind (tin_count hn h0 _) fun r hr=>?_
  show TIn n _ (if r.1 < n then _ else _)
  by_cases hq:r.1 < n
  · rw [if_pos hq];exact tin_bin hn _ _ _ hr
  · rw [if_neg hq];exact hr
end
theorem wp_evalT {α : Type} {n : Nat} {post : α → Prop} {lt : Nat → Nat → Bool} {cmp : Nat → Nat → (Bool → Shared → Prop) → Shared → Prop} {Q : α → Shared → Prop} {s : Shared} (hC : ∀ i j C, i < n → j < n → C (lt i j) s → cmp i j C s) :
    ∀ {t:KasT α},TIn n post t→Q (evalT lt t) s→t.kasWp cmp Q s
  | .ret a,_,q=>q
  | .ask i j k,h,q=>hC i j _ h.1 h.2.1 (wp_evalT hC (h.2.2 _) q)
section
variable {prog:Program} {w:World} {A:Around} {E:Value→Shared→Prop} {s:Shared}
noncomputable def sortIx (n:Nat) (lt:Nat→Nat→Bool):List Nat:=if n < 2 then List.range n else (evalT lt (kas_sort n)).toList
theorem list_sort_raw {a : Addr} {vs : List Value} {n : Nat} {κ : PyProof.Rows.SortKind} {lt : Nat → Nat → Bool} {P : PySem.Fin → Shared → Prop} (ho : s.heap.get? a = some (seqObj "list" vs.toArray n)) (h64 : vs.length < 64)
    (hK:2≤vs.length→∀ (Q:PyProof.Rows.SortKind→Shared→Prop) s',(∀ b o,b≠a→s.heap.get? b=some o→s'.heap.get? b=some o)→Q κ s'→wpAny (model prog w) A (keyKind' vs.toArray) Q (fun _ _=>False) s')
    (hC:∀ i j (C:Bool→Shared→Prop) s',i < vs.length→j < vs.length→(∀ b o,b≠a→s.heap.get? b=some o→s'.heap.get? b=some o)→C (lt i j) s'→wpAny (model prog w) A (keyLt' κ (vs.getD i Value.none) (vs.getD j Value.none)) C (fun _ _=>False) s')
    (h:∀ h' c,(∀ b o,b≠a→s.heap.get? b=some o→h'.get? b=some o)→h'.get? a=some (seqObj "list" ((sortIx vs.length lt).map fun i=>vs.getD i Value.none).toArray c)→P (.done (.ret .none)) { s with heap:=h' }) :
    wpAny (model prog w) A (Builtin.«list.sort» ⟨[.ref a],[]⟩) P E s:=by
  have ha:a < s.heap.objs.size:=Heap.lt_size ho
  have s1:=Heap.SameBut.update s.heap a (Obj.mapSeq fun _=>(#[]:Array Value))
  obtain ⟨e1,ho1⟩:∃ e1,(s.heap.update a (Obj.mapSeq fun _=>(#[]:Array Value))).get? a=some (seqObj "list" #[] e1):=⟨_,get?_update_seq ho fun _=>#[]⟩
  have k3:∀ b o,b≠a→s.heap.get? b=some o→(((s.heap.update a (Obj.mapSeq fun _=>(#[]:Array Value))).push (seqObj "tuple" vs.toArray 0)).push (seqObj "list" #[] 0)).get? b=some o:=fun b o hb e =>
    Heap.get?_push_of_some _ (Heap.get?_push_of_some _ ((s1.2 b hb).trans e))
  have na:(((s.heap.update a (Obj.mapSeq fun _=>(#[]:Array Value))).push (seqObj "tuple" vs.toArray 0)).push (seqObj "list" #[] 0)).get? a=some (seqObj "list" #[] e1):=Heap.get?_push_of_some _ (Heap.get?_push_of_some _ ho1)
  rw [list_sort_plain]
  refine wpAny_bind (listItems_at ho rfl ?_)
  refine wpAny_bind (listUpdate_at ho rfl ?_ (by rw [List.size_toArray,sizeLine_eq];lia) (Nat.zero_le _))
  refine wpAny_bind (seqEpoch_at ho1 rfl ?_)
  refine wpAny_bind (wpAny_newTuple ?_ (by show vs.length≤_;rw [sizeLine_eq];lia))
  refine wpAny_bind (wpAny_newList ?_ (Nat.zero_le _))
  refine wpAny_holding ?_
  generalize hH:((s.heap.update a (Obj.mapSeq fun _=>(#[]:Array Value))).push (seqObj "tuple" vs.toArray 0)).push (seqObj "list" #[] 0)=H at k3 na
  dsimp only
  have fin : ∀ (st' : SortSt) (out : List Value), (arrOf st').map (·.2) = out.toArray → out.length = vs.length → failedOf st' = none → out = (sortIx vs.length lt).map (fun i => vs.getD i Value.none) →
      wpAny (model prog w) A (do
        let touched:=(← seqEpoch a) != e1
        Builtin.List.listUpdate (.ref a) fun _=>(arrOf st').map (·.2)
        if let some e:=failedOf st' then rule "list.sort.comparison-raised";throw e
        if touched then rule "list.sort.modified";raiseError "ValueError" "list modified during sort"
        ret .none) P E { s with heap:=H }:=by
    intro st' out hout hsz hf hix
    rw [hout]
    have s2:=Heap.SameBut.update H a (Obj.mapSeq fun _=>out.toArray)
    obtain ⟨c2,hc2⟩:∃ c2,(H.update a (Obj.mapSeq fun _=>out.toArray)).get? a=some (seqObj "list" out.toArray c2):=⟨_,get?_update_seq na fun _=>out.toArray⟩
    refine wpAny_bind (seqEpoch_at na rfl ?_)
    refine wpAny_bind (listUpdate_at na rfl ?_ (Nat.zero_le _) (by rw [List.size_toArray,sizeLine_eq];lia))
    rw [hf]
    simp only [bne_self_eq_false,Bool.false_eq_true,if_false]
    exact wpAny_pure (h _ c2 (fun b o hb e=>(s2.2 b hb).trans (k3 b o hb e)) (by rw [hc2,hix]))
  by_cases h2:vs.length < 2
  · have hn2:vs.toArray.size < 2:=by rw [List.size_toArray];exact h2
    rw [if_pos hn2,if_pos hn2]
    refine wpAny_bind (wpAny_pure ?_)
    refine wpAny_bind (wpAny_pure ?_)
    refine fin (SortSt.mk' general' (vs.toArray.zip vs.toArray) #[] 7 none) vs ?_ rfl rfl ?_
    · show ((vs.toArray.zip vs.toArray).map (·.2))=_
      rw [Array.map_snd_zip (by simp)]
    · unfold sortIx
      rw [if_pos h2]
      refine List.ext_getElem (by simp) fun i h1 h3=>?_
      simp [List.getD_eq_getElem?_getD,List.getElem?_eq_getElem h1]
  · have hn2:¬ vs.toArray.size < 2:=by rw [List.size_toArray];exact h2
    rw [if_neg hn2,if_neg hn2]
    have hpos:0 < vs.length:=by lia
    refine wpAny_bind (wpAny_mono (hK (by lia) (fun κ' s'=>κ'=κ∧s'=_) _ k3 ⟨rfl,rfl⟩) (fun κ' s' q=>?_) fun _ _ x=>x.elim)
    obtain ⟨rfl,rfl⟩:=q
    have run : (kas_sort vs.length).kasWp (kas_ask prog w A κ' vs) (fun p s' => p = evalT lt (kas_sort vs.length) ∧ s' = { s with heap := H })
        { s with heap:=H } :=
      wp_evalT (fun i j C hi hj q=>hC i j C _ hi hj k3 q) (tin_sort hpos) ⟨rfl,rfl⟩
    refine wpAny_bind (wpAny_mono (kat_run (Q:=fun st' s'=>∃ p:Array Nat,p.size=vs.length∧arrOf st'=p.map (kas_item (vs.toArray.zip vs.toArray))∧failedOf st'=none∧p=evalT lt (kas_sort vs.length)∧s'={ s with heap:=H })
      rfl (by lia) h64 (fun p' st' s' a1 a2 a3 a4=>⟨p',a1,a2,a3,a4⟩) run) ?_ fun _ _ e=>e)
    rintro ⟨⟨⟩,st'⟩ s' ⟨p,hp,har,hf,hpe,rfl⟩
    have hout:=kat_snds rfl har
    refine fin st' (p.toList.map fun i=>vs.getD i Value.none) hout (by simp [hp]) hf ?_
    unfold sortIx
    rw [if_neg h2,hpe]
theorem sorted_raw {l : Addr} {vs : List Value} {κ : PyProof.Rows.SortKind} {lt : Nat → Nat → Bool} {Q : Value → Shared → Prop} (hl : s.heap.IsList l vs.toArray) (h64 : vs.length < 64)
    (hK:2≤vs.length→∀ (Q:PyProof.Rows.SortKind→Shared→Prop) s',(∀ b o,s.heap.get? b=some o→s'.heap.get? b=some o)→Q κ s'→wpAny (model prog w) A.in1.in1 (keyKind' vs.toArray) Q (fun _ _=>False) s')
    (hC:∀ i j (C:Bool→Shared→Prop) s',i < vs.length→j < vs.length→(∀ b o,s.heap.get? b=some o→s'.heap.get? b=some o)→C (lt i j) s'→wpAny (model prog w) A.in1.in1 (keyLt' κ (vs.getD i Value.none) (vs.getD j Value.none)) C (fun _ _=>False) s')
    (h:∀ D h' c,(∀ b o,s.heap.get? b=some o→h'.get? b=some o)→s.heap.get? D=none→h'.get? D=some (seqObj "list" ((sortIx vs.length lt).map fun i=>vs.getD i Value.none).toArray c)→Q (.ref D) { s with heap:=h' }) :
    wpAny (model prog w) A (call (.builtin "sorted") [.ref l]) Q E s:=by
  refine Calls.call_function_entry kind_sorted plain_sorted entry_sorted (args_sorted1 _) ?_
  unfold Builtin.«sorted»
  refine wpAny_bind (m:=checkCount "sorted" 1 1 _) (wpAny_pure ?_)
  refine wpAny_bind (collect_list hl ?_ (by rw [sizeLine_eq];lia))
  refine wpAny_bind (wpAny_newList ?_ (by rw [sizeLine_eq];lia))
  have hsz:((s.heap.push (seqObj "list" #[] 0)).update s.heap.objs.size (Obj.mapSeq (·++vs.toArray))).objs.size=s.heap.objs.size+1:=by
    rw [Heap.size_update,size_push']
  have hoL:(((s.heap.push (seqObj "list" #[] 0)).update s.heap.objs.size (Obj.mapSeq (·++vs.toArray))).push (seqObj "list" vs.toArray 0)).get? (s.heap.objs.size+1)=some (seqObj "list" vs.toArray 0):=by
    rw [← hsz];exact Heap.get?_push_size _ rfl
  have keep:∀ b o,s.heap.get? b=some o→(((s.heap.push (seqObj "list" #[] 0)).update s.heap.objs.size (Obj.mapSeq (·++vs.toArray))).push (seqObj "list" vs.toArray 0)).get? b=some o:=fun b o q=>by
    have hlt:b < s.heap.objs.size:=Heap.lt_size q
    rw [Heap.get?_push_ne _ _ _ (by rw [hsz];exact Nat.ne_of_lt (Nat.lt_succ_of_lt hlt)),Heap.get?_update_ne _ _ _ _ (Nat.ne_of_lt hlt),Heap.get?_push_ne _ _ _ (Nat.ne_of_lt hlt)]
    exact q
  have nD:s.heap.get? (s.heap.objs.size+1)=none:=none_of_ge (Nat.le_succ _)
  have keep':∀ {h':Heap},(∀ b o,b≠s.heap.objs.size+1→(((s.heap.push (seqObj "list" #[] 0)).update s.heap.objs.size (Obj.mapSeq (·++vs.toArray))).push (seqObj "list" vs.toArray 0)).get? b=some o→h'.get? b=some o)→∀ b o,s.heap.get? b=some o→h'.get? b=some o :=
    fun k b o e=>k b o (fun z=>by rw [z,nD] at e;cases e) (keep b o e)
  show wpAny _ _ _ _ _ { s with heap:=((s.heap.push (seqObj "list" #[] 0)).update s.heap.objs.size (Obj.mapSeq (·++vs.toArray))).push (seqObj "list" vs.toArray 0) }
  rw [hsz]
  refine wpAny_bind (wpAny_holding (wpAny_call_entry slot_list_sort ⟨_,hoL,rfl⟩ entry_list_sort ?body (args_list_sort _)))
  case body =>
    refine list_sort_raw (s:={ s with heap:=((s.heap.push (seqObj "list" #[] 0)).update s.heap.objs.size (Obj.mapSeq (·++vs.toArray))).push (seqObj "list" vs.toArray 0) }) (κ:=κ) (lt:=lt) hoL h64
      (fun h2 Q' s' k q=>hK h2 Q' s' (keep' k) q) (fun i j C s' hi hj k q=>hC i j C s' hi hj (keep' k) q) fun h' c k hD=>?_
    exact ⟨_,rfl,wpAny_pure ⟨_,rfl,h _ h' c (keep' k) nD hD⟩⟩
end
end Mine
end
section
open PySem PySem.Calls PySem.W PyProof.Rows PySem.SeqAt
set_option maxHeartbeats 4000000
namespace Mine
noncomputable def ltT (x y:Int × Int × Int):Bool:=if x.1=y.1 then (if x.2.1=y.2.1 then (if x.2.2=y.2.2 then false else decide (x.2.2 < y.2.2)) else decide (x.2.1 < y.2.1)) else decide (x.1 < y.1)
noncomputable def ltAt {α:Type} (d:α) (lt:α→α→Bool) (l:List α) (i j:Nat):Bool:=lt (l.getD i d) (l.getD j d)
noncomputable def pysort {α:Type} (d:α) (lt:α→α→Bool) (l:List α):List α:=(sortIx l.length (ltAt d lt l)).map fun i=>l.getD i d
theorem sortIx_low {n:Nat} {lt:Nat→Nat→Bool}:∀ i∈sortIx n lt,i < n:=fun i hi=>by
  unfold sortIx at hi
  by_cases h:n < 2
  · rw [if_pos h] at hi;simpa using hi
  · rw [if_neg h] at hi
    have:=(tin_sort (n:=n) (by lia)).eval (lt:=lt)
    exact this i (by simpa using hi)
theorem RepL.pick {X:List Addr} {h:Heap} {vs:List Value} {α:Type} {f:α→D} {l:List α} (d:α) (r:RepL X h vs (l.map f)):∀ (ix:List Nat),(∀ i∈ix,i < l.length)→RepL X h (ix.map fun i=>vs.getD i Value.none) ((ix.map fun i=>l.getD i d).map f)
  | [],_=>.nil
  | i::ix,hi=>by
    have h1:=hi i (.head _)
    obtain ⟨v,hv,rv⟩:=r.get (k:=i) (d:=f l[i]) (by simp [List.getElem?_eq_getElem h1])
    simp only [List.map_cons]
    refine .cons ?_ (RepL.pick d r ix fun j hj=>hi j (.tail _ hj))
    rw [List.getD_eq_getElem?_getD,hv,List.getD_eq_getElem?_getD,List.getElem?_eq_getElem h1]
    exact rv
theorem lt_ints {prog:Program} {w:World} {A:Around} {s:Shared} {Q:Bool→Shared→Prop} {b:Bool} {i:Nat} {x y:Int} {t u:Tok} (h:Q (decide (x < y)) s):wpAny (model prog w) A (oneLt' (b && i == 0) (.int x t) (.int y u)) Q (fun _ _=>False) s:=by
  cases b && i == 0 with
  | true=>exact kat_lt_int h
  | false=>exact kat_one _ _ (_root_.PySem.P.lt_int h)
section
variable {g:G} {ρ:List (Option D)} {μ:List (Addr × Mut)}
theorem tup3_to {X:List Addr} {h:Heap} {v:Value} {d e f:Int} {G:Prop} (r:Rep X h v (.tup [.int d,.int e,.int f])) (k:∀ a n t u w,v=.ref a→h.get? a=some (tupO [.int d t,.int e u,.int f w] n)→G):G:=by
  obtain ⟨a,vs,n,hv,_,ho,r⟩:=r.tI
  obtain ⟨p,q,z,hl,a1,a2,a3⟩:=r.three
  obtain ⟨t,h1⟩:=a1.iI
  obtain ⟨u,h2⟩:=a2.iI
  obtain ⟨w,h3⟩:=a3.iI
  exact k a n t u w hv.symm (by rw [h1,h2,h3,← hl];exact ho)
theorem tup3_at {X:List Addr} {h:Heap} {v:Value} {x:Int × Int × Int} (r:Rep X h v (D.t3 x)):∃ a n t u w,v=.ref a∧h.get? a=some (tupO [.int x.1 t,.int x.2.1 u,.int x.2.2 w] n):=tup3_to r fun a n t u w e o=>⟨a,n,t,u,w,e,o⟩
theorem Ev.sortedT {fs e : Expr} {pos : Pos} {ts : List (Int × Int × Int)} (R : Room g.A 0) (hs : Ev g ρ μ fs (.val (.builtin "sorted"))) (he : Ev g ρ μ e (.lst (ts.map D.t3))) (h64 : ts.length < 64)
    (hq:eval (.Call fs [e] [] pos) g.env=(eval fs g.env >>= fun v=>callWith pos v [] (backTo pos (starEach [e] g.env)) []):=by rfl) (he1:starEach [e] g.env=(false,eval e g.env)::starEach [] g.env:=by rfl) :
    Ev g ρ μ (.Call fs [e] [] pos) (.lst ((pysort (0,0,0) ltT ts).map D.t3)):=fun s y=>by
  refine call_open hq (hs.wp y fun v s₁ y₁ r₁ e₁=>?_)
  (first | obtain rfl:=r₁.vI | obtain ⟨_,rfl⟩:=r₁.iI | obtain ⟨_,rfl⟩:=r₁.sI | obtain ⟨_,rfl⟩:=r₁.bI | obtain rfl:=r₁.nI | cases r₁)
  refine callWith_B rfl (spliced_open he1 (he.wp y₁ fun v s₂ y₂ r₂ e₂=>?_)) he1
  refine spliced_nil ?_
  have hI:=r₂.lI;clear r₂;obtain ⟨l,vs,nn,hE,h1,ho,r⟩:=hI;cases hE
  have hL:s₂.heap.IsList l vs.toArray:=⟨_,ho,rfl,nn,rfl⟩
  have lv:=r.length
  rw [List.length_map] at lv
  have at_:∀ i,i < vs.length→∃ a n t u w,vs.getD i Value.none=.ref a∧s₂.heap.get? a=some (tupO [.int (ts.getD i (0,0,0)).1 t,.int (ts.getD i (0,0,0)).2.1 u,.int (ts.getD i (0,0,0)).2.2 w] n):=fun i hi=>by
    obtain ⟨v,hv,rv⟩:=r.get (k:=i) (d:=D.t3 (ts.getD i (0,0,0))) (by rw [List.getElem?_map,List.getD_eq_getElem?_getD,List.getElem?_eq_getElem (by lia)];rfl)
    obtain ⟨a,n,t,u,w,rfl,z⟩:=tup3_at rv
    exact ⟨a,n,t,u,w,by rw [List.getD_eq_getElem?_getD,hv];rfl,z⟩
  refine sorted_raw (κ:=tuples' true) (lt:=ltAt (0,0,0) ltT ts) hL (by lia) (fun h2 Q' s' k q=>?_) (fun i j C s' hi hj k q=>?_) fun Dd h' c k hn hD=>?_
  · have kt:∃ fs,KatTups s'.heap vs fs∧fs.length=vs.length∧∀ v∈fs,∃ n t,v=.int n t :=
      r.ind (M:=fun vs ds=>(∀ d∈ds,∃ x,d=D.t3 x)→∃ fs,KatTups s'.heap vs fs∧fs.length=vs.length∧∀ v∈fs,∃ n t,v=.int n t) (fun _=>⟨[],.nil,rfl,fun _ h=>nomatch h⟩) (fun v vs d ds rv _ ih hd=>by
        obtain ⟨x,rfl⟩:=hd d (.head _)
        obtain ⟨a,n,t,u,w,rfl,z⟩:=tup3_at rv
        obtain ⟨fs,k1,k2,k3⟩:=ih fun d hd'=>hd d (.tail _ hd')
        refine ⟨.int x.1 t::fs,.cons (k _ _ z) rfl rfl rfl k1,congrArg (·+1) k2,fun v hv=>?_⟩
        rcases List.mem_cons.mp hv with rfl | hv
        · exact ⟨_,_,rfl⟩
        · exact k3 v hv) (fun d hd=>(List.mem_map.mp hd).elim fun x q=>⟨x,q.2.symm⟩)
    obtain ⟨fs,k1,k2,k3⟩:=kt
    refine kat_kind (T:=.type "int") k1 (by lia) (fun v hv=>?_) rfl q
    obtain ⟨n,t,rfl⟩:=k3 v hv
    exact Looks.of_pure rfl
  · obtain ⟨a,n,t,u,w,ha,z⟩:=at_ i hi
    obtain ⟨b,m,t',u',w',hb,z'⟩:=at_ j hj
    rw [ha,hb]
    refine kat_lt (k _ _ z) rfl (k _ _ z') rfl ?_
    show KatLex _ _ _ _ _ _ [(_,_),(_,_),(_,_)] 0 s'
    unfold ltAt ltT at q
    refine kat_cons ((MeetsSeq.EqGives.int _ _ _ _) _ _ _ _ _ _ ?_)
    by_cases q1:(ts.getD i (0,0,0)).1=(ts.getD j (0,0,0)).1
    · rw [if_pos q1] at q
      rw [beq_iff_eq.mpr q1]
      refine kat_yes (kat_cons ((MeetsSeq.EqGives.int _ _ _ _) _ _ _ _ _ _ ?_))
      by_cases q2:(ts.getD i (0,0,0)).2.1=(ts.getD j (0,0,0)).2.1
      · rw [if_pos q2] at q
        rw [beq_iff_eq.mpr q2]
        refine kat_yes (kat_cons ((MeetsSeq.EqGives.int _ _ _ _) _ _ _ _ _ _ ?_))
        by_cases q3:(ts.getD i (0,0,0)).2.2=(ts.getD j (0,0,0)).2.2
        · rw [if_pos q3] at q
          rw [beq_iff_eq.mpr q3]
          exact kat_yes (kat_nil q)
        · rw [if_neg q3] at q
          rw [beq_eq_false_iff_ne.mpr q3]
          exact kat_no (lt_ints q)
      · rw [if_neg q2] at q
        rw [beq_eq_false_iff_ne.mpr q2]
        exact kat_no (lt_ints q)
    · rw [if_neg q1] at q
      rw [beq_eq_false_iff_ne.mpr q1]
      exact kat_no (lt_ints q)
  · have e₃:Ext g.C [] s₂ { s₂ with heap:=h' }:=.of_keeps k rfl rfl
    refine ⟨(e₁.trans e₂).trans e₃,?_⟩
    refine .lst (y₂.fresh hn).1 hD ?_
    rw [lv]
    exact (RepL.pick (0,0,0) (r.mono fun b o hb z=>⟨hb,k b o z⟩) _ sortIx_low)
end
end Mine
end
section
open PySem PySem.Calls PySem.W PyProof.Rows PySem.SeqAt
open Sem (wp)
namespace Mine
section
variable {M:Model} {A:Around} {E:Value→Shared→Prop} {s:Shared} {K:Frag} {env:Env} {pos:Pos} {f:Value} {first:List Value} {Q:Value→Shared→Prop}
theorem wpS_keep {α:Type} {vs:List Value} {m:Sem α} {Q:α→Shared→Prop} (h:wpS M A m Q E s):wpS M A (m.keep vs) Q E s :=
  fun Γ p hΓ h1 h2=>by rw [Sem.wp_keep];exact h Γ p hΓ h1 h2
theorem callWithS_K {e : Expr} {rest : List Expr} (hk : keepIn K f = true) (h : wpAny M A (spliced (backTo pos (starEach (e :: rest) env))) (fun vs s₁ => K.In s₁.heap ∧ wpS M A (call f (first ++ vs)) Q E s₁) E s)
    (he:starEach (e::rest) env=(false,eval e env)::starEach rest env:=by rfl) (hplain:(backTo pos (starEach rest env)).any (·.1)=false:=by rfl) :
    wpS M A (callWith pos f first (backTo pos (starEach (e::rest) env)) []) Q E s:=by
  rw [he] at h ⊢
  have h':=evalArgs_plain (f:=f) (Q:=fun a s₁=>K.In s₁.heap∧wpS M A (call f (first++a.pos) a.kw) Q E s₁) h
  have hpl:(((false,eval e env)::backTo pos (starEach rest env)).any (·.1) || ([]:List (Option Str × Sem Value)).any (·.1.isNone))=false:=by
    show ((false || (backTo pos (starEach rest env)).any (·.1)) || false)=false
    rw [hplain];rfl
  unfold callWith
  refine wpS_bind (wpS_holding (anyS (wpAny_mono h' (fun a s₁ h₁=>wpS_bindA (wpAny_standAt ?_)) fun _ _ x=>x)))
  obtain ⟨k,hk',L⟩:=keeps_K hk _ h₁.1
  have hpl':((backTo pos ((false,eval e env)::starEach rest env)).any (·.1) || ([]:List (Option Str × Sem Value)).any (·.1.isNone))=false:=hpl
  simp only [hpl']
  refine wpS_bindA (L.here ?_)
  have tail:∀ {t:Sem Value},wpS M A t Q E s₁→wpS M A (t >>= fun r=>holding [r] point >>= fun _=>pure r) Q E s₁ :=
    fun ht=>wpS_bind (wpS_mono ht (fun r s₂ hr=>wpS_bindA (wpAny_holding (wpAny_point (wpS_pure hr)))) fun _ _ x=>x)
  have marked (mk:Value):wpS M A (callMarked mk f (first++a.pos) a.kw) Q E s₁:=by unfold callMarked;exact wpS_keep h₁.2
  rcases hk' with rfl | rfl | rfl <;> dsimp only <;> first | exact tail h₁.2 | (split <;> first | exact tail h₁.2 | exact tail (marked _))
theorem wp_app {Γ : Ctx} {b : List Stmt} {E : Value → Pos → Shared → Prop} : ∀ {a : List Stmt} {Q : Flow → Pos → Shared → Prop} {p : Pos} {s : Shared},
    wp M Γ (execs a env) (fun f p' s'=>match f with | .next=>wp M Γ (execs b env) Q E p' s' | f=>Q f p' s') E p s→wp M Γ (execs (a++b) env) Q E p s
  | [],Q,p,s,h=>h
  | st::a,Q,p,s,h=>by
    rw [List.cons_append,execs_cons,Sem.wp_bind']
    rw [execs_cons,Sem.wp_bind'] at h
    refine Sem.wp_mono M Γ _ (fun f p' s' h'=>?_) (fun _ _ _ h'=>h') _ _ h
    cases f with
    | next=>exact wp_app h'
    | brk=>exact h'
    | cont=>exact h'
    | ret v=>exact h'
theorem execsS_app {a b:List Stmt} {Q:Flow→Shared→Prop} (h:wpAny M A (execs a env) (fun f s'=>match f with | .next=>wpS M A (execs b env) Q E s' | f=>Q f s') E s):wpS M A (execs (a++b) env) Q E s:=fun Γ p hΓ h1 h2 =>
  wp_app (Sem.wp_mono M Γ _ (fun f p' s' h'=>by
    cases f with
    | next=>exact h' Γ p' hΓ h1 h2
    | brk=>exact h'
    | cont=>exact h'
    | ret v=>exact h') (fun _ _ _ h'=>h') _ _ (h Γ p hΓ))
theorem execsS_cons {st rest} {Q : Flow → Shared → Prop}
    (h:wpS M A (exec st env) (fun f s'=>match f with | .next=>wpS M A (execs rest env) Q E s' | f=>Q f s') E s):wpS M A (execs (st::rest) env) Q E s:=fun Γ p hΓ h1 h2=>by
  rw [execs_cons,Sem.wp_bind']
  refine Sem.wp_mono M Γ _ (fun f p' s' h'=>?_) (fun _ _ _ h'=>h') _ _ (h Γ p hΓ h1 h2)
  cases f <;> first | exact h' Γ p' hΓ h1 h2 | exact h'
theorem assignS {x pos' value pos} {Q : Flow → Shared → Prop}
    (h:wpS M A (eval value env) (fun v s₁=>wpAny M A (storeName env x v) (fun _=>Q .next) E s₁) E s)
    (hs:swapsWith value (some (.Name x pos')) pos.line env=pure false:=by rfl) :
    wpS M A (exec (.Assign [.Name x pos'] value pos) env) Q E s:=fun Γ p hΓ h1 h2=>by
  simp only [exec_Assign_Name env x pos' value pos hs,Sem.wp_bind',Sem.wp_cmd_standAt,Sem.wp_bindName,Sem.wp_pure']
  exact Sem.wp_mono M Γ _ (fun v _ s₁ h₁=>h₁ Γ _ hΓ) (fun _ _ _ h'=>h') _ _ (h Γ _ hΓ h1 h2)
theorem ifS {test body orelse pos} {Q : Flow → Shared → Prop}
    (h:wpS M A (isTrue test env (eval test env))
      (fun b s₂=>if b then wpS M A (execs body env) Q E s₂ else wpS M A (execs orelse env) Q E s₂) E s) :
    wpS M A (exec (.If test body orelse pos) env) Q E s:=fun Γ p hΓ q1 q2=>by
  simp only [exec_If,Sem.wp_bind',Sem.wp_cmd_standAt]
  refine Sem.wp_mono M Γ _ (fun b p₂ s₂ h₂=>?_) (fun _ _ _ h'=>h') _ _ (h Γ _ hΓ q1 q2)
  cases b <;> exact h₂ Γ p₂ hΓ q1 q2
theorem testS_cmp {l op r pos whole} {Q : Bool → Shared → Prop}
    (h:wpS M A (eval l env) (fun a s₁=>wpAny M A (eval r env) (fun b s₂=>wpAny M A (compareOp op a b)
      (fun c s₃=>wpAny M A (truthy c) Q E s₃) E s₂) E s₁) E s)
    (hm:behindInMarks op r=false:=by with_unfolding_all rfl):wpS M A (isTrue (.Compare l [op] [r] pos) env whole) Q E s:=fun Γ p hΓ q1 q2=>by
  simp only [isTrue_Compare1,markedBehindIn_of_false hm,Sem.wp_bind',Sem.wp_holding,Sem.wp_cmd_standAt,Sem.wp_operate]
  exact Sem.wp_mono M Γ _ (fun a p₁ s₁ h₁=>Sem.wp_mono M Γ _ (fun b _ s₂ h₂=>Sem.wp_mono M Γ _ (fun c p₃ s₃ h₃=>h₃ Γ p₃ hΓ)
    (fun _ _ _ h'=>h') _ _ (h₂ Γ _ hΓ)) (fun _ _ _ h'=>h') _ _ (h₁ Γ p₁ hΓ)) (fun _ _ _ h'=>h') _ _ (h Γ p hΓ q1 q2)
theorem orS_cons {x : Expr} {rest : List Expr} {Q : Bool → Shared → Prop}
    (h:wpS M A (isTrue x env (eval x env)) (fun b s₁=>if b then Q true s₁ else wpS M A (allTrue .Or rest env) Q E s₁) E s):wpS M A (allTrue .Or (x::rest) env) Q E s:=by
  show wpS M A (do match BoolOp.Or,← isTrue x env (eval x env) with | .And,false=>pure false | .Or,true=>pure true | _,_=>allTrue .Or rest env) Q E s
  refine wpS_bind (wpS_mono h (fun b s₁ h₁=>?_) fun _ _ x=>x)
  cases b
  · exact h₁
  · exact wpS_pure h₁
theorem orS {values : List Expr} {pos : Pos} {whole : Sem Value} {Q : Bool → Shared → Prop} (h : wpS M A (allTrue .Or values env) Q E s) :
    wpS M A (isTrue (.BoolOp .Or values pos) env whole) Q E s:=by rw [arm_isTrue_BoolOp];exact h
end
noncomputable def DnS {α:Type} (C:Cx) (A:Around) (S:List Addr) (s:Shared) (t:Sem α) (Φ:α→Shared→Prop):Prop :=
  wpS C.M A t (fun v s'=>Ext C S s s'∧Φ v s') NoE s
noncomputable def FnS (C:Cx) (k:Nat) (f:Value) (args:List D) (d:D):Prop:=∀ (A:Around) X s vals,Room A k→Inv C X s→RepL X s.heap vals args →
  codeS C.M A (.call f ⟨vals,[]⟩) (fun r s'=>∃ v,r=.ok (.ret v)∧Ext C [] s s'∧Rep X s'.heap v d) s
section
variable {α:Type} {C:Cx} {A:Around} {S:List Addr} {s:Shared} {t:Sem α} {Φ Ψ:α→Shared→Prop}
theorem Dn.toS (h:Dn C A S s t Φ):DnS C A S s t Φ:=anyS h
theorem DnS.use (h:DnS C A S s t Φ) {Q:α→Shared→Prop} {E:Value→Shared→Prop} (k:∀ v s',Ext C S s s'→Φ v s'→Q v s'):wpS C.M A t Q E s:=wpS_mono h (fun _ _ q=>k _ _ q.1 q.2) fun _ _ e=>e.elim
end
noncomputable def EvS (g:G) (ρ:List (Option D)) (μ:List (Addr × Mut)) (e:Expr) (d:D):Prop:=∀ s,St g ρ μ s→DnS g.C g.A [] s (eval e g.env) fun v s'=>Rep g.X s'.heap v d
noncomputable def EvTS (g:G) (ρ:List (Option D)) (μ:List (Addr × Mut)) (e:Expr) (b:Bool):Prop:=∀ s,St g ρ μ s→DnS g.C g.A [] s (isTrue e g.env (eval e g.env)) fun v _=>v=b
noncomputable def EvOrS (g:G) (ρ:List (Option D)) (μ:List (Addr × Mut)) (es:List Expr) (b:Bool):Prop:=∀ s,St g ρ μ s→DnS g.C g.A [] s (allTrue .Or es g.env) fun v _=>v=b
noncomputable def ExS (g:G) (S:List Addr) (ρ:List (Option D)) (μ:List (Addr × Mut)) (ss:List Stmt) (Φ:Flow→Shared→Prop):Prop:=∀ s,St g ρ μ s→DnS g.C g.A S s (execs ss g.env) Φ
noncomputable def ThenS (g:G) (S:List Addr) (rest:List Stmt) (Φ:Flow→Shared→Prop) (f:Flow) (s:Shared):Prop:=match f with | .next=>DnS g.C g.A S s (execs rest g.env) Φ | f=>Φ f s
section
variable {g:G} {ρ:List (Option D)} {μ:List (Addr × Mut)} {S:List Addr} {Φ:Flow→Shared→Prop} {rest:List Stmt}
theorem EvS.wp {e : Expr} {d : D} {s : Shared} (h : EvS g ρ μ e d) (x : St g ρ μ s) {Q : Value → Shared → Prop} {E : Value → Shared → Prop}
    (k:∀ v s',St g ρ μ s'→Rep g.X s'.heap v d→Ext g.C [] s s'→Q v s'):wpS g.C.M g.A (eval e g.env) Q E s:=(h s x).use fun v s' q r=>k v s' (x.ext q) r q
theorem EvTS.wp {e : Expr} {b : Bool} {s : Shared} (h : EvTS g ρ μ e b) (x : St g ρ μ s) {Q : Bool → Shared → Prop} {E : Value → Shared → Prop}
    (k:∀ s',St g ρ μ s'→Ext g.C [] s s'→Q b s'):wpS g.C.M g.A (isTrue e g.env (eval e g.env)) Q E s:=(h s x).use fun v s' q r=>by subst r;exact k s' (x.ext q) q
theorem Ev.toS {e:Expr} {d:D} (h:Ev g ρ μ e d):EvS g ρ μ e d:=fun s x=>(h s x).toS
theorem EvT.toS {e:Expr} {b:Bool} (h:EvT g ρ μ e b):EvTS g ρ μ e b:=fun s x=>(h s x).toS
theorem EvS.call {func e : Expr} {es : List Expr} {pos : Pos} {k : Nat} {f : Value} {ds : List D} {d : D} (R : Room g.A k) (hf : Ev g ρ μ func (.val f)) (hkeep : keepIn g.C.K f = true) (ha : EvL g ρ μ pos (e :: es) ds) (hc : FnS g.C k f ds d)
    (he:starEach (e::es) g.env=(false,eval e g.env)::starEach es g.env:=by rfl) (hplain:(backTo pos (starEach es g.env)).any (·.1)=false:=by rfl)
    (hq:eval (.Call func (e::es) [] pos) g.env=(eval func g.env >>= fun v=>callWith pos v [] (backTo pos (starEach (e::es) g.env)) []):=by rfl):EvS g ρ μ (.Call func (e::es) [] pos) d:=fun s x=>by
  show wpS _ _ _ _ _ _
  rw [hq]
  refine wpS_bindA (hf.wp x fun v s₁ x₁ r₁ e₁=>?_)
  (first | obtain rfl:=r₁.vI | obtain ⟨_,rfl⟩:=r₁.iI | obtain ⟨_,rfl⟩:=r₁.sI | obtain ⟨_,rfl⟩:=r₁.bI | obtain rfl:=r₁.nI | cases r₁)
  refine callWithS_K hkeep ((ha s₁ x₁).use fun vs s₂ e₂ r₂=>⟨(x₁.ext e₂).inv.K,wpS_call (codeS_mono (hc _ _ _ _ R (x₁.ext e₂).inv r₂) fun r s₃ q=>?_)⟩) he hplain
  obtain ⟨v,rfl,e₃,r₃⟩:=q
  exact ⟨(e₁.trans e₂).trans e₃,r₃⟩
theorem EvTS.cmp {l r : Expr} {op : CmpOp} {pos : Pos} {a b : D} {c : Bool} (R : Room g.A 0) (hl : EvS g ρ μ l a) (hr : Ev g ρ μ r b) (o : Cmp op a b (D.bool c)) (hm : behindInMarks op r = false := by with_unfolding_all rfl) :
    EvTS g ρ μ (.Compare l [op] [r] pos) c:=fun s x =>
  testS_cmp (hl.wp x fun va s₁ x₁ r₁ e₁=>hr.wp x₁ fun vb s₂ x₂ r₂ e₂=>(o _ _ _ _ _ _ x₂.inv R (r₁.ext e₂ (fun _ h=>nomatch h) x₁.inv.pin) r₂).use fun v s₃ e₃ r₃=>by
    (first | obtain rfl:=r₃.vI | obtain ⟨_,rfl⟩:=r₃.iI | obtain ⟨_,rfl⟩:=r₃.sI | obtain ⟨_,rfl⟩:=r₃.bI | obtain rfl:=r₃.nI | cases r₃);exact wpAny_truthy_bool ⟨(e₁.trans e₂).trans e₃,rfl⟩) hm
theorem EvOrS.nil:EvOrS g ρ μ [] false:=fun s x=>(EvOr.nil s x).toS
theorem EvOrS.cons {e:Expr} {es:List Expr} {a b:Bool} (h:EvTS g ρ μ e a) (k:a=false→EvOrS g ρ μ es b):EvOrS g ρ μ (e::es) (a || b):=fun s x=>orS_cons (h.wp x fun s₁ x₁ e₁=>by
  cases a with
  | true=>exact ⟨e₁,rfl⟩
  | false=>exact (k rfl s₁ x₁).use fun v s₂ e₂ r=>⟨e₁.trans e₂,r⟩)
theorem EvTS.or {es:List Expr} {pos:Pos} {b:Bool} (h:EvOrS g ρ μ es b):EvTS g ρ μ (.BoolOp .Or es pos) b:=fun s x=>Mine.orS (h s x)
theorem ExS.step {st:Stmt} (h:∀ s,St g ρ μ s→DnS g.C g.A S s (exec st g.env) fun f s'=>match f with | .next=>DnS g.C g.A S s' (execs rest g.env) Φ | f=>Φ f s'):ExS g S ρ μ (st::rest) Φ:=fun s x =>
  execsS_cons (wpS_mono (h s x) (fun f s' q=>by
    obtain ⟨e,q⟩:=q
    cases f with
    | next=>exact q.use fun v s₂ e₂ r=>⟨e.trans e₂,r⟩
    | brk=>exact ⟨e,q⟩
    | cont=>exact ⟨e,q⟩
    | ret v=>exact ⟨e,q⟩) fun _ _ e=>e)
theorem Ex.toS {ss:List Stmt} (h:Ex g S ρ μ ss Φ):ExS g S ρ μ ss Φ:=fun s x=>(h s x).toS
theorem ExS.assign (i : Nat) {x : Str} {p pos : Pos} {e : Expr} {d : D} (h1 : g.ns[i]? = some x) (hk : Stored g S x) (he : EvS g ρ μ e d) (k : ExS g S (ρ.set i (some d)) μ rest Φ)
    (hs:swapsWith e (some (.Name x p)) pos.line g.env=pure false:=by rfl):ExS g S ρ μ (.Assign [.Name x p] e pos::rest) Φ:=ExS.step fun s y =>
  assignS (he.wp y fun v s₁ y₁ r e₁=>(y₁.store h1 hk r).use fun _ s₂ e₂ y₂=>⟨(e₁.wider (fun _ h=>nomatch h)).trans e₂,k s₂ y₂⟩) hs
theorem ExS.ite {t:Expr} {b o:List Stmt} {pos:Pos} {c:Bool} (ht:EvTS g ρ μ t c) (h1:c=true→ExS g S ρ μ b (ThenS g S rest Φ)) (h2:c=false→ExS g S ρ μ o (ThenS g S rest Φ)):ExS g S ρ μ (.If t b o pos::rest) Φ:=ExS.step fun s y =>
  ifS (ht.wp y fun s₁ y₁ e₁=>by
    cases c with
    | true=>exact (h1 rfl s₁ y₁).use fun v s₂ e₂ r=>⟨(e₁.wider (fun _ h=>nomatch h)).trans e₂,by cases v <;> exact r⟩
    | false=>exact (h2 rfl s₁ y₁).use fun v s₂ e₂ r=>⟨(e₁.wider (fun _ h=>nomatch h)).trans e₂,by cases v <;> exact r⟩)
theorem ExS.go (k:ExS g S ρ μ rest Φ):ExS g S ρ μ [] (ThenS g S rest Φ):=fun s y=>anyS (wpAny_execs_nil ⟨.refl ..,k s y⟩)
theorem ExS.app {a b:List Stmt} (h:Ex g S ρ μ a (ThenS g S b Φ)):ExS g S ρ μ (a++b) Φ:=fun s x=>by
  refine execsS_app ((h s x).use fun f s' e q=>?_)
  cases f with
  | next=>exact DnS.use q fun v s₂ e₂ r=>⟨e.trans e₂,r⟩
  | brk=>exact ⟨e,q⟩
  | cont=>exact ⟨e,q⟩
  | ret v=>exact ⟨e,q⟩
theorem ExS.split (n:Nat) {ss:List Stmt} (h:Ex g S ρ μ (ss.take n) (ThenS g S (ss.drop n) Φ)):ExS g S ρ μ ss Φ:=by
  have:=ExS.app h
  rwa [List.take_append_drop] at this
theorem Ex.onS {g':G} {S':List Addr} (k:∀ s,St g ρ μ s→DnS g'.C g'.A S' s (execs rest g'.env) Φ):Ex g S ρ μ [] (ThenS g' S' rest Φ):=fun s y=>wpAny_execs_nil ⟨.refl ..,k s y⟩
end
end Mine
end
section
open PySem PySem.Calls PySem.W PyProof.Rows PySem.SeqAt
namespace Mine
section
variable {C:Cx} {A:Around} {X:List Addr} {s:Shared} {oc:Value} {od:Option Addr} {osl:Array (Option Value)} {fd:FuncData} {body:List Stmt} {f:Addr}
theorem FnS.intro {k : Nat} {ds : List D} {d : D} (pn others : List Str) (j : Nat)
    (ho:C.K.lookup f=some ⟨oc,od,.func fd,osl⟩) (hcd:codeIn C.K fd.code fd.qualname=true) (hbody:fd.body=.stmts body) (hclo:fd.closure=[]) (hgl:fd.globals=mainGlobals) (hbi:fd.builtins=builtinsNs)
    (hbind:∀ vals:List Value,vals.length=ds.length→bindArgs fd ⟨vals,[]⟩=pure (pn.zip vals)) (hlen:pn.length=ds.length)
    (hnd:(pn++others).Nodup) (hkind:∀ n,∀ x∈pn,fd.scope.names.lookup x=some .local∨(fd.scope.names.lookup x=some .cell∧((cellsFrom n fd.scope.names []).lookup x).isSome=true))
    (hcn:((cellsFrom 0 fd.scope.names []).map (·.1)).Nodup)
    (h:∀ (A:Around) (X:List Addr) (L:Addr),Room A k →
      ExS ⟨C,A,ownS (callEnvC fd L f)++X,callEnvC fd L f,pn++others⟩ (ownS (callEnvC fd L f)) (ds.map some++List.replicate j none) [] body (RetAs (ownS (callEnvC fd L f)++X) d []))
    (hco:fd.scope.isCoroutine=false:=by rfl) (hgen:fd.scope.isGenerator=false:=by rfl) (hk:fd.scope.kind=.function:=by rfl):FnS C (k+1) (.ref f) ds d:=by
  intro A X s vals R I rv
  have hvl:vals.length=ds.length:=rv.length
  refine codeS_call_cells (fd:=fd) (body:=body) R.depth (I.K _ _ ho) rfl I.lim (codeRec_of I.K hcd) hbody (hbind vals hvl) hclo
    (fun x hx=>hkind _ x.1 (List.of_mem_zip hx).1) (fun s₁ x=>?_) hco hgen hk
  generalize hL:s.heap.objs.size=L at x ⊢
  obtain ⟨⟨h₁,tk,rfl⟩,xns,xkeep,xfresh⟩:=x.toInCall
  have hLn:s.heap.get? L=none:=none_of_ge (by lia)
  have own:∀ a∈ownS (callEnvC fd L f),s.heap.get? a=none:=by
    intro a ha
    rcases List.mem_cons.mp ha with rfl | ha
    · exact hLn
    · obtain ⟨⟨n,c⟩,hc,rfl⟩:=List.mem_map.mp ha
      have:=x.above n c hc
      exact none_of_ge (Nat.le_of_lt (by rw [hL];exact this))
  have ownP:∀ a∈ownS (callEnvC fd L f),a∉C.P:=fun a ha hP=>by
    obtain ⟨o,e⟩:=I.occ a (I.pin a hP)
    rw [own a ha] at e;cases e
  have hcells:∀ n c,(callEnvC fd L f).cells.lookup n=some c→c∈ownS (callEnvC fd L f) :=
    fun n c hc=>.tail _ (List.mem_map.mpr ⟨_,mem_of_lookup hc,rfl⟩)
  have hXnew:∀ a∈ownS (callEnvC fd L f)++X,a∈X∨s.heap.get? a=none:=fun a ha =>
    (List.mem_append.mp ha).elim (fun q=>.inr (own a q)) .inl
  have st:St ⟨C,A.deeper (callEnvC fd L f),ownS (callEnvC fd L f)++X,callEnvC fd L f,pn++others⟩ (ds.map some++List.replicate j none) [] { s with heap:=h₁,toks:=tk }:=by
    refine ⟨⟨I.base,fun b o hb e=>xkeep b o (I.keep b o hb e),fun p hp=>(I.tab p hp).keeps xkeep,I.os,I.gens,fun p hp=>List.mem_append_right _ (I.pin p hp),fun a ha hP=>?_,fun a ha=>?_⟩,
      ⟨hk,hgl,hbi,⟨_,xns⟩,.head _,ownP _ (.head _),fun n c hc=>⟨ownP c (hcells n c hc),Nat.ne_of_gt (x.above n c (mem_of_lookup hc)),_,x.cell n c hc⟩,fun n c _ hc=>List.mem_append_left _ (hcells n c hc),fun n n' c hc hc'=>name_of_addr x.apart (mem_of_lookup hc) (mem_of_lookup hc')⟩,
      fun i n d' hn hd=>?_,fun p hp=>(nomatch hp),fun a ha=>(nomatch ha),List.nodup_nil,hnd⟩
    · rcases List.mem_append.mp ha with q | q
      · exact I.hb_none (own a q) hP
      · exact I.new a q hP
    · rcases List.mem_append.mp ha with q | q
      · rcases List.mem_cons.mp q with rfl | q
        · obtain ⟨o,_,_,e,_⟩:=xns;exact ⟨o,e⟩
        · obtain ⟨⟨n,c⟩,hc,rfl⟩:=List.mem_map.mp q
          obtain ⟨o,e,_⟩:=x.cell n c (cells_lookup hcn hc)
          exact ⟨o,e⟩
      · obtain ⟨o,e⟩:=I.occ a q
        exact ⟨o,xkeep a o e⟩
    · have hi:i < ds.length:=by
        by_cases q:i < ds.length
        · exact q
        · rw [List.getElem?_append_right (by rw [List.length_map];lia)] at hd
          have:=List.mem_of_getElem? hd
          rw [List.mem_replicate] at this
          cases this.2
      rw [List.getElem?_append_left (by rw [List.length_map];exact hi),List.getElem?_map] at hd
      rw [List.getElem?_append_left (by lia)] at hn
      cases hdi:ds[i]? with
      | none=>rw [hdi] at hd;cases hd
      | some d₀ =>
        rw [hdi] at hd;cases hd
        obtain ⟨v,hv,r⟩:=rv.get hdi
        have hz:(pn.zip vals)[i]?=some (n,v):=List.getElem?_zip_eq_some.mpr ⟨hn,hv⟩
        have hnn:((pn.zip vals).map (·.1)).Nodup:=by
          rw [List.map_fst_zip (by lia)]
          exact (List.nodup_append.mp hnd).1
        have bl:=bind_lookup (kindOf:=(callEnvC fd L f).kindOf) (fun _=>none) (fun _=>none) hnn (List.mem_of_getElem? hz)
        refine ⟨v,?_,r.more xkeep hXnew⟩
        rcases hkind (L+1) n (List.mem_of_getElem? hn) with q | ⟨q,q'⟩
        · exact .inl ⟨q,_,xns,bl.1 q⟩
        · obtain ⟨c,hc⟩:=Option.isSome_iff_exists.mp q'
          have hkc:(callEnvC fd L f).kindOf n=some .cell:=q
          exact .inr ⟨.inl hkc,c,hc,(bl.2 (by rw [hkc];decide)) ▸ x.cell n c hc⟩
  refine wpS_mono (h _ X L R.deeper _ st) (fun fl s' q=>?_) fun _ _ e=>e.elim
  obtain ⟨e,r,m⟩:=q
  have e₁:Ext C [] s { s with heap:=h₁,toks:=tk }:=.up xkeep
  have e':Ext C (ownS (callEnvC fd L f)) s s':=(e₁.wider fun b hb=>nomatch hb).trans e
  exact ⟨_,rfl,e'.wider (fun b hb=>.inr (own b hb)),r.sub fun a ha=>List.mem_append_right _ ha⟩
end
section
variable {g:G} {ρ:List (Option D)} {μ:List (Addr × Mut)} {S:List Addr} {Φ:Flow→Shared→Prop} {rest:List Stmt}
theorem callWithS_T {M : Model} {A : Around} {E : Value → Shared → Prop} {s : Shared} {env : Env} {pos : Pos} {T : String} {e : Expr} {es : List Expr} {Q : Value → Shared → Prop}
    (h:wpAny M A (spliced (backTo pos (starEach (e::es) env))) (fun vs s₁=>wpS M A (call (.type T) vs) Q E s₁) E s)
    (he:starEach (e::es) env=(false,eval e env)::starEach es env:=by rfl) (hplain:(backTo pos (starEach es env)).any (·.1)=false:=by rfl) :
    wpS M A (callWith pos (.type T) [] (backTo pos (starEach (e::es) env)) []) Q E s:=by
  rw [he] at h ⊢
  have h':=evalArgs_plain (f:=.type T) (Q:=fun a s₁=>wpS M A (call (.type T) ([]++a.pos) a.kw) Q E s₁) h
  have hpl:((backTo pos ((false,eval e env)::starEach es env)).any (·.1) || ([]:List (Option Str × Sem Value)).any (·.1.isNone))=false:=by
    show ((false || (backTo pos (starEach es env)).any (·.1)) || false)=false
    rw [hplain];rfl
  unfold callWith
  refine wpS_bind (wpS_holding (anyS (wpAny_mono h' (fun a s₁ h₁=>wpS_bindA (wpAny_standAt ?_)) fun _ _ x=>x)))
  simp only [hpl]
  refine wpS_bindA (wpAny_pure ?_)
  exact wpS_bind (wpS_mono h₁ (fun r s₂ hr=>wpS_bindA (wpAny_holding (wpAny_point (wpS_pure hr)))) fun _ _ x=>x)
theorem ExS.step2 {st:Stmt} (h:∀ s,St g ρ μ s→wpS g.C.M g.A (exec st g.env) (fun f s'=>match f with | .next=>wpS g.C.M g.A (execs rest g.env) (fun f s''=>Ext g.C S s s''∧Φ f s'') NoE s' | f=>Ext g.C S s s'∧Φ f s') NoE s):ExS g S ρ μ (st::rest) Φ:=fun s x =>
  execsS_cons (wpS_mono (h s x) (fun f s' q=>by cases f <;> exact q) fun _ _ e=>e)
theorem ExS.newBa (i : Nat) {x : Str} {p pos cpos : Pos} {func e : Expr} {n : Int} (R : Room g.A 0) (h1 : g.ns[i]? = some x) (hk : Stored g S x) (hf : Ev g ρ μ func (.val (.type "bytearray"))) (ha : EvL g ρ μ cpos [e] [.int n]) (h0 : 0 ≤ n) (hz : n ≤ sizeLine)
    (k:∀ a,a∉g.X→a∉S→ExS { g with X:=a::g.X } (a::S) (ρ.set i (some (.val (.ref a)))) ((a,.ba (Array.replicate n.toNat 0))::μ) rest Φ)
    (hS:∀ a∈S,a∈g.X) (hs:swapsWith (.Call func [e] [] cpos) (some (.Name x p)) pos.line g.env=pure false:=by rfl)
    (he:starEach [e] g.env=(false,eval e g.env)::starEach [] g.env:=by rfl)
    (hq:eval (.Call func [e] [] cpos) g.env=(eval func g.env >>= fun v=>callWith cpos v [] (backTo cpos (starEach [e] g.env)) []):=by rfl):ExS g S ρ μ (.Assign [.Name x p] (.Call func [e] [] cpos) pos::rest) Φ:=ExS.step2 fun s y =>
  assignS (by
    rw [hq]
    refine wpS_bindA (hf.wp y fun v s₁ y₁ r₁ e₁=>?_)
    (first | obtain rfl:=r₁.vI | obtain ⟨_,rfl⟩:=r₁.iI | obtain ⟨_,rfl⟩:=r₁.sI | obtain ⟨_,rfl⟩:=r₁.bI | obtain rfl:=r₁.nI | cases r₁)
    refine callWithS_T ((ha s₁ y₁).use fun vs s₂ e₂ r₂=>?_) he
    have y₂:=y₁.ext e₂
    obtain ⟨v,rfl,r⟩:=r₂.one
    cases r with | int _ t =>
    refine call_ba h0 hz R.g fun h' hkeep ⟨n',ho⟩=>?_
    have hn:s₂.heap.get? s₂.heap.objs.size=Option.none:=none_of_ge (Nat.le_refl _)
    generalize s₂.heap.objs.size=a at *
    have e₃:Ext g.C [] s₂ { s₂ with heap:=h' }:=.of_keeps hkeep rfl rfl
    have f:=y₂.fresh hn
    have y₃:=y₂.wide (wr:=[a]) e₃ (fun b hb=>by rw [List.mem_singleton.mp hb];exact hn) (fun b hb=>by rw [List.mem_singleton.mp hb];exact ⟨_,ho⟩)
    have y₄:St { g with X:=a::g.X } ρ ((a,.ba (Array.replicate n.toNat 0))::μ) { s₂ with heap:=h' }:=by
      refine St.addmut (g:={ g with X:=a::g.X }) y₃ ⟨n',ho⟩ (fun b hb=>?_) (by simp [Mut.more])
      have hb':b=a:=by simpa [Mut.more] using hb
      subst hb'
      exact ⟨.head _,f.2⟩
    have haS:a∉S:=fun q=>f.1 (hS a q)
    refine (St.store (g:={ g with X:=a::g.X }) y₄ h1 hk (.val (.ref a))).use fun _ s₅ e₅ y₅=>?_
    refine (k a f.1 haS s₅ y₅).use fun fl s₆ e₆ q=>⟨?_,q⟩
    have e₁₅:Ext g.C S s s₅:=(((e₁.trans e₂).trans e₃).wider (fun _ h=>nomatch h)).trans e₅
    exact ((e₁₅.wider fun b hb=>.inl (.tail _ hb)).trans e₆).wider fun b hb=>by
      rcases List.mem_cons.mp hb with rfl | hb
      · exact .inr ((e₁.trans e₂).none_back hn)
      · exact .inl hb) hs
theorem Ev.bytesBa {func e : Expr} {pos : Pos} {a : Addr} {b : Array UInt8} (hf : Ev g ρ μ func (.val (.type "bytes"))) (ha : EvL g ρ μ pos [e] [.val (.ref a)]) (hm : (a, .ba b) ∈ μ) (hz : b.size ≤ sizeLine)
    (he:starEach [e] g.env=(false,eval e g.env)::starEach [] g.env:=by rfl)
    (hq:eval (.Call func [e] [] pos) g.env=(eval func g.env >>= fun v=>callWith pos v [] (backTo pos (starEach [e] g.env)) []):=by rfl):Ev g ρ μ (.Call func [e] [] pos) (.bytes b):=fun s y=>by
  show wpAny _ _ _ _ _ _
  rw [hq]
  refine wpAny_bind (hf.wp y fun v s₁ y₁ r₁ e₁=>?_)
  (first | obtain rfl:=r₁.vI | obtain ⟨_,rfl⟩:=r₁.iI | obtain ⟨_,rfl⟩:=r₁.sI | obtain ⟨_,rfl⟩:=r₁.bI | obtain rfl:=r₁.nI | cases r₁)
  refine callWith_B rfl ((ha s₁ y₁).use fun vs s₂ e₂ r₂=>?_) he
  have y₂:=y₁.ext e₂
  obtain ⟨v,rfl,r⟩:=r₂.one
  (first | obtain rfl:=r.vI | obtain ⟨_,rfl⟩:=r.iI | obtain ⟨_,rfl⟩:=r.sI | obtain ⟨_,rfl⟩:=r.bI | obtain rfl:=r.nI | cases r)
  obtain ⟨n,ho⟩:=y₂.muts _ hm
  exact bytes_ba ho hz ⟨(e₁.trans e₂).trans .tok,.bytes ..⟩
end
end Mine
end
section
open PySem PySem.Calls PySem.W PyProof.Rows
namespace Mine
local macro_rules | `(tactic| o_law)=>`(tactic| refine holds_law (by decide +kernel) fun said=>?_)
open_top hd for PySem.Challenge.rw_wv0010_01
end Mine
end
section
open PySem PySem.Calls PySem.W PyProof.Rows
namespace Mine
structure Is1 (C:Cx):Prop where
  K:∃ P,C.K=hd.heap_1 P
  prog:C.prog.main=PySem.Challenge.rw_wv0010_01.row.toRowW.claim.prog.main
  P:C.P=[113,120]
  base:Base C
  bm:∃ a o,BMod C.hb mainGlobals C.mg a o∧a∉C.P
theorem Is1.glob {C:Cx} (H:Is1 C) {n:Str} {v:Value} (h:∀ P,nsIn (hd.heap_1 P) mainGlobals n=some (some v)):C.mg n=some v:=by
  obtain ⟨P,hK⟩:=H.K
  exact mg_of H.base.X H.base.g (by rw [hK];exact h P)
theorem Is1.noGlob {C:Cx} (H:Is1 C) {n:Str} (h:∀ P,nsIn (hd.heap_1 P) mainGlobals n=some none):C.mg n=none:=by
  obtain ⟨P,hK⟩:=H.K
  exact mg_none_of H.base.X H.base.g (by rw [hK];exact h P)
theorem Is1.bltn {C:Cx} (H:Is1 C) {n:Str} {v:Value} (hb:bootBuiltins n=some v) (hn:n≠"__name__"):C.mb n=some v:=(H.base.bi n hn).trans hb
noncomputable abbrev FnAt (n:Nat):={fd:FuncData // ∀ P,∃ oc od osl,(hd.heap_1 P).lookup n=some ⟨oc,od,.func fd,osl⟩}
noncomputable def fInit:FnAt 88:=⟨_,fun P=>⟨_,_,_,rfl⟩⟩
noncomputable def fPush:FnAt 95:=⟨_,fun P=>⟨_,_,_,rfl⟩⟩
noncomputable def fPop:FnAt 111:=⟨_,fun P=>⟨_,_,_,rfl⟩⟩
noncomputable def fLen:FnAt 118:=⟨_,fun P=>⟨_,_,_,rfl⟩⟩
noncomputable def fStr:FnAt 125:=⟨_,fun P=>⟨_,_,_,rfl⟩⟩
noncomputable def fReset:FnAt 133:=⟨_,fun P=>⟨_,_,_,rfl⟩⟩
noncomputable def fOnly:FnAt 140:=⟨_,fun P=>⟨_,_,_,rfl⟩⟩
noncomputable def fCount:FnAt 148:=⟨_,fun P=>⟨_,_,_,rfl⟩⟩
noncomputable def fColl:FnAt 162:=⟨_,fun P=>⟨_,_,_,rfl⟩⟩
noncomputable def fXfrm:FnAt 169:=⟨_,fun P=>⟨_,_,_,rfl⟩⟩
noncomputable def fMgr:FnAt 35:=⟨_,fun P=>⟨_,_,_,rfl⟩⟩
noncomputable def fSub:FnAt 64:=⟨_,fun P=>⟨_,_,_,rfl⟩⟩
noncomputable def fSwap:FnAt 176:=⟨_,fun P=>⟨_,_,_,rfl⟩⟩
theorem accOk (P:Params):AccOk (hd.heap_1 P) 151:=⟨⟨⟨_,by rfl,by decide +kernel⟩,by rfl⟩,by rfl,by rfl⟩
theorem sizeOk (P:Params):SizeOk (hd.heap_1 P) 151:=⟨by rfl,by rfl,by rfl,fun hsh t u n=>by rfl⟩
theorem mgrOk (P:Params):ClsOk (hd.heap_1 P) 67:=⟨⟨_,by rfl,by decide +kernel⟩,by rfl⟩
theorem mPush (P:Params):MethOk (hd.heap_1 P) 151 "push" 95:=⟨by rfl,by rfl,by rfl⟩
theorem mPop (P:Params):MethOk (hd.heap_1 P) 151 "pop" 111:=⟨by rfl,by rfl,by rfl⟩
theorem mReset (P:Params):MethOk (hd.heap_1 P) 151 "reset" 133:=⟨by rfl,by rfl,by rfl⟩
theorem mOnly (P:Params):MethOk (hd.heap_1 P) 151 "is_onlyws" 140:=⟨by rfl,by rfl,by rfl⟩
theorem mCount (P:Params):MethOk (hd.heap_1 P) 151 "part_count" 148:=⟨by rfl,by rfl,by rfl⟩
theorem mSub (P:Params):MethOk (hd.heap_1 P) 67 "is_suburi" 64:=⟨by rfl,by rfl,by rfl⟩
theorem mLen (P:Params):MethOk (hd.heap_1 P) 151 "__len__" 118:=⟨by rfl,by rfl,by rfl⟩
theorem mStr (P:Params):MethOk (hd.heap_1 P) 151 "__str__" 125:=⟨by rfl,by rfl,by rfl⟩
theorem lenOk (P:Params):LenOk (hd.heap_1 P) 151 118:=⟨by rfl,by rfl,by rfl⟩
theorem strOk (P:Params):StrOk (hd.heap_1 P) 151 125:=⟨by rfl,by rfl⟩
theorem codeLen {C:Cx} (H:Is1 C):CodeOk C 117 113:=⟨by rw [H.P];decide,by obtain ⟨P,hK⟩:=H.K;rw [hK];exact ⟨_,_,_,_,_,_,_,_,_,_,_,rfl,rfl,rfl,rfl,rfl,rfl,rfl⟩⟩
theorem codeStr {C:Cx} (H:Is1 C):CodeOk C 124 120:=⟨by rw [H.P];decide,by obtain ⟨P,hK⟩:=H.K;rw [hK];exact ⟨_,_,_,_,_,_,_,_,_,_,_,rfl,rfl,rfl,rfl,rfl,rfl,rfl⟩⟩
end Mine
end
section
open PySem PySem.Calls PySem.W PyProof.Rows
namespace Mine
noncomputable abbrev sub1 (a b:Bool):Int:=(if a then 1 else 0) - (if b then 1 else 0)
noncomputable abbrev coll (a b:List Nat):Int:=sub1 (decide (b < a)) (decide (a < b))
theorem fn_coll {C:Cx} (H:Is1 C) (a b:List Nat):FnM C 1 (.ref 162) [.s a,.s b] [] (.int (coll a b)) []:=by
  obtain ⟨P,hK⟩:=H.K
  obtain ⟨oc,od,osl,ho⟩:=fColl.2 P
  refine FnM.intro (fd:=fColl.1) ["a","b"] [] 0 (by rw [hK];exact ho) (by rw [hK];rfl) rfl rfl rfl rfl (fun vals hv=>?_) rfl (by decide) (fun n x hx=>?_) (by decide) (fun A X L R hm=>?_)
  · obtain ⟨v,w,rfl⟩:=len2 hv;rfl
  · simp only [List.mem_cons,List.not_mem_nil,or_false] at hx
    rcases hx with rfl | rfl <;> exact .inl rfl
  refine Ex.ret (d:=.int (coll a b)) (Ev.bin R (Ev.cmp R (Ev.name 0 rfl rfl) (Ev.name 1 rfl rfl) (Cmp.gts a b)) (Ev.cmp R (Ev.name 0 rfl rfl) (Ev.name 1 rfl rfl) (Cmp.lts a b)) Bin.subB) fun v s y r=>⟨r,fun _ h=>nomatch h⟩
theorem fn_xfrm {C:Cx} (H:Is1 C) (d:D):FnM C 1 (.ref 169) [d] [] d []:=by
  obtain ⟨P,hK⟩:=H.K
  obtain ⟨oc,od,osl,ho⟩:=fXfrm.2 P
  refine FnM.intro (fd:=fXfrm.1) ["s"] [] 0 (by rw [hK];exact ho) (by rw [hK];rfl) rfl rfl rfl rfl (fun vals hv=>?_) rfl (by decide) (fun n x hx=>?_) (by decide) (fun A X L R hm=>?_)
  · obtain ⟨v,rfl⟩:=len1 hv;rfl
  · simp only [List.mem_cons,List.not_mem_nil,or_false] at hx
    subst hx;exact .inl rfl
  exact Ex.ret (d:=d) (Ev.name 0 rfl rfl) fun v s y r=>⟨r,fun _ h=>nomatch h⟩
theorem superAt {C : Cx} (H : Is1 C) {n q : Nat} {name : Str} {id nm T kind : String} (F : FnAt n) (L : Addr) (ds : Descr id nm T kind) (hT : (T = "method_descriptor" ∧ kind = "builtin_function_or_method") ∨ (T = "wrapper_descriptor" ∧ kind = "method-wrapper"))
    (ks:F.1.scope.names.lookup ("super":Str)=some .globalImplicit) (kc:F.1.scope.names.lookup ("__class__":Str)=some .free) (kself:F.1.scope.names.lookup ("self":Str)=some .local)
    (ar:∃ ar,(F.1.params.posonlyargs++F.1.params.args).head?=some ar∧ar.arg="self") (hcl:F.1.closure.lookup ("__class__":Str)=some 75)
    (code:∀ P,∃ cda oc od vs osl tf,F.1.code=.ref cda∧(hd.heap_1 P).lookup cda=some ⟨oc,od,.fields vs,osl⟩∧vs[2]?=some (.str "/claim/cut.py" tf))
    (hal:∀ P,alongIn (hd.heap_1 P) name [.type "list",.type "object"]=some (some (.builtin id))) (hn:(name == ("__class__":Str))=false) :
    SuperOk C (callEnv F.1 L n) n 151 name id nm T kind:=by
  obtain ⟨P,hK⟩:=H.K
  obtain ⟨oc,od,osl,ho⟩:=F.2 P
  obtain ⟨cda,oc',od',vs,osl',tf,h1,h2,h3⟩:=code P
  obtain ⟨ar,ha1,ha2⟩:=ar
  exact {
    ks:=ks,kc:=kc,kself:=kself,fu:=rfl
    hf:=⟨oc,od,F.1,osl,by rw [hK];exact ho,ar,ha1,ha2⟩
    code:=⟨cda,oc',od',vs,osl',_,tf,h1,by rw [hK];exact h2,h3,by rw [H.prog];decide +kernel⟩
    top:=by rw [H.prog];decide +kernel
    cell:=⟨75,_,_,_,hcl,by rw [hK];rfl⟩
    glob:=by rw [hK];rfl
    third:=by rw [hK];rfl
    cls:=⟨_,by rw [hK];rfl,by rw [hK];exact hal P⟩
    self:=by rw [hK];rfl
    lst:=by rw [hK];rfl
    ds:=ds,hT:=hT,hn:=hn }
theorem superCount {C:Cx} (H:Is1 C) (L:Addr):SuperOk C (callEnv fCount.1 L 148) 148 151 "__len__" "list.__len__" "__len__" "wrapper_descriptor" "method-wrapper" :=
  superAt (q:=0) H fCount L descr_len (.inr ⟨rfl,rfl⟩) rfl rfl rfl ⟨_,rfl,rfl⟩ rfl (fun P=>⟨_,_,_,_,_,_,rfl,rfl,rfl⟩) (fun P=>by rfl) (by decide)
theorem superPop {C:Cx} (H:Is1 C) (L:Addr):SuperOk C (callEnv fPop.1 L 111) 111 151 "pop" "list.pop" "pop" "method_descriptor" "builtin_function_or_method" :=
  superAt (q:=0) H fPop L descr_pop (.inl ⟨rfl,rfl⟩) rfl rfl rfl ⟨_,rfl,rfl⟩ rfl (fun P=>⟨_,_,_,_,_,_,rfl,rfl,rfl⟩) (fun P=>by rfl) (by decide)
theorem superInit {C:Cx} (H:Is1 C) (L:Addr):SuperOk C (callEnv fInit.1 L 88) 88 151 "__init__" "list.__init__" "__init__" "wrapper_descriptor" "method-wrapper" :=
  superAt (q:=0) H fInit L descr_init (.inr ⟨rfl,rfl⟩) rfl rfl rfl ⟨_,rfl,rfl⟩ rfl (fun P=>⟨_,_,_,_,_,_,rfl,rfl,rfl⟩) (fun P=>by rfl) (by decide)
end Mine
end
section
open PySem PySem.Calls PySem.W PyProof.Rows
namespace Mine
theorem clo25 {C:Cx} (H:Is1 C):∀ x c,([((Str.ofString "__class__"),75)]:List (Str × Addr)).lookup x=some c→c∉C.P∧∃ v,∃ oc od osl,C.K.lookup c=some ⟨oc,od,.cell (some v),osl⟩:=fun x c h=>by
  obtain ⟨P,hK⟩:=H.K
  have:c=75:=by
    simp only [List.lookup] at h
    split at h
    · cases h;rfl
    · cases h
  subst this
  exact ⟨by rw [H.P];decide,_,_,_,_,by rw [hK];rfl⟩
theorem inj25:∀ x y c,([((Str.ofString "__class__"),75)]:List (Str × Addr)).lookup x=some c→([((Str.ofString "__class__"),75)]:List (Str × Addr)).lookup y=some c→x=y:=fun x y c h h'=>by
  simp only [List.lookup] at h h'
  split at h
  · split at h'
    · rename_i a _ b;exact (eq_of_beq a).trans (eq_of_beq b).symm
    · cases h'
  · cases h
theorem noClo {C:Cx}:∀ x c,([]:List (Str × Addr)).lookup x=some c→c∉C.P∧∃ v,∃ oc od osl,C.K.lookup c=some ⟨oc,od,.cell (some v),osl⟩:=fun x c h=>nomatch h
theorem noInj:∀ x y c,([]:List (Str × Addr)).lookup x=some c→([]:List (Str × Addr)).lookup y=some c→x=y:=fun x y c h=>nomatch h
theorem fn_count {C:Cx} (H:Is1 C) (x dx:Addr) (ds:List D):FnM C 1 (.ref 148) [.val (.ref x)] [(x,.acc 151 dx ds)] (.int ds.length) [(x,.acc 151 dx ds)]:=by
  obtain ⟨P,hK⟩:=H.K
  obtain ⟨oc,od,osl,ho⟩:=fCount.2 P
  refine FnM.introAt (fd:=fCount.1) (es:=[]) ["self"] [] 0 (by rw [hK];exact ho) (by rw [hK];rfl) rfl (clo25 H) inj25 rfl rfl (fun s vals X hv=>⟨[],fun _ _=>.nil,?_⟩) rfl (by decide) (by decide) (by decide) (fun A X L R hm s y=>?_)
  · obtain ⟨v,rfl⟩:=len1 hv;exact BindsTo.of_eq rfl
  have hmem:(x,Mut.acc 151 dx ds)∈[(x,Mut.acc 151 dx ds)]:=.head _
  refine ks_wpAt_execs_cons (ks_wpAt_Return_some (super_run (i:=0) (superCount H L) y rfl rfl hmem (by decide +kernel) F.entry_list_len (fun s A Q E ox od X I h=>?_) fun s' e y'=>?_))
  · exact wpAny_of_eq (bound_slot sig_len (by decide +kernel) (chk_len x)) h
  · obtain ⟨⟨vs,n,ho',r⟩,_⟩:=y'.muts _ hmem
    refine run_len ho' ⟨(e.trans .tok).up0,?_,fun p hp=>(y'.ext (s':={ s' with toks:=s'.toks+1 }) .tok).muts p hp⟩
    rw [r.length];exact .int ..
theorem fn_pop {C:Cx} (H:Is1 C) (x dx:Addr) (ds:List D) (hz:ds.length≤900):FnM C 2 (.ref 111) [.val (.ref x)] [(x,.acc 151 dx ds)] (ds.getLast?.getD (.tup [.s [],.s []])) [(x,.acc 151 dx ds.dropLast)]:=by
  obtain ⟨P,hK⟩:=H.K
  obtain ⟨oc,od,osl,ho⟩:=fPop.2 P
  refine FnM.introAt (fd:=fPop.1) (es:=[]) ["self"] [] 0 (by rw [hK];exact ho) (by rw [hK];rfl) rfl (clo25 H) inj25 rfl rfl (fun s vals X hv=>⟨[],fun _ _=>.nil,?_⟩) rfl (by decide) (by decide) (by decide) (fun A X L R hm s y=>?_)
  · obtain ⟨v,rfl⟩:=len1 hv;exact BindsTo.of_eq rfl
  have hmem:(x,Mut.acc 151 dx ds)∈[(x,Mut.acc 151 dx ds)]:=.head _
  refine ks_wpAt_execs_cons (ks_wpAt_If (wpAt_of_wpAny ?_))
  refine EvTM.wp (b:=((ds.length:Int) == 0)) (μ':=[(x,.acc 151 dx ds)]) (EvTM.cmp R.zero (EvM.own0 (μ₀:=[(x,.acc 151 dx ds)]) [] [] R (Ev.name 0 rfl rfl) hmem rfl (by rw [hK];exact (accOk P).ok) (by rw [hK];exact mCount P) (by decide) (fn_count H x dx ds) rfl) Ev.int Cmp.eq) y fun s' y' e=>?_
  have eX:Ext C (L::doms [(x,Mut.acc 151 dx ds)]) s s':=e.wider fun b hb=>.inl (.tail _ hb)
  rcases List.eq_nil_or_concat ds with hd0 | ⟨r0,d0,hd0⟩
  · subst hd0
    refine wpAt_of_wpAny (wpAny_mono (Ex.ret (rest:=[]) (d:=.tup [.s [],.s []]) (Φ:=fun fl s=>(∃ v,fl=.ret v)∧RetAs (L::X) (.tup [.s [],.s []]) [(x,.acc 151 dx [])] fl s) (S:=L::doms [(x,Mut.acc 151 dx [])]) (Ev.tup (EvL.cons Ev.str (EvL.cons Ev.str EvL.nil))) (fun v s y r=>⟨⟨v,rfl⟩,r,y.muts⟩) s' y') (fun fl s'' q=>?_) fun _ _ e=>e)
    obtain ⟨q1,⟨v,rfl⟩,q2⟩:=q
    exact ⟨eX.trans q1,q2⟩
  · have hb:((ds.length:Int) == 0)=false:=by rw [hd0];simp;lia
    rw [hb]
    refine wpAt_of_wpAny (wpAny_execs_nil ?_)
    refine ks_wpAt_execs_cons (ks_wpAt_Return_some (super_run (i:=0) (superPop H L) y' rfl rfl hmem (by decide +kernel) F.entry_list_pop (fun s A Q E ox od X I h=>?_) fun s₁ e₁ y₁=>?_))
    · obtain ⟨cd,hcd,hq⟩:∃ cd,clsIn C.K 151=some cd∧s!"{cd.qualname.toString}.{Bind.lastOf "list.pop"}"="_Accumulator.pop":=⟨_,by rw [hK];rfl,by decide +kernel⟩
      exact bound_meth (K:=C.K) (C:=151) (cd:=cd) sig_pop (by decide +kernel) (by decide +kernel) X I (by rw [hK];rfl) hcd (by rw [hK];rfl) (by have:=chk_pop x;rw [← hq] at this;exact this) h
    · obtain ⟨⟨vs,n,ho',r⟩,_⟩:=y₁.muts _ hmem
      have hl:=r.length
      subst hd0
      obtain ⟨ws,v,rfl,rw',rv⟩:∃ ws v,vs=ws++[v]∧RepL (L::X) s₁.heap ws r0∧Rep (L::X) s₁.heap v d0:=by
        have h1:=r.take r0.length
        have h2:=r.drop r0.length
        simp only [List.concat_eq_append,List.take_left',List.drop_left'] at h1 h2
        obtain ⟨v,hv,rv⟩:=h2.one
        exact ⟨_,v,by rw [← hv,List.take_append_drop],h1,rv⟩
      have hz':ws.length≤900:=by have:=rw'.length;simp at hz;lia
      refine run_pop ho' hz' fun h' ⟨n',hp⟩ hs=>?_
      obtain ⟨e₂,y₂⟩:=y₁.reacc (p:=[]) (q:=[]) (tk:=s₁.toks) hs hp rw'
      refine ⟨(eX.trans e₁.up0).trans (e₂.wider fun b hb=>.inl (.tail _ hb)),?_,?_⟩
      · have:=rv.ext e₂ (fun b hb=>(y₁.mX b hb).1) y₁.inv.pin
        simpa using this
      · simpa using y₂.muts
end Mine
end
section
open PySem PySem.Calls PySem.W PyProof.Rows
namespace Mine
theorem fn_push {C:Cx} (H:Is1 C) (x dx:Addr) (ds:List D) (a b:List Nat) (hz:ds.length < 1000):FnM C 1 (.ref 95) [.val (.ref x),.s a,.s b] [(x,.acc 151 dx ds)] D.nil [(x,.acc 151 dx (ds++[D.ss (a,b)]))]:=by
  obtain ⟨P,hK⟩:=H.K
  obtain ⟨oc,od,osl,ho⟩:=fPush.2 P
  refine FnM.intro (fd:=fPush.1) ["self","fws","string"] [] 0 (by rw [hK];exact ho) (by rw [hK];rfl) rfl rfl rfl rfl (fun vals hv=>?_) rfl (by decide) (fun n x hx=>?_) (by decide) (fun A X L R hm=>?_)
  · obtain ⟨v,w,z,rfl⟩:=len3 hv;rfl
  · simp only [List.mem_cons,List.not_mem_nil,or_false] at hx
    rcases hx with rfl | rfl | rfl <;> exact .inl rfl
  refine Ex.exprM (μ':=[(x,.acc 151 dx (ds++[D.ss (a,b)]))]) (EvM.accAppend (p:=[]) (q:=[]) (Ev.name 0 rfl rfl) (Ev.tup (EvL.cons (Ev.name 1 rfl rfl) (EvL.cons (Ev.name 2 rfl rfl) EvL.nil)) (Nat.le_of_ble_eq_true rfl)) hz (by rw [hK];exact (accOk P).ok) (by rw [hK];rfl) (by rw [hK];rfl)) (fun c hc=>List.mem_append_right _ hc) ?_
  exact Ex.nil fun s y=>⟨.val _,y.muts⟩
noncomputable def lenOf (xs:List (List Nat × List Nat)):Int:=(xs.map fun p=>((p.1.length+p.2.length:Nat):Int)).sum
theorem fn_len {C:Cx} (H:Is1 C) (x dx:Addr) (xs:List (List Nat × List Nat)) (hz:∀ p∈xs,p.1.length≤1000∧p.2.length≤1000):FnM C 1 (.ref 118) [.val (.ref x)] [(x,.acc 151 dx (xs.map D.ss))] (.int (lenOf xs)) [(x,.acc 151 dx (xs.map D.ss))]:=by
  obtain ⟨P,hK⟩:=H.K
  obtain ⟨oc,od,osl,ho⟩:=fLen.2 P
  refine FnM.intro (fd:=fLen.1) ["self"] [] 0 (by rw [hK];exact ho) (by rw [hK];rfl) rfl rfl rfl rfl (fun vals hv=>?_) rfl (by decide) (fun n x hx=>?_) (by decide) (fun A X L R hm=>?_)
  · obtain ⟨v,rfl⟩:=len1 hv;rfl
  · simp only [List.mem_cons,List.not_mem_nil,or_false] at hx
    subst hx;exact .inl rfl
  have hmem:(x,Mut.acc 151 dx (xs.map D.ss))∈[(x,Mut.acc 151 dx (xs.map D.ss))]:=.head _
  refine Ex.retM (μ':=[(x,.acc 151 dx (xs.map D.ss))]) ⟨rfl,fun s y=>?_⟩ (fun c hc=>List.mem_append_right _ hc) (fun v s y r=>⟨r,y.muts⟩)
  have hmg:C.mg "sum"=none:=H.noGlob fun P=>by rfl
  have hml:C.mg "len"=none:=H.noGlob fun P=>by rfl
  have hbl:C.mb "len"=some (.builtin "len"):=H.bltn rfl (by decide)
  refine call_open rfl ((Ev.bltn (v:=.builtin "sum") hmg rfl rfl).wp y fun v s₁ y₁ r₁ e₁=>?_)
  (first | obtain rfl:=r₁.vI | obtain ⟨_,rfl⟩:=r₁.iI | obtain ⟨_,rfl⟩:=r₁.sI | obtain ⟨_,rfl⟩:=r₁.bI | obtain rfl:=r₁.nI | cases r₁)
  refine callWith_B rfl (spliced_open rfl ?_) rfl
  refine gen_acc (i:=0) (fun p v=>∃ t,v=.int ((p.1.length:Int)+p.2.length) t) R y₁ rfl (codeLen H) (by rw [hK];exact accOk P) hmem rfl rfl H.bm rfl rfl rfl (by decide) rfl rfl rfl (by decide) (fun cenv h1 h2 h3 A' E' p ta tb s₂ m₂ hp hn ha hb hmg' hmb'=>?_) (fun a s₅ fp wr k P' St' hP' W hT hst hfp ha e₅ hmv=>?_)
  · have hk:cenv.scope.kind=.function:=by rw [h1]
    have k1:cenv.kindOf "len"=some .globalImplicit:=by unfold Env.kindOf;rw [h1];rfl
    have k2:cenv.kindOf "fws"=some .local:=by unfold Env.kindOf;rw [h1];rfl
    have k3:cenv.kindOf "part"=some .local:=by unfold Env.kindOf;rw [h1];rfl
    refine wpAny_BinOp (raw_len hk k1 k2 (by rw [h2];exact hmg') hml (by rw [h3];exact hmb') hbl hn ha (by have:=hz p hp;lia) (by decide) fun t'=>?_)
    refine raw_len (s:={ s₂ with toks:=s₂.toks+1+1 }) hk k1 k3 (by rw [h2];exact hmg') hml (by rw [h3];exact hmb') hbl hn hb (by have:=hz p hp;lia) (by decide) fun t''=>?_
    exact _root_.PySem.P.add_int ⟨⟨_,rfl⟩,_,_,rfl,fun _ _ e=>e⟩
  · have y₅:=y₁.ext e₅
    refine spliced_open rfl (attr_size y₅ (i:=0) rfl rfl rfl hmem (by rw [hK];exact sizeOk P) fun u=>?_)
    refine spliced_nil ?_
    have st':=W.frame 0 s₅ s₅.heap (s₅.toks+1) hst (Nat.le_succ _) fun _ _ _ e=>e
    refine call_sum2 (s:={ s₅ with toks:=s₅.toks+1 }) (val:=fun i=>match xs[i]? with | some p=>(p.1.length:Int)+p.2.length | none=>0) W.in4_1 st' hfp (fun j v hv=>?_) fun s' t' hm'=>?_
    · obtain ⟨p,hp,t,rfl⟩:=hP' j v hv
      exact ⟨t,by rw [hp]⟩
    · have e₆:=hmv { s₅ with toks:=s₅.toks+1 } s' (e₅.trans .tok) hm'
      refine ⟨(e₁.trans e₆).up0,y₁.ext e₆,?_⟩
      have hsum:preSum (fun i=>match xs[i]? with | some p=>(p.1.length:Int)+p.2.length | none=>0) xs.length=lenOf xs:=by
        have:=preSum_list (xs.map fun p=>((p.1.length+p.2.length:Nat):Int)) (fun i=>match xs[i]? with | some p=>(p.1.length:Int)+p.2.length | none=>0) (fun i hi=>by
          rw [List.length_map] at hi
          simp [List.getElem?_eq_getElem hi])
        rw [List.length_map] at this
        exact this
      rw [hsum]
      exact .int ..
end Mine
end
section
open PySem PySem.Calls PySem.W PyProof.Rows PySem.Builtin.Str
namespace Mine
noncomputable def textOf (xs:List (List Nat × List Nat)):List Nat:=(xs.map fun p=>p.1++p.2).flatten
theorem fn_str {C:Cx} (H:Is1 C) (x dx:Addr) (xs:List (List Nat × List Nat)) (hz:∀ p∈xs,p.1.length≤1000∧p.2.length≤1000) (hz':(textOf xs).length+xs.length≤1048576):FnM C 1 (.ref 125) [.val (.ref x)] [(x,.acc 151 dx (xs.map D.ss))] (.s (textOf xs)) [(x,.acc 151 dx (xs.map D.ss))]:=by
  obtain ⟨P,hK⟩:=H.K
  obtain ⟨oc,od,osl,ho⟩:=fStr.2 P
  refine FnM.intro (fd:=fStr.1) ["self"] [] 0 (by rw [hK];exact ho) (by rw [hK];rfl) rfl rfl rfl rfl (fun vals hv=>?_) rfl (by decide) (fun n x hx=>?_) (by decide) (fun A X L R hm=>?_)
  · obtain ⟨v,rfl⟩:=len1 hv;rfl
  · simp only [List.mem_cons,List.not_mem_nil,or_false] at hx
    subst hx;exact .inl rfl
  have hmem:(x,Mut.acc 151 dx (xs.map D.ss))∈[(x,Mut.acc 151 dx (xs.map D.ss))]:=.head _
  refine Ex.retM (μ':=[(x,.acc 151 dx (xs.map D.ss))]) ⟨rfl,fun s y=>?_⟩ (fun c hc=>List.mem_append_right _ hc) (fun v s y r=>⟨r,y.muts⟩)
  obtain ⟨tk,hme⟩:∃ tk,C.mg "EMPTYSTRING"=some (.str (sl []) tk):=⟨_,H.glob fun P=>by rfl⟩
  refine wpAny_Call_method (by rfl) (by rfl) (by rfl) F.plainAttrs_str F.slot_str_join F.type_str_join ((Ev.globS hme rfl).wp y fun v s₁ y₁ r₁ e₁=>?_)
  (first | obtain rfl:=r₁.vI | obtain ⟨_,rfl⟩:=r₁.iI | obtain ⟨_,rfl⟩:=r₁.sI | obtain ⟨_,rfl⟩:=r₁.bI | obtain rfl:=r₁.nI | cases r₁)
  refine ⟨typeIs_str _ _ _,(fun a h=>nomatch h),callWith_B rfl (spliced_open (by rfl) ?_) (by rfl)⟩
  refine gen_acc (i:=0) (fun p v=>∃ t,v=.str (sl (p.1++p.2)) t) R y₁ rfl (codeStr H) (by rw [hK];exact accOk P) hmem rfl rfl H.bm rfl rfl rfl (by decide) rfl rfl rfl (by decide) (fun cenv h1 h2 h3 A' E' p ta tb s₂ m₂ hp hn ha hb hmg' hmb'=>?_) (fun a s₅ fp wr k P' St' hP' W hT hst hfp ha e₅ hmv=>?_)
  · have hk:cenv.scope.kind=.function:=by rw [h1]
    have k1:cenv.kindOf "EMPTYSTRING"=some .globalImplicit:=by unfold Env.kindOf;rw [h1];rfl
    have k2:cenv.kindOf "fws"=some .local:=by unfold Env.kindOf;rw [h1];rfl
    have k3:cenv.kindOf "part"=some .local:=by unfold Env.kindOf;rw [h1];rfl
    exact raw_join2 hk k1 k2 k3 (by rw [h2];exact hmg') hme hn ha hb (by have:=hz p hp;lia) (by decide) (by decide) (by decide) (fun t' k=>⟨⟨_,rfl⟩,_,_,rfl,fun b o e=>Heap.get?_push_of_some _ e⟩) (by rfl)
  · refine spliced_nil ?_
    refine SC.joinGen W.in4_2 hT hst hfp ha (fun j v hv=>?_) (fun s' l hm' hi=>?_) ?_
    · obtain ⟨p,hp,t,rfl⟩:=hP' j v hv
      exact ⟨_,t,rfl⟩
    · have hl:l.map (·.1)=(xs.map fun p=>p.1++p.2).map sl:=by
        have hsz:l.length=xs.length:=by have:=hi.1;simpa [strValues] using this
        refine List.ext_getElem (by simp [hsz]) fun j h1 h2=>?_
        simp only [List.getElem_map]
        simp only [List.length_map] at h1 h2
        obtain ⟨p,hp,t,hv⟩:=hP' j _ (hi.2 j _ (show (strValues l).toArray[j]?=some (.str (l[j]).1 (l[j]).2) by simp [strValues,List.getElem?_eq_getElem h1]))
        rw [List.getElem?_eq_getElem (by lia)] at hp
        cases hp
        injection hv with hv
      have hw:(((xs.map fun p=>p.1++p.2).map sl).map (·.length)).sum+((xs.map fun p=>p.1++p.2).map sl).length≤1048576:=by
        rw [sum_len];simpa [textOf] using hz'
      rw [hl]
      refine ⟨joinOk_of_weight hw (by rw [sl_len];decide),fun t' k=>?_⟩
      have e₆:=hmv s₅ s' e₅ hm'
      have e₇:Ext C [] s₁ { s' with toks:=k }:=e₆.trans .tok
      refine ⟨(e₁.trans e₇).up0,y₁.ext e₇,?_⟩
      have e:Txt.join (sl []) ((xs.map fun p=>p.1++p.2).map sl)=sl (textOf xs):=by
        show glued (sl []) _=_
        rw [StrLaws.glued_eq_join,join_flat];rfl
      rw [e];exact .str ..
    · have:sizeLine=16777216:=rfl
      lia
end Mine
end
section
open PySem PySem.Calls PySem.W PyProof.Rows PySem.Builtin.Str
namespace Mine
noncomputable def slashed (p:List Nat):List Nat:=if cut p (some (-1)) none≠[47] then p++[47] else p
noncomputable def suburi (b t:List Nat × List Nat):Bool:=if b=t then true else if b.1≠t.1 then false else (slashed b.2).isPrefixOf t.2
theorem fn_sub {C:Cx} (H:Is1 C) (m:Value) (b t:List Nat × List Nat) (hb:b.2.length≤100000) (hb1:b.1.length≤100000) (ht:t.2.length≤100000):FnM C 1 (.ref 64) [.val m,D.ss b,D.ss t] [] (D.bool (suburi b t)) []:=by
  obtain ⟨P,hK⟩:=H.K
  obtain ⟨oc,od,osl,ho⟩:=fSub.2 P
  refine FnM.intro (fd:=fSub.1) ["self","base","test"] ["prefix"] 1 (by rw [hK];exact ho) (by rw [hK];rfl) rfl rfl rfl rfl (fun vals hv=>?_) rfl (by decide) (fun n x hx=>?_) (by decide) (fun A X L R hm=>?_)
  · obtain ⟨v,w,z,rfl⟩:=len3 hv;rfl
  · simp only [List.mem_cons,List.not_mem_nil,or_false] at hx
    rcases hx with rfl | rfl | rfl <;> exact .inl rfl
  have two:2≤sizeLine:=by decide
  have sz:sizeLine=16777216:=rfl
  refine Ex.ite (EvT.cmp R (Ev.name 1 rfl rfl) (Ev.name 2 rfl rfl) (Cmp.eqP Kd.s Kd.s (by decide) b t)) (fun h=>?_) (fun h=>?_)
  · exact Ex.ret Ev.bool fun v s y r=>⟨by simpa [suburi,of_decide_eq_true h] using r,fun _ h=>nomatch h⟩
  have h1:=of_decide_eq_false h
  refine Ex.go (Ex.ite (EvT.cmp R (Ev.itemT R (Ev.name 1 rfl rfl) Ev.int (by decide) rfl two) (Ev.itemT R (Ev.name 2 rfl rfl) Ev.int (by decide) rfl two) (Cmp.nes b.1 t.1)) (fun h=>?_) (fun h=>?_))
  · exact Ex.ret Ev.bool fun v s y r=>⟨by simpa [suburi,h1,of_decide_eq_true h] using r,fun _ h=>nomatch h⟩
  have h2:=of_decide_eq_false h
  refine Ex.go (Ex.assign 3 rfl (.l rfl (.head _)) (Ev.itemT (d:=.s b.2) R (Ev.name 1 rfl rfl) Ev.int (by decide) rfl two) ?_)
  have lc:(cut b.2 (some (-1)) none).length≤b.2.length:=cut_len_le _ _ _
  refine Ex.ite (EvT.cmp R (Ev.sliceS R (Ev.name 3 rfl rfl) (EvP.some (i:=-1) (Ev.neg Ev.int)) EvP.none (by lia)) (Ev.str (x:="/")) (Cmp.nes _ [47])) (fun h=>?_) (fun h=>?_)
  · have hs:slashed b.2=b.2++[47]:=by unfold slashed;rw [if_pos (of_decide_eq_true h)]
    refine Ex.aug 3 (d:=.s (b.2++[47])) R rfl rfl (.l rfl (.head _)) (Ev.str (x:="/")) (Inp.addS (b:=[47]) (by simp;lia)) (Ex.go ?_)
    have hd:D.bool ((b.2++[47]).isPrefixOf t.2)=D.bool (suburi b t):=by unfold suburi;rw [if_neg h1,if_neg h2,hs]
    refine Ex.ret (d:=D.bool (suburi b t)) (hd ▸ ?_) fun v s y r=>⟨r,fun _ h=>nomatch h⟩
    exact Ev.meth (d₀:=.s t.2) R F.plainAttrs_str F.slot_str_startswith F.type_str_startswith (Ev.itemT R (Ev.name 2 rfl rfl) Ev.int (by decide) rfl two) isStr (EvL.cons (Ev.name 3 rfl rfl) EvL.nil) Bi.starts
  · have hs:slashed b.2=b.2:=by unfold slashed;rw [if_neg (of_decide_eq_false h)]
    have hd:D.bool ((b.2).isPrefixOf t.2)=D.bool (suburi b t):=by unfold suburi;rw [if_neg h1,if_neg h2,hs]
    refine Ex.go (Ex.ret (d:=D.bool (suburi b t)) (hd ▸ ?_) fun v s y r=>⟨r,fun _ h=>nomatch h⟩)
    exact Ev.meth (d₀:=.s t.2) R F.plainAttrs_str F.slot_str_startswith F.type_str_startswith (Ev.itemT R (Ev.name 2 rfl rfl) Ev.int (by decide) rfl two) isStr (EvL.cons (Ev.name 3 rfl rfl) EvL.nil) Bi.starts
end Mine
end
section
open PySem PySem.Calls PySem.W PyProof.Rows PySem.Builtin.Str
namespace Mine
theorem fn_mgr {C:Cx} (H:Is1 C) (x dx:Addr):FnM C 1 (.ref 35) [.val (.ref x)] [(x,.obj (instObj 67 dx) dx emptyDict)] D.nil [(x,.inst 67 dx)]:=by
  obtain ⟨P,hK⟩:=H.K
  obtain ⟨oc,od,osl,ho⟩:=fMgr.2 P
  refine FnM.intro (fd:=fMgr.1) ["self"] [] 0 (by rw [hK];exact ho) (by rw [hK];rfl) rfl rfl rfl rfl (fun vals hv=>?_) rfl (by decide) (fun n x hx=>?_) (by decide) (fun A X L R hm=>?_)
  · obtain ⟨v,rfl⟩:=len1 hv;rfl
  · simp only [List.mem_cons,List.not_mem_nil,or_false] at hx
    subst hx;exact .inl rfl
  have hmem:(x,Mut.obj (instObj 67 dx) dx emptyDict)∈[(x,Mut.obj (instObj 67 dx) dx emptyDict)]:=.head _
  refine Ex.step fun s y=>plainObj_wpAny_Assign_Attribute (wpAny_Dict_empty ?_)
  have e₁:Ext C [] s { s with heap:=s.heap.push { cls:=.type "dict",data:=.dict #[] } }:=.push'
  have y₁:=y.ext e₁
  refine self_at (i:=0) y₁ rfl rfl rfl ?_
  obtain ⟨h1,h2,h3⟩:=y₁.muts _ hmem
  refine set_raw (K:=C.K) (C:=67) (od:=emptyDict) y₁.inv.K ⟨h1,rfl,rfl,h3⟩ rfl (by rw [hK];rfl) (by rw [hK];rfl) (by rw [hK];rfl) (by rfl) rfl rfl rfl (Nat.le_of_ble_eq_true rfl) fun h' hs hd=>?_
  have:=y₁.setmut (m':=.inst 67 dx) (tk:=s.toks+2) (k:=0) rfl (b:=dx) (.tail _ (.head _)) rfl hs ⟨⟨#[],(hs.2 x (Ne.symm h2)).trans h1⟩,h2,_,_,_,_,hd⟩ ⟨_,hd⟩
  refine ⟨(e₁.up0.trans this.1).wider fun b hb=>.inl (List.mem_append_right _ hb),?_⟩
  exact wpAny_execs_nil ⟨.refl ..,.val _,this.2.muts⟩
theorem fn_init {C:Cx} (H:Is1 C) (x dx:Addr):FnM C 1 (.ref 88) [.val (.ref x)] [(x,.obj (accObj 151 dx) dx emptyDict)] D.nil [(x,.acc 151 dx [])]:=by
  obtain ⟨P,hK⟩:=H.K
  obtain ⟨oc,od,osl,ho⟩:=fInit.2 P
  refine FnM.introAt (fd:=fInit.1) (es:=[.int 0]) ["self","initial_size"] [] 0 (by rw [hK];exact ho) (by rw [hK];rfl) rfl (clo25 H) inj25 rfl rfl (fun s vals X hv=>⟨[.int 0 279],fun _ _=>.cons (.int ..) .nil,?_⟩) rfl (by decide) (by decide) (by decide) (fun A X L R hm s y=>?_)
  · obtain ⟨v,rfl⟩:=len1 hv
    · refine BindsTo.of_defaults (T:=80) (o:={ cls:=.type "tuple",data:=.seq #[.int 0 279] }) (items:=#[.int 0 279]) (n:=0) rfl (X _ _ (by rw [hK];rfl)) rfl rfl rfl
  have hmem:(x,Mut.obj (accObj 151 dx) dx emptyDict)∈[(x,Mut.obj (accObj 151 dx) dx emptyDict)]:=.head _
  refine ks_wpAt_execs_cons (wpAt_of_wpAny (plainObj_wpAny_Assign_Attribute ((Ev.name 1 rfl rfl).wp y fun v s₁ y₁ r₁ e₁=>?_)))
  (first | obtain rfl:=r₁.vI | obtain ⟨_,rfl⟩:=r₁.iI | obtain ⟨_,rfl⟩:=r₁.sI | obtain ⟨_,rfl⟩:=r₁.bI | obtain rfl:=r₁.nI | cases r₁)
  refine self_at (i:=0) y₁ rfl rfl rfl ?_
  obtain ⟨h1,h2,h3⟩:=y₁.muts _ hmem
  refine set_raw (K:=C.K) (C:=151) (od:=emptyDict) y₁.inv.K ⟨h1,rfl,rfl,h3⟩ rfl (by rw [hK];rfl) (by rw [hK];rfl) (by rw [hK];rfl) (by rfl) rfl rfl rfl (Nat.le_of_ble_eq_true rfl) fun h' hs hd=>?_
  have:=y₁.setmut (m':=.acc 151 dx []) (tk:=s₁.toks+2) (k:=0) rfl (b:=dx) (.tail _ (.head _)) rfl hs ⟨⟨[],0,(hs.2 x (Ne.symm h2)).trans h1,.nil⟩,h2,_,_,_,_,hd⟩ ⟨_,hd⟩
  have hmem2:(x,Mut.acc 151 dx [])∈[(x,Mut.acc 151 dx [])]:=.head _
  refine ks_wpAt_execs_cons (ks_wpAt_Expr_any (super_run (i:=0) (superInit H L) this.2 rfl rfl hmem2 (by decide +kernel) F.entry_list_init (fun s A Q E ox od X I h=>?_) fun s₂ e₂ y₂=>?_))
  · exact wpAny_of_eq (bound_slot sig_init (by decide +kernel) (chk_init x)) h
  · obtain ⟨⟨vs,n,ho',r⟩,_⟩:=y₂.muts _ hmem2
    (first | obtain rfl:=r.vI | obtain ⟨_,rfl⟩:=r.iI | obtain ⟨_,rfl⟩:=r.sI | obtain ⟨_,rfl⟩:=r.bI | obtain rfl:=r.nI | cases r)
    refine run_init ho' (by decide) fun h₃ ⟨n',hp⟩ hs₃=>?_
    obtain ⟨e₃,y₃⟩:=y₂.reacc (p:=[]) (q:=[]) (tk:=s₂.toks) (es:=[]) hs₃ hp .nil
    refine wpAt_of_wpAny (wpAny_execs_nil ⟨?_,.val _,?_⟩)
    · exact (((e₁.up0.trans this.1).trans e₂.up0).trans e₃).wider fun b hb=>.inl (.tail _ hb)
    · simpa using y₃.muts
end Mine
end
section
open PySem PySem.Calls PySem.W PyProof.Rows PySem.SeqAt
namespace Mine
noncomputable def swp (w m:Nat) (l:List Nat):List Nat:=(List.range (m*w)).map fun p=>l.getD (p / w*w+(w - 1 - p % w)) 0
structure Swd (w:Nat) (l:List Nat) (i j:Nat) (B:Array UInt8):Prop where
  sz:B.size=l.length
  all:∀ i' j',i' < i→j' < w→B[i'*w+(w - 1 - j')]?=(bl l)[i'*w+j']?
  now:∀ j',j' < j→B[i*w+(w - 1 - j')]?=(bl l)[i*w+j']?
theorem Swd.zero (w:Nat) (l:List Nat):Swd w l 0 0 (Array.replicate l.length 0):=⟨by simp,fun _ _ h=>absurd h (Nat.not_lt_zero _),fun _ h=>absurd h (Nat.not_lt_zero _)⟩
theorem word_lt {i m w j:Nat} (hi:i < m) (hj:j < w):i*w+j < m*w:=Nat.lt_of_lt_of_le (Nat.add_lt_add_left hj _) ((Nat.succ_mul i w) ▸ Nat.mul_le_mul_right w hi)
theorem back_lt {w:Nat} (h:0 < w) (j:Nat):w - 1 - j < w:=Nat.lt_of_le_of_lt (Nat.sub_le ..) (Nat.sub_lt h Nat.one_pos)
theorem Swd.step {w m i j x:Nat} {l:List Nat} {B:Array UInt8} (h:Swd w l i j B) (hl:l.length=m*w) (hi:i < m) (hj:j < w) (hx:l[i*w+j]?=some x):Swd w l i (j+1) (B.setIfInBounds (i*w+(w - 1 - j)) x.toUInt8):=by
  have hw:0 < w:=Nat.lt_of_le_of_lt (Nat.zero_le j) hj
  have hin:i*w+(w - 1 - j) < B.size:=by rw [h.sz,hl];exact word_lt hi (back_lt hw j)
  refine ⟨Array.size_setIfInBounds.trans h.sz,fun i' j' hi' hj'=>?_,fun j' hj'=>?_⟩
  · rw [Array.getElem?_setIfInBounds_ne (Nat.ne_of_gt (Nat.lt_of_lt_of_le (word_lt hi' (back_lt hw j')) (Nat.le_add_right ..)))]
    exact h.all i' j' hi' hj'
  · by_cases e:j'=j
    · subst e
      rw [Array.getElem?_setIfInBounds_self_of_lt hin,bl_get hx]
    · have hlt:=Nat.lt_of_le_of_ne (Nat.le_of_lt_succ hj') e
      rw [Array.getElem?_setIfInBounds_ne (Nat.ne_of_lt (Nat.add_lt_add_left (Nat.sub_lt_sub_left (Nat.lt_of_lt_of_le hlt (Nat.le_sub_one_of_lt hj)) hlt) _))]
      exact h.now j' hlt
theorem Swd.next {w i:Nat} {l:List Nat} {B:Array UInt8} (h:Swd w l i w B):Swd w l (i+1) 0 B:=by
  refine ⟨h.sz,fun i' j' hi' hj'=>?_,fun _ q=>absurd q (Nat.not_lt_zero _)⟩
  by_cases e:i'=i
  · subst e;exact h.now j' hj'
  · exact h.all i' j' (Nat.lt_of_le_of_ne (Nat.le_of_lt_succ hi') e) hj'
theorem Swd.done {w m:Nat} {l:List Nat} {B:Array UInt8} (h:Swd w l m 0 B) (hl:l.length=m*w) (hw:0 < w):B=bl (swp w m l):=by
  refine Array.ext_getElem? fun p=>?_
  by_cases hp:p < m*w
  · have hm:p / w < m:=Nat.div_lt_of_lt_mul (by rw [Nat.mul_comm];exact hp)
    have hr:p % w < w:=Nat.mod_lt _ hw
    have e:=h.all (p / w) (w - 1 - p % w) hm (back_lt hw _)
    rw [Nat.sub_sub_self (Nat.le_sub_one_of_lt hr),Nat.div_add_mod'] at e
    rw [e]
    have hin:p / w*w+(w - 1 - p % w) < l.length:=by rw [hl];exact word_lt hm (back_lt hw _)
    rw [bl_get (List.getElem?_eq_getElem hin)]
    refine (bl_get ?_).symm
    unfold swp
    rw [List.getElem?_map,List.getElem?_range hp]
    exact congrArg some ((List.getD_eq_getElem?_getD ..).trans (congrArg (Option.getD · 0) (List.getElem?_eq_getElem hin)))
  · have hp':=Nat.not_lt.mp hp
    rw [Array.getElem?_eq_none (by rw [h.sz,hl];exact hp')]
    refine (Array.getElem?_eq_none ?_).symm
    rw [bl_size]
    simpa [swp] using hp'
theorem swp_len (w m:Nat) (l:List Nat):(swp w m l).length=m*w:=by simp [swp]
theorem words_range {w m:Nat} (hw:0 < w):Builtin.Range.rangeSize 0 ((m*w:Nat):Int) w=(m:Int):=by
  unfold Builtin.Range.rangeSize
  rw [if_pos (by lia)]
  cases m with
  | zero=>simp
  | succ k =>
    have:0 < (k+1)*w:=Nat.mul_pos (Nat.succ_pos _) hw
    rw [if_pos (by lia)]
    have e:(((k+1)*w:Nat):Int) - 0 - 1=(w - 1:Int)+(k:Int)*w:=by
      rw [Nat.succ_mul];push_cast;lia
    rw [e,Int.add_mul_ediv_right _ _ (by lia),Int.ediv_eq_zero_of_lt (by lia) (by lia)]
    push_cast;lia
theorem fitsI {k:Nat} (h:k≤1099511627776):Builtin.Range.rangeFitsLong (k:Int)=true:=Bool.and_eq_true_iff.mpr ⟨decide_eq_true (Int.le_trans (by decide) (Int.natCast_nonneg k)),decide_eq_true (Int.lt_of_le_of_lt (Int.ofNat_le.mpr h) (by decide))⟩
theorem words_small {w m:Nat} (hw:0 < w) (hm0:0 < m) (hz:m*w≤16777216):Builtin.Range.small 0 ((m*w:Nat):Int) w=true:=by
  have big:(16777216:Nat)≤1099511627776:=by decide
  have hw':=Nat.le_trans (Nat.le_mul_of_pos_left w hm0) hz
  unfold Builtin.Range.small
  rw [words_range hw]
  refine Bool.and_eq_true_iff.mpr ⟨Bool.and_eq_true_iff.mpr ⟨Bool.and_eq_true_iff.mpr ⟨Bool.and_eq_true_iff.mpr ⟨fitsI (k:=0) (by decide),fitsI (Nat.le_trans hz big)⟩,fitsI (Nat.le_trans hw' big)⟩,fitsI (Nat.le_trans (Nat.le_mul_of_pos_right m hw) (Nat.le_trans hz big))⟩,Bool.or_eq_true_iff.mpr (.inr ((if_pos (Int.natCast_pos.mpr hw)).trans ?_))⟩
  rw [show ((m*w:Nat):Int)+((w:Int) - 1)=((m*w+(w - 1):Nat):Int) by lia]
  exact fitsI (Nat.le_trans (Nat.add_le_add hz (Nat.le_trans (Nat.sub_le ..) hw')) (by decide))
theorem upto_src (n:Nat) (hz:n≤16777216):Src (.rng 0 n 1) (rngD 0 1 n):=Src.rng n (small_one (by lia) (by lia) (by lia) (by lia)) (by
  rw [rangeSize_one]
  split <;> lia)
theorem from_src (a b:Nat) (hab:a≤b) (hz:b≤16777216):Src (.rng a b 1) (rngD a 1 (b - a)):=Src.rng (b - a) (small_one (by lia) (by lia) (by lia) (by lia)) (by
  rw [rangeSize_one]
  split <;> lia)
theorem words_src {w m:Nat} (hw:0 < w) (hm:0 < m) (hz:m*w≤16777216):Src (.rng 0 ((m*w:Nat):Int) w) (rngD 0 w m):=Src.rng m (words_small hw hm hz) (words_range hw)
end Mine
end
section
open PySem PySem.Calls PySem.W PyProof.Rows
namespace Mine
theorem fn_swap {C:Cx} (H:Is1 C) (l:List Nat) (w m:Nat) (hl:l.length=m*w) (hw:0 < w) (hm:0 < m) (hb:∀ c∈l,c < 256) (hz:l.length≤100000):FnS C 1 (.ref 176) [.b l,.int w] (.b (swp w m l)):=by
  obtain ⟨P,hK⟩:=H.K
  obtain ⟨oc,od,osl,ho⟩:=fSwap.2 P
  refine FnS.intro (fd:=fSwap.1) ["data","width"] ["swapped_data","i","j"] 3 (by rw [hK];exact ho) (by rw [hK];rfl) rfl rfl rfl rfl (fun vals hv=>?_) rfl (by decide) (fun n x hx=>?_) (by decide) (fun A X L R=>?_)
  · obtain ⟨v,w,rfl⟩:=len2 hv;rfl
  · simp only [List.mem_cons,List.not_mem_nil,or_false] at hx
    rcases hx with rfl | rfl <;> exact .inl rfl
  have sz:sizeLine=16777216:=rfl
  have hwm:w≤m*w:=Nat.le_mul_of_pos_left w hm
  have hmm:m≤m*w:=Nat.le_mul_of_pos_right m hw
  have g1:C.mg "bytearray"=none:=H.noGlob fun P=>by rfl
  have g2:C.mg "len"=none:=H.noGlob fun P=>by rfl
  have g3:C.mg "range"=none:=H.noGlob fun P=>by rfl
  have g4:C.mg "bytes"=none:=H.noGlob fun P=>by rfl
  have lenB:Bi (.builtin "len") [.b l] (.int ((l.length:Nat):Int)):=by
    have:=Bi.lenB (b:=bl l) (by rw [bl_size];lia)
    rwa [bl_size] at this
  refine ExS.newBa (n:=(l.length:Nat)) 2 R rfl (.l rfl (.head _)) (Ev.bltn g1 rfl rfl) (EvL.cons (Ev.callB R (Ev.bltn g2 rfl rfl) (EvL.cons (Ev.name 0 rfl rfl) EvL.nil) lenB) EvL.nil) (by lia) (by lia) (fun a haX haS=>?_) (fun b hb=>List.mem_append_left _ hb)
  refine Ex.toS ?_
  refine Ex.forN 3 (d:=.rng 0 ((m*w:Nat):Int) w) (ds:=rngD 0 w m) R rfl (.l rfl (.tail _ (.head _))) ?_ (Ev.callB R (Ev.bltn g3 rfl rfl) (EvL.cons Ev.int (EvL.cons (hl ▸ Ev.callB R (Ev.bltn g2 rfl rfl) (EvL.cons (Ev.name 0 rfl rfl) EvL.nil) lenB) (EvL.cons (Ev.name 1 rfl rfl) EvL.nil))) (Bi.range3 (by lia) (by lia))) (words_src hw hm (by lia))
    (fun i ρ μ=>∃ x y B,Swd w l i 0 B∧ρ=[some (.b l),some (.int w),some (.val (.ref a)),x,y]∧μ=[(a,.ba B)]) (fun _ _=>False) ?_ ?_ ?_ ?_ ?_ ?_
  · intro b hb
    rcases List.mem_cons.mp hb with rfl | hb
    · exact .head _
    · exact .tail _ (List.mem_append_left _ hb)
  · rintro i ρ μ ⟨x,y,B,_,_,rfl⟩;rfl
  · intro _ _ h;exact h.elim
  · exact ⟨none,none,_,Swd.zero w l,rfl,rfl⟩
  · rintro wr i d ρ μ hd ⟨x,y,B,hB,rfl,rfl⟩
    have hi:i < m:=by
      have:=(List.getElem?_eq_some_iff.mp hd).1
      simpa [rngD] using this
    obtain rfl:d=.int ((i*w:Nat):Int):=by
      have:(rngD 0 w m)[i]?=some (.int ((i*w:Nat):Int)):=by simp [rngD,hi]
      rw [this] at hd;cases hd;rfl
    refine Ex.forN 4 (d:=.rng 0 (w:Int) 1) (ds:=rngD 0 1 w) R rfl (.l rfl (.tail _ (.head _))) ?_ (Ev.callB R (Ev.bltn g3 rfl rfl) (EvL.cons (Ev.name 1 rfl rfl) EvL.nil) Bi.range1) (upto_src w (by lia))
      (fun j ρ μ=>∃ y B,Swd w l i j B∧ρ=[some (.b l),some (.int w),some (.val (.ref a)),some (.int ((i*w:Nat):Int)),y]∧μ=[(a,.ba B)]) (fun _ _=>False) ?_ ?_ ?_ ?_ ?_ ?_
    · intro b hb
      refine List.mem_append_right _ ?_
      rcases List.mem_cons.mp hb with rfl | hb
      · exact .head _
      · exact .tail _ (List.mem_append_left _ hb)
    · rintro i ρ μ ⟨y,B,_,_,rfl⟩;rfl
    · intro _ _ h;exact h.elim
    · exact ⟨y,B,hB,rfl,rfl⟩
    · rintro wr' j d ρ μ hd ⟨y,B,hB,rfl,rfl⟩
      have hj:j < w:=by
        have:=(List.getElem?_eq_some_iff.mp hd).1
        simpa [rngD] using this
      obtain rfl:d=.int (j:Int):=by
        have:(rngD 0 1 w)[j]?=some (.int (j:Int)):=by simp [rngD,hj]
        rw [this] at hd;cases hd;rfl
      have hlt:i*w+j < l.length:=by rw [hl];exact word_lt hi hj
      have hlt':i*w+(w - 1 - j) < l.length:=by rw [hl];exact word_lt hi (by lia)
      have hc:l[i*w+j] < 256:=hb _ (List.getElem_mem hlt)
      have e1:((((i*w:Nat):Int)+(w:Int)) - 1 - (j:Int)).toNat=i*w+(w - 1 - j):=by lia
      have e2:(((i*w:Nat):Int)+(j:Int)).toNat=i*w+j:=by lia
      refine Ex.setBa (p:=[]) (q:=[]) (c:=a) (x:=((l[i*w+j]:Nat):Int)) (k:=((i*w:Nat):Int)+(w:Int) - 1 - (j:Int)) (b:=B) (Ev.itemB R (Ev.name 0 rfl rfl) (Ev.bin R (Ev.name 3 rfl rfl) (Ev.name 4 rfl rfl) Bin.add) (by lia) (by rw [e2];exact List.getElem?_eq_getElem hlt) hc (by lia)) (Ev.name 2 rfl rfl)
        (Ev.bin R (Ev.bin R (Ev.bin R (Ev.name 3 rfl rfl) (Ev.name 1 rfl rfl) Bin.add) Ev.int Bin.minus) (Ev.name 4 rfl rfl) Bin.minus) (by lia) (by rw [hB.sz];lia) (by rw [hB.sz];lia) (by lia) (by lia) ?_ (Ex.nil fun s y=>⟨_,_,⟨_,_,?_,rfl,rfl⟩,y⟩)
      · intro z hz;have:z=a:=ba_dom hz
        subst this;exact .head _
      · rw [e1]
        exact hB.step hl hi hj (List.getElem?_eq_getElem hlt)
    · rintro ρ μ ⟨y,B,hB,rfl,rfl⟩
      exact Ex.nil fun s z=>⟨_,_,⟨_,_,_,(by simpa [rngD] using hB:Swd w l i w B).next,rfl,rfl⟩,z⟩
    · intro _ _ h;exact h.elim
  · rintro ρ μ ⟨x,y,B,hB,rfl,rfl⟩
    have hB':Swd w l m 0 B:=by simpa [rngD] using hB
    obtain rfl:=hB'.done hl hw
    refine Ex.ret (Ev.bytesBa (Ev.bltn g4 rfl rfl) (EvL.cons (Ev.name 2 rfl rfl) EvL.nil) (.head _) (by rw [bl_size,swp_len];lia)) fun v s y r=>⟨r.sub fun b hb=>.tail _ hb,fun _ h=>nomatch h⟩
  · intro _ _ h;exact h.elim
end Mine
end
section
open PySem PySem.Calls PySem.W PyProof.Rows PySem.SeqAt
namespace Mine
noncomputable abbrev D.n (k:Nat):D:=.int (k:Int)
noncomputable abbrev D.ns (l:List Nat):D:=.lst (l.map D.n)
noncomputable abbrev D.is (l:List Int):D:=.lst (l.map D.int)
theorem Kd.nat:Kd 0 D.n:=Kd.int.comap (fun k:Nat=>(k:Int)) (fun x y h=>by lia) fun _=>rfl
theorem Bin.addN {a b:Nat}:Bin .Add (D.n a) (D.n b) (D.n (a+b)):=by
  have:=Bin.add (a:=(a:Int)) (b:=(b:Int))
  rwa [show ((a:Int)+(b:Int))=((a+b:Nat):Int) by lia] at this
noncomputable def cellAt (cs:List Int) (k:Nat) (x:Int):List Int:=cs.set (k % 3) (cs.getD (k % 3) 0+x % 1000000)
noncomputable def cellsOf (cs:List Int) (sc:List Int):Nat→List Int
  | 0=>cs
  | k+1=>cellAt (cellsOf cs sc k) k (sc.getD k 0)
theorem cellAt_len (cs:List Int) (k:Nat) (x:Int):(cellAt cs k x).length=cs.length:=by simp [cellAt]
theorem cellsOf_len (cs sc:List Int):∀ k,(cellsOf cs sc k).length=cs.length
  | 0=>rfl
  | k+1=>by rw [cellsOf,cellAt_len,cellsOf_len cs sc k]
theorem three {l:List Int} (h:l.length=3):l=[l.getD 0 0,l.getD 1 0,l.getD 2 0]:=by
  cases l with
  | nil=>cases h
  | cons a l=>cases l with
    | nil=>cases h
    | cons b l=>cases l with
      | nil=>cases h
      | cons c l=>rw [List.eq_nil_of_length_eq_zero (Nat.succ.inj (Nat.succ.inj (Nat.succ.inj h)))];rfl
theorem Ev.as {g:G} {ρ:List (Option D)} {μ:List (Addr × Mut)} {e:Expr} {d d':D} (h:Ev g ρ μ e d) (q:d=d'):Ev g ρ μ e d':=q ▸ h
theorem Ex.cast {g:G} {S:List Addr} {ρ ρ':List (Option D)} {μ μ':List (Addr × Mut)} {ss:List Stmt} {Φ:Flow→Shared→Prop} (h:Ex g S ρ μ ss Φ) (q:ρ=ρ') (q':μ=μ'):Ex g S ρ' μ' ss Φ:=q ▸ q' ▸ h
theorem rngD_n (n:Nat):rngD 0 1 n=(List.range n).map D.n:=by simp [rngD]
theorem rngD_from (a n:Nat):rngD a 1 n=(List.range n).map fun k=>D.n (a+k):=by simp [rngD]
theorem upto (n:Nat) (hz:n≤16777216):Src (.rng 0 n 1) ((List.range n).map D.n):=rngD_n n ▸ upto_src n hz
theorem upfrom (a b:Nat) (hab:a≤b) (hz:b≤16777216):Src (.rng a b 1) ((List.range (b - a)).map fun k=>D.n (a+k)):=rngD_from a (b - a) ▸ from_src a b hab hz
theorem pow3_lt {n:Nat} (h:n≤20):(0:Int) < 3 ^ n∧(3:Int) ^ n < 2 ^ 64:=by
  have e:((3 ^ n:Nat):Int)=(3:Int) ^ n:=by simp
  have h1:0 < 3 ^ n:=Nat.pow_pos (by decide)
  have h2:3 ^ n≤3 ^ 20:=Nat.pow_le_pow_right (by decide) h
  have h3:(3:Nat) ^ 20=3486784401:=by decide
  rw [← e]
  lia
theorem filter_yes {α:Type} (l:List α):l.filter (fun _=>true)=l:=by simp
theorem Ex.narrow {g:G} {S S':List Addr} {ρ:List (Option D)} {μ:List (Addr × Mut)} {ss:List Stmt} {Φ:Flow→Shared→Prop} (h:Ex g S' ρ μ ss Φ) (k:∀ b∈S',b∈S):Ex g S ρ μ ss Φ:=fun s y=>(h s y).wider fun b hb=>.inl (k b hb)
theorem Ex.freezeS {g : G} {S : List Addr} {ρ : List (Option D)} {p q : List (Addr × Mut)} {c : Addr} {ds : List D} {ss : List Stmt} {Φ : Flow → Shared → Prop} (i : Nat) (h2 : ρ[i]? = some (some (.val (.ref c)))) (hc : c ∉ S) (hX : ∀ b ∈ S, b ∈ g.X)
    (k:∀ X',(∀ b∈S,b∈X')→(∀ b∈g.X,b≠c→b∈X')→Ex { g with X:=X' } S (ρ.set i (some (.lst ds))) (p++q) ss Φ):Ex g (c::S) ρ (p++((c,.lst ds)::q)) ss Φ :=
  Ex.freeze i h2 (Ex.narrow (k _ (fun b hb=>List.mem_filter.mpr ⟨hX b hb,decide_eq_true fun e=>hc (e ▸ hb)⟩) fun b hb hne=>List.mem_filter.mpr ⟨hb,decide_eq_true hne⟩) fun b hb=>.tail _ hb)
theorem emod_n (a b:Nat):((a:Int) % (b:Int)).toNat=a % b:=rfl
theorem Ex.iteJ {g : G} {S : List Addr} {ρ : List (Option D)} {μ : List (Addr × Mut)} {rest : List Stmt} {Φ : Flow → Shared → Prop} {t : Expr} {b o : List Stmt} {pos : Pos} {c : Bool} (ρ' : List (Option D)) (μ' : List (Addr × Mut)) (ht : EvT g ρ μ t c)
    (h1:c=true→Ex g S ρ μ b (fun fl s=>fl=.next∧St g ρ' μ' s)) (h2:c=false→Ex g S ρ μ o (fun fl s=>fl=.next∧St g ρ' μ' s)) (k:Ex g S ρ' μ' rest Φ):Ex g S ρ μ (.If t b o pos::rest) Φ :=
  Ex.ite ht (fun h=>Ex.mono (h1 h) fun fl s q=>by obtain ⟨rfl,y⟩:=q;exact k s y) fun h=>Ex.mono (h2 h) fun fl s q=>by obtain ⟨rfl,y⟩:=q;exact k s y
end Mine
end
section
open PySem PySem.Calls PySem.W PyProof.Rows PySem.SeqAt
namespace Mine
noncomputable def ordN (op:CmpOp) (xs ys:List Nat):Bool:=ordI op (xs.map fun k:Nat=>(k:Int)) (ys.map fun k:Nat=>(k:Int))
theorem Cmp.ordN {op:CmpOp} {code:Int} (O:OrdOp op code) (xs ys:List Nat):Cmp op (D.ns xs) (D.ns ys) (D.bool (Mine.ordN op xs ys)):=by
  have:=Cmp.ordL O (xs.map fun k:Nat=>(k:Int)) (ys.map fun k:Nat=>(k:Int))
  rw [List.map_map,List.map_map] at this
  exact this
theorem Ev.sliceN {g : G} {ρ : List (Option D)} {μ : List (Addr × Mut)} {v : Expr} {lo hi : Option Expr} {p pos : Pos} {l : List Nat} {i j : Option Int} (R : Room g.A 0) (hv : Ev g ρ μ v (D.ns l)) (hl : EvP g ρ μ lo i) (hh : EvP g ρ μ hi j) (hz : l.length ≤ sizeLine) :
    Ev g ρ μ (.Subscript v (.Slice lo hi Option.none p) pos) (D.ns (cut l i j)):=(Ev.sliceL R hv hl hh (by rw [List.length_map];exact hz)).as (by rw [cut_map])
theorem Ev.itemN {g : G} {ρ : List (Option D)} {μ : List (Addr × Mut)} {v i : Expr} {pos : Pos} {l : List Nat} {k c : Nat} (R : Room g.A 0) (hv : Ev g ρ μ v (D.ns l)) (hi : Ev g ρ μ i (D.n k)) (hd : l[k]? = some c) (hz : l.length ≤ sizeLine)
    (hs:∀ a t,subscripted i false (.ref a) (.int k t)=operate [.ref a,.int k t] (getItem (.ref a) (.int k t)):=by intro _ _;rfl):Ev g ρ μ (.Subscript v i pos) (D.n c):=Ev.itemL R hv hi (by lia) (by rw [List.getElem?_map,Int.toNat_natCast,hd];rfl) (by rw [List.length_map];exact hz) hs
theorem Bi.lenN {l:List Nat} (h:l.length≤sizeLine):Bi (.builtin "len") [D.ns l] (D.n l.length):=by
  have:=Bi.lenL (ds:=l.map D.n) (by rw [List.length_map];exact h)
  rwa [List.length_map] at this
theorem clipN_nat (n k:Nat):clipN n (k:Int)=min k n:=by
  unfold clipN
  rw [if_neg (Int.not_lt.mpr (Int.natCast_nonneg k)),show min (k:Int) n=((min k n:Nat):Int) by lia,Int.max_eq_right (Int.natCast_nonneg _)];rfl
theorem cut_nn {α:Type} (l:List α) (a b:Nat):cut l (some (a:Int)) (some (b:Int))=(l.drop (min a l.length)).take (min b l.length - min a l.length):=by
  unfold cut
  rw [Option.elim_some,Option.elim_some,clipN_nat,clipN_nat]
theorem cut_len {α:Type} {l:List α} {a b:Nat} (ha:a≤b) (hb:b≤l.length):(cut l (some (a:Int)) (some (b:Int))).length=b - a:=by
  rw [cut_nn,List.length_take,List.length_drop,Nat.min_eq_left hb,Nat.min_eq_left (Nat.le_trans ha hb),Nat.min_eq_left (Nat.sub_le_sub_right hb a)]
theorem foldl_step {β:Type} (f:β→Nat→β) (b:β) (n:Nat):(List.range (n+1)).foldl f b=f ((List.range n).foldl f b) n:=by rw [List.range_succ,List.foldl_append];rfl
theorem range_at {α:Type} {n k:Nat} {f:Nat→α} {d:α} (h:((List.range n).map f)[k]?=some d):k < n∧d=f k:=by
  have hk:k < n:=by
    have:=(List.getElem?_eq_some_iff.mp h).1
    simpa using this
  refine ⟨hk,?_⟩
  rw [List.getElem?_map,List.getElem?_range hk] at h
  cases h;rfl
end Mine
end
section
open PySem PySem.Calls PySem.W PyProof.Rows PySem.SeqAt
namespace Mine
section
variable {g:G} {ρ:List (Option D)} {μ:List (Addr × Mut)}
theorem Ev.own {o e : Expr} {es : List Expr} {name : Str} {apos pos : Pos} {k : Nat} {f x c : Addr} {m : Mut} {key : Str} {ds : List D} {d : D} {pl : Sem Bool} (R : Room g.A k) (ho : Ev g ρ μ o (.val (.ref x))) (hx : (x, m) ∈ μ) (hm : m.cls? = Option.some (c, key))
    (O:ClsOk g.C.K c) (F:MethOk g.C.K c name f) (hn:(key == name)=false) (ha:EvL g ρ μ pos (e::es) ds) (hc:FnM g.C k (.ref f) (.val (.ref x)::ds) [] d [])
    (hbase:attributeBase o name g.env (eval o g.env)=eval o g.env:=by rfl)
    (heq:eval (.Call (.Attribute o name apos) (e::es) [] pos) g.env=(do
      let ov ← attributeBase o name g.env (eval o g.env)
      standAt apos.atName
      let (f,first) ← holding [ov] (getMethod ov name pl)
      callWith pos f first (backTo pos (starEach (e::es) g.env)) []):=by rfl)
    (he:starEach (e::es) g.env=(false,eval e g.env)::starEach es g.env:=by rfl) (hplain:(backTo pos (starEach es g.env)).any (·.1)=false:=by rfl) :
    Ev g ρ μ (.Call (.Attribute o name apos) (e::es) [] pos) d:=by
  refine fun s y=>?_
  refine eval_MethodCall hbase (ho.wp y fun v s₁ x₁ r₁ e₁=>?_) heq
  (first | obtain rfl:=r₁.vI | obtain ⟨_,rfl⟩:=r₁.iI | obtain ⟨_,rfl⟩:=r₁.sI | obtain ⟨_,rfl⟩:=r₁.bI | obtain rfl:=r₁.nI | cases r₁)
  obtain ⟨ox,od,I,hsh⟩:=(x₁.muts _ hx).instAt hm
  obtain ⟨gid,hg1,hg2⟩:=O.ga
  refine method_md x₁.inv.K I hg1 hg2 O.gt F.fnd F.ty (by decide) (hsh _ hn) ?_
  refine callWith_K (h₀:=s₁.heap) x₁.inv.K F.keep ((ha s₁ x₁).use fun vs s₂ e₂ r₂=>⟨(x₁.ext e₂).inv.K,?_⟩) he hplain
  have x₂:=x₁.ext e₂
  refine wpAny_call (codeAny_mono (hc _ _ _ _ R x₂.inv (.cons (.val _) r₂) (fun p hp=>nomatch hp) (fun c hc=>nomatch hc) List.nodup_nil) fun r s₃ q=>?_)
  obtain ⟨v,rfl,e₃,r₃,m₃⟩:=q
  exact ⟨(e₁.trans e₂).trans e₃,r₃⟩
end
theorem suburi_size {a b:Nat} (h:a≤b):a≤b:=h
end Mine
end
section
open PySem PySem.Calls PySem.W PyProof.Rows PySem.SeqAt
namespace Mine
theorem Bin.subN {a b:Nat} (h:b≤a):Bin .Sub (D.n a) (D.n b) (D.n (a - b)):=by
  have:=Bin.minus (a:=(a:Int)) (b:=(b:Int))
  rwa [show ((a:Int) - (b:Int))=((a - b:Nat):Int) by lia] at this
theorem Bin.mulN {a b:Nat} (h:a < 1000000):Bin .Mult (D.n a) (D.n b) (D.n (a*b)):=by
  have:=Bin.mul (a:=(a:Int)) (b:=(b:Int)) (IntMulOk.of_left (intBits_le_64 (by lia) (by lia)))
  rwa [show ((a:Int)*(b:Int))=((a*b:Nat):Int) by push_cast;rfl] at this
theorem Bin.divN {a b:Nat} (h:0 < b) (h':b < 1000000):Bin .FloorDiv (D.n a) (D.n b) (D.n (a / b)):=by
  have:=Bin.div (a:=(a:Int)) (b:=(b:Int)) (by lia) (by lia)
  exact this
theorem Cmp.ltN {a b:Nat}:Cmp .Lt (D.n a) (D.n b) (D.bool (decide (a < b))):=by
  have:=Cmp.lt (a:=(a:Int)) (b:=(b:Int))
  rwa [show decide ((a:Int) < (b:Int))=decide (a < b) by simp] at this
theorem Cmp.gtN {a b:Nat}:Cmp .Gt (D.n a) (D.n b) (D.bool (decide (b < a))):=by
  have:=Cmp.gt (a:=(a:Int)) (b:=(b:Int))
  rwa [show decide ((a:Int) > (b:Int))=decide (b < a) by simp] at this
theorem Cmp.eqN {a b:Nat}:Cmp .Eq (D.n a) (D.n b) (D.bool (decide (a=b))):=by
  have:=Cmp.eq (a:=(a:Int)) (b:=(b:Int))
  rwa [show ((a:Int) == (b:Int))=decide (a=b) by rw [Bool.eq_iff_iff];simp;lia] at this
noncomputable abbrev D.n3 (x:Nat × Nat × Nat):D:=.tup [D.n x.1,D.n x.2.1,D.n x.2.2]
theorem Kd.n3:Kd 1 D.n3:=Kd.t3.comap (fun x:Nat × Nat × Nat=>((x.1:Int),(x.2.1:Int),(x.2.2:Int))) (fun x y h=>by
  obtain ⟨a,b,c⟩:=x;obtain ⟨a',b',c'⟩:=y
  simp at h ⊢;lia) fun _=>rfl
theorem fold_len {α:Type} {f:List α→Nat→List α} {c:Nat→Nat} (h:∀ acc i,(f acc i).length≤acc.length+c i):∀ (l:List Nat) (acc:List α),(l.foldl f acc).length≤acc.length+(l.map c).sum
  | [],acc=>by simp
  | i::l,acc=>by
    have h1:=fold_len h l (f acc i)
    have h2:=h acc i
    simp only [List.foldl_cons,List.map_cons,List.sum_cons]
    lia
namespace T2
noncomputable def ahead (s:List Nat) (step begin:Nat):Bool:=decide (0 < begin) && decide (s.getD (begin - 1) 0=s.getD (begin - 1+step) 0)
noncomputable def behind (s:List Nat) (step e:Nat):Bool:=decide (e < s.length) && decide (s.getD e 0=s.getD (e - step) 0)
noncomputable def isRun (s:List Nat) (step begin e:Nat):Bool:=decide (cut s (some (begin:Int)) (some ((e - step:Nat):Int))=cut s (some ((begin+step:Nat):Int)) (some (e:Int))) && (!(ahead s step begin) && (!(behind s step e) && true))
noncomputable def told (acc:List (Nat × Nat × Nat)) (begin e:Nat):List (Nat × Nat × Nat):=acc.filter fun x=>decide (x.1=begin) && (decide (x.2.1=e) && true)
noncomputable def runStep (s:List Nat) (step begin:Nat) (acc:List (Nat × Nat × Nat)) (i:Nat):List (Nat × Nat × Nat) :=
  if isRun s step begin (begin+2*step+i)=true then if told acc begin (begin+2*step+i)=[] then acc++[(begin,begin+2*step+i,step)] else acc else acc
noncomputable def runsE (s:List Nat) (step:Nat) (acc:List (Nat × Nat × Nat)) (begin:Nat):List (Nat × Nat × Nat):=(List.range (s.length+1 - (begin+2*step))).foldl (runStep s step begin) acc
noncomputable def runsB (s:List Nat) (acc:List (Nat × Nat × Nat)) (i:Nat):List (Nat × Nat × Nat):=(List.range (s.length - 2*(1+i)+1)).foldl (runsE s (1+i)) acc
noncomputable def runs0 (s:List Nat):List (Nat × Nat × Nat):=(List.range (s.length / 2)).foldl (runsB s) []
noncomputable def sort3 (l:List (Nat × Nat × Nat)):List (Nat × Nat × Nat):=pysort (0,0,0) (fun x y=>ltT (x.1,x.2.1,x.2.2) (y.1,y.2.1,y.2.2)) l
noncomputable def runs (s:List Nat):List (Nat × Nat × Nat):=sort3 (runs0 s)
theorem runs0_len (s:List Nat) (h:s.length=7∨s.length=8):(runs0 s).length < 64:=by
  have h1:∀ step begin acc i,(runStep s step begin acc i).length≤acc.length+1:=fun step begin acc i=>by
    unfold runStep
    split
    · split
      · simp
      · lia
    · lia
  have h2:∀ step acc begin,(runsE s step acc begin).length≤acc.length+(s.length+1 - (begin+2*step)):=fun step acc begin=>by
    have:=fold_len (f:=runStep s step begin) (c:=fun _=>1) (h1 step begin) (List.range (s.length+1 - (begin+2*step))) acc
    have ones:∀ n,((List.range n).map fun _=>1).sum=n:=fun n=>by
      rw [List.map_const',List.sum_replicate_nat];simp
    rwa [ones] at this
  have h3:∀ acc i,(runsB s acc i).length≤acc.length+((List.range (s.length - 2*(1+i)+1)).map fun b=>s.length+1 - (b+2*(1+i))).sum:=fun acc i=>fold_len (f:=runsE s (1+i)) (c:=fun b=>s.length+1 - (b+2*(1+i))) (h2 (1+i)) _ acc
  have h4:=fold_len (f:=runsB s) h3 (List.range (s.length / 2)) []
  refine Nat.lt_of_le_of_lt h4 ?_
  rcases h with h | h <;> rw [h] <;> decide
end T2
theorem pysort_map {α β:Type} (f:α→β) (d:α) (lt:β→β→Bool) (l:List α):pysort (f d) lt (l.map f)=(pysort d (fun x y=>lt (f x) (f y)) l).map f:=by
  have e:∀ i,(l.map f).getD i (f d)=f (l.getD i d):=fun i=>by
    rw [List.getD_eq_getElem?_getD,List.getD_eq_getElem?_getD,List.getElem?_map]
    cases l[i]? <;> rfl
  have e2:ltAt (f d) lt (l.map f)=ltAt d (fun x y=>lt (f x) (f y)) l:=by
    funext i j
    simp only [ltAt,e]
  unfold pysort
  rw [e2,List.length_map,List.map_map]
  exact List.map_congr_left fun i _=>e i
end Mine
end
section
open PySem PySem.Calls PySem.W PyProof.Rows
namespace Mine
structure EvB (g:G) (ρ:List (Option D)) (μ:List (Addr × Mut)) (e:Expr) (d:D):Prop where
  h:Ev g ρ μ e d
section
variable {g:G} {ρ:List (Option D)} {μ:List (Addr × Mut)} {S:List Addr} {Φ:Flow→Shared→Prop} {rest:List Stmt}
theorem EvB.as {e:Expr} {d d':D} (h:EvB g ρ μ e d) (q:d=d'):EvB g ρ μ e d':=q ▸ h
theorem EvB.join {k : Nat} {cp apos pos : Pos} {e : Expr} {ls : List (List Nat)} (R : Room g.A 0) (he : Ev g ρ μ e (.lst (ls.map D.s))) (h : ls.flatten.length + ls.length ≤ 1048576)
    (hbase:attributeBase (.Constant (.str (Str.ofString "")) k cp) "join" g.env (eval (.Constant (.str (Str.ofString "")) k cp) g.env)=eval (.Constant (.str (Str.ofString "")) k cp) g.env:=by rfl)
    (hfew:((backTo pos (starEach [e] g.env)).all (fun x=>!x.1) && (backToKw pos (keywordEach [] g.env)).all (fun x=>x.1.isSome) && decide ([e].length+([]:List Keyword).length+(if ([]:List Keyword).isEmpty then 0 else 1) < 30))=true:=by rfl)
    (hline:(apos.endLine == pos.line)=true:=by rfl)
    (hst:starEach [e] g.env=(false,eval e g.env)::starEach [] g.env:=by rfl) :
    EvB g ρ μ (.Call (.Attribute (.Constant (.str (Str.ofString "")) k cp) "join" apos) [e] [] pos) (.s ls.flatten) :=
  ⟨@Ev.meth g ρ μ _ _ _ _ _ _ _ _ (.s []) [.lst (ls.map D.s)] _ R F.plainAttrs_str F.slot_str_join F.type_str_join (Ev.str (x:="")) isStr (EvL.cons he EvL.nil hst) (Bi.join h) hbase hfew hline hst rfl⟩
theorem Ex.assignB (i : Nat) {x : Str} {p pos : Pos} {e : Expr} {d : D} (h1 : g.ns[i]? = some x) (hk : Stored g S x) (he : EvB g ρ μ e d) (k : Ex g S (ρ.set i (some d)) μ rest Φ)
    (hs:swapsWith e (some (.Name x p)) pos.line g.env=pure false:=by rfl):Ex g S ρ μ (.Assign [.Name x p] e pos::rest) Φ:=Ex.assign i h1 hk he.h k hs
end
end Mine
end
section
open PySem PySem.Calls PySem.W PyProof.Rows
namespace Mine
noncomputable def fCells:FnAt 183:=⟨_,fun P=>⟨_,_,_,rfl⟩⟩
theorem fn_cells {C:Cx} (H:Is1 C) (sc:List Int) (hz:sc.length≤1048576):∃ c0 c1 c2:Int,FnM C 1 (.ref 183) [D.is sc] [] (D.is [c0,c1,c2]) []:=by
  have hc3:(cellsOf [53,414,11447018] sc sc.length).length=3:=cellsOf_len _ _ _
  refine ⟨(cellsOf [53,414,11447018] sc sc.length).getD 0 0,(cellsOf [53,414,11447018] sc sc.length).getD 1 0,(cellsOf [53,414,11447018] sc sc.length).getD 2 0,?_⟩
  have hcs:=three hc3
  rw [← hcs]
  obtain ⟨P,hK⟩:=H.K
  obtain ⟨oc,od,osl,ho⟩:=fCells.2 P
  have sz:sizeLine=16777216:=rfl
  have g1:C.mg "range"=none:=H.noGlob fun P=>by rfl
  have g2:C.mg "len"=none:=H.noGlob fun P=>by rfl
  refine FnM.intro (fd:=fCells.1) ["script"] ["cells","k"] 2 (by rw [hK];exact ho) (by rw [hK];rfl) rfl rfl rfl rfl (fun vals hv=>?_) rfl (by decide) (fun n x hx=>?_) (by decide) (fun A X L R hm=>?_)
  · obtain ⟨v,rfl⟩:=len1 hv;rfl
  · simp only [List.mem_cons,List.not_mem_nil,or_false] at hx
    subst hx;exact .inl rfl
  refine Ex.assignN 1 (ds:=[53,414,11447018].map D.int) rfl (.l rfl (.head _)) (EvN.lst (EvL.cons Ev.int (EvL.cons Ev.int (EvL.cons Ev.int EvL.nil)))) (fun a haX haS=>?_) (fun b hb=>List.mem_append_left _ (by simpa [doms] using hb))
  refine Ex.forN 2 (d:=.rng 0 ((sc.length:Nat):Int) 1) (ds:=rngD 0 1 sc.length) R rfl (.l rfl (.tail _ (.head _))) ?_ (Ev.callB R (Ev.bltn g1 rfl rfl) (EvL.cons (Ev.callB (ds:=[D.is sc]) R (Ev.bltn g2 rfl rfl) (EvL.cons (Ev.name 0 rfl rfl) EvL.nil) (by have:=Bi.lenL (ds:=sc.map D.int) (by rw [List.length_map];lia);rwa [List.length_map] at this)) EvL.nil) Bi.range1) (upto_src _ (by lia))
    (fun k ρ μ=>∃ y,ρ=[some (D.is sc),some (.val (.ref a)),y]∧μ=[(a,.lst ((cellsOf [53,414,11447018] sc k).map D.int))]) (fun _ _=>False) ?_ ?_ ?_ ?_ ?_ ?_
  · intro b hb
    rcases List.mem_cons.mp hb with rfl | hb
    · exact .head _
    · exact .tail _ (List.mem_append_left _ (by simpa [doms] using hb))
  · rintro i ρ μ ⟨y,_,rfl⟩;rfl
  · intro _ _ h;exact h.elim
  · exact ⟨none,rfl,rfl⟩
  · rintro wr k d ρ μ hd ⟨y,rfl,rfl⟩
    have hk:k < sc.length:=by
      have:=(List.getElem?_eq_some_iff.mp hd).1
      simpa [rngD] using this
    obtain rfl:d=D.n k:=by
      have:(rngD 0 1 sc.length)[k]?=some (D.n k):=by simp [rngD,hk]
      rw [this] at hd;cases hd;rfl
    have hl3:(cellsOf [53,414,11447018] sc k).length=3:=cellsOf_len _ _ _
    have h3:k % 3 < (cellsOf [53,414,11447018] sc k).length:=by rw [hl3];lia
    have e3:((k:Int) % 3).toNat=k % 3:=by lia
    have p6:Bin .Pow (.int 10) (.int 6) (.int 1000000):=Bin.pow (by decide) (by decide) (by decide) (by decide)
    refine Ex.augItem (p:=[]) (q:=[]) (c:=a) (k:=(k:Int) % 3) (a:=.int ((cellsOf [53,414,11447018] sc k).getD (k % 3) 0)) (b:=.int (sc.getD k 0 % 1000000)) (d:=.int ((cellsOf [53,414,11447018] sc k).getD (k % 3) 0+sc.getD k 0 % 1000000)) R (Ev.name 1 rfl rfl) (Ev.bin R (Ev.name 2 rfl rfl) Ev.int (Bin.mod (by decide))) (by lia) ?_ ?_ (Ev.bin R (Ev.itemL (ds:=sc.map D.int) R (Ev.name 0 rfl rfl) (Ev.name 2 rfl rfl) (by lia) ?_ (by rw [List.length_map];lia)) (Ev.bin R Ev.int Ev.int p6) (Bin.mod (by decide))) Inp.add ?_ (Ex.nil fun s y=>⟨_,_,⟨_,rfl,?_⟩,y⟩)
    · rw [e3,List.getElem?_map,List.getElem?_eq_getElem h3,List.getD_eq_getElem?_getD,List.getElem?_eq_getElem h3];rfl
    · rw [List.length_map];lia
    · rw [List.getElem?_map,Int.toNat_natCast,List.getElem?_eq_getElem hk,List.getD_eq_getElem?_getD,List.getElem?_eq_getElem hk];rfl
    · intro z hz;have:z=a:=by simpa [doms,Mut.more] using hz
      subst this;exact .head _
    · rw [e3,cellsOf,cellAt];simp [List.map_set]
  · rintro ρ μ ⟨y,rfl,rfl⟩
    rw [show (rngD 0 1 sc.length).length=sc.length from by simp [rngD]]
    have hown:∀ b∈ownS (callEnvC fCells.1 L 183)++doms [],b∈a::(ownS (callEnvC fCells.1 L 183)++X):=fun b hb=>.tail _ (List.mem_append_left _ (by simpa [doms] using hb))
    refine Ex.freezeS (p:=[]) (q:=[]) 1 rfl haS hown fun X₁ hS₁ hX₁=>?_
    have hX₁:∀ b∈ownS (callEnvC fCells.1 L 183)++X,b∈X₁:=fun b hb=>hX₁ b (.tail _ hb) fun e=>haX (e ▸ hb)
    exact Ex.ret (Ev.name 1 rfl rfl) fun v s y r=>⟨r.sub hX₁,fun _ h=>nomatch h⟩
  · intro _ _ h;exact h.elim
end Mine
end
section
open PySem PySem.Calls PySem.W PyProof.Rows
namespace Mine
noncomputable def fFolders:FnAt 190:=⟨_,fun P=>⟨_,_,_,rfl⟩⟩
noncomputable abbrev D.fd (f:List (List Nat)):D:=.lst (f.map D.s)
theorem rep_one (n w:Nat):(List.replicate n [w]).flatten=List.replicate n w:=by
  induction n with
  | zero=>rfl
  | succ n ih=>rw [List.replicate_succ,List.replicate_succ,List.flatten_cons,ih];rfl
namespace T1
noncomputable def sgn (c1:Int) (k:Nat):Nat:=[45,46,48,66,98,126].getD (c1 / 6 ^ (k - 1) % 6).toNat 0
noncomputable def nm (c1:Int) (k:Nat):List Nat:=97::List.replicate k (sgn c1 k)
noncomputable def restAt (c0:Int):Nat→Int
  | 0=>c0
  | k+1=>if 1 < k then restAt c0 k / ((k:Int)+1) else restAt c0 k
noncomputable def hm (c0:Int) (k:Nat):Nat:=if k=0 then 0 else if k=1 then 1 else (restAt c0 k % ((k:Int)+1)).toNat
noncomputable def fol (nm:Nat→List Nat) (h:Nat→Nat):Nat→List (List (List Nat))
  | 0=>[]
  | n+1=>fol nm h n++[if h n=0 then [nm n] else (fol nm h n).getD (h n - 1) []++[nm n]]
theorem fol_len (nm:Nat→List Nat) (h:Nat→Nat):∀ n,(fol nm h n).length=n
  | 0=>rfl
  | n+1=>by show (fol nm h n++[_]).length=_;rw [List.length_append,fol_len nm h n];rfl
theorem hm_le (c0:Int) (k:Nat):hm c0 k≤k:=by
  unfold hm
  split
  · lia
  · split
    · lia
    · have h1:=Int.emod_lt_of_pos (restAt c0 k) (b:=(k:Int)+1) (by lia)
      have h2:=Int.emod_nonneg (restAt c0 k) (b:=(k:Int)+1) (by lia)
      lia
theorem fol_few (nm:Nat→List Nat) (h:Nat→Nat):∀ n,∀ f∈fol nm h n,f.length≤n
  | 0,f,hf=>nomatch hf
  | n+1,f,hf=>by
    rcases List.mem_append.mp hf with q | q
    · have:=fol_few nm h n f q;lia
    · rw [List.mem_singleton.mp q]
      split
      · simp
      · have:((fol nm h n).getD (h n - 1) []).length≤n:=by
          rw [List.getD_eq_getElem?_getD]
          cases e:(fol nm h n)[h n - 1]? with
          | none=>simp
          | some g=>exact fol_few nm h n g (List.mem_of_getElem? e)
        rw [List.length_append,List.length_singleton];lia
end T1
theorem fn_folders {C:Cx} (H:Is1 C) (c0 c1 c2:Int):FnM C 1 (.ref 190) [D.is [c0,c1,c2]] [] (.lst ((T1.fol (T1.nm c1) (T1.hm c0) 5).map D.fd)) []:=by
  obtain ⟨P,hK⟩:=H.K
  obtain ⟨oc,od,osl,ho⟩:=fFolders.2 P
  have sz:sizeLine=16777216:=rfl
  have g1:C.mg "range"=none:=H.noGlob fun P=>by rfl
  refine FnM.intro (fd:=fFolders.1) ["cells"] ["folders","rest","k","name","home"] 5 (by rw [hK];exact ho) (by rw [hK];rfl) rfl rfl rfl rfl (fun vals hv=>?_) rfl (by decide) (fun n x hx=>?_) (by decide) (fun A X L R hm=>?_)
  · obtain ⟨v,rfl⟩:=len1 hv;rfl
  · simp only [List.mem_cons,List.not_mem_nil,or_false] at hx
    subst hx;exact .inl rfl
  have c3:([c0,c1,c2].map D.int).length≤sizeLine:=by show 3≤_;decide
  refine Ex.assignN 1 (ds:=(T1.fol (T1.nm c1) (T1.hm c0) 1).map D.fd) rfl (.l rfl (.head _)) (EvN.lst (EvL.cons (Ev.lst (ds:=[D.s [97]]) (EvL.cons (Ev.str (x:="a")) EvL.nil) (by show 1≤_;decide)) EvL.nil) (by show 1≤_;decide)) (fun a haX haS=>?_) (fun b hb=>List.mem_append_left _ (by simpa [doms] using hb))
  have hown:∀ b∈a::(ownS (callEnvC fFolders.1 L 190)++doms []),b∈a::(ownS (callEnvC fFolders.1 L 190)++X):=fun b hb=>by
    rcases List.mem_cons.mp hb with rfl | hb
    · exact .head _
    · exact .tail _ (List.mem_append_left _ (by simpa [doms] using hb))
  have hda:∀ (es:List D),∀ b∈doms [(a,Mut.lst es)],b∈a::(ownS (callEnvC fFolders.1 L 190)++doms []):=fun es b hb=>by
    have:b=a:=by simpa [doms,Mut.more] using hb
    subst this;exact .head _
  refine Ex.assign 2 (d:=.int c0) rfl (.l rfl (.tail _ (.head _))) (Ev.itemL (d:=.int c0) R (Ev.name 0 rfl rfl) Ev.int (by decide) rfl c3) ?_
  refine Ex.forN 3 (d:=.rng ((1:Nat):Int) ((5:Nat):Int) 1) (ds:=(List.range (5 - 1)).map fun k=>D.n (1+k)) R rfl (.l rfl (.tail _ (.head _))) hown (Ev.callB (ds:=[D.n 1,D.n 5]) R (Ev.bltn g1 rfl rfl) (EvL.cons (Ev.int (i:=1)) (EvL.cons (Ev.int (i:=5)) EvL.nil)) Bi.range2) (upfrom 1 5 (by lia) (by lia))
    (fun j ρ μ=>∃ o3 o4 o5,ρ=[some (D.is [c0,c1,c2]),some (.val (.ref a)),some (.int (T1.restAt c0 (1+j))),o3,o4,o5]∧μ=[(a,.lst ((T1.fol (T1.nm c1) (T1.hm c0) (1+j)).map D.fd))]) (fun _ _=>False) ?_ ?_ ?_ ?_ ?_ ?_
  · rintro i ρ μ ⟨_,_,_,_,rfl⟩;rfl
  · intro _ _ h;exact h.elim
  · exact ⟨_,_,_,rfl,rfl⟩
  · rintro wr j d ρ μ hd ⟨o3,o4,o5,rfl,rfl⟩
    obtain ⟨hj,rfl⟩:=range_at hd
    have hfl:=T1.fol_len (T1.nm c1) (T1.hm c0) (1+j)
    have hff:=T1.fol_few (T1.nm c1) (T1.hm c0) (1+j)
    have hhl:=T1.hm_le c0 (1+j)
    have hnext:T1.fol (T1.nm c1) (T1.hm c0) (1+(j+1))=T1.fol (T1.nm c1) (T1.hm c0) (1+j)++[if T1.hm c0 (1+j)=0 then [T1.nm c1 (1+j)] else (T1.fol (T1.nm c1) (T1.hm c0) (1+j)).getD (T1.hm c0 (1+j) - 1) []++[T1.nm c1 (1+j)]]:=rfl
    have hrest:T1.restAt c0 (1+(j+1))=if 1 < 1+j then T1.restAt c0 (1+j) / (((1+j:Nat):Int)+1) else T1.restAt c0 (1+j):=by
      show T1.restAt c0 (1+j+1)=_;rfl
    have hhm:T1.hm c0 (1+j)=if 1+j=1 then 1 else (T1.restAt c0 (1+j) % (((1+j:Nat):Int)+1)).toNat:=by
      unfold T1.hm;rw [if_neg (by lia)]
    have hp:(0:Int) < 6 ^ (1+j - 1)∧(6:Int) ^ (1+j - 1) < 2 ^ 64:=by
      match j,hj with
      | 0,_=>decide
      | 1,_=>decide
      | 2,_=>decide
      | 3,_=>decide
    have hk5:1+j < 5:=by lia
    generalize hfo:T1.fol (T1.nm c1) (T1.hm c0) (1+j)=fo at *
    generalize T1.fol (T1.nm c1) (T1.hm c0) (1+(j+1))=fo' at *
    generalize T1.restAt c0 (1+(j+1))=re' at *
    generalize T1.restAt c0 (1+j)=re at *
    generalize T1.hm c0 (1+j)=h at *
    generalize hkk:1+j=k at *
    have m6:=Int.emod_nonneg (c1 / 6 ^ (k - 1)) (b:=6) (by decide)
    have m6':=Int.emod_lt_of_pos (c1 / 6 ^ (k - 1)) (b:=6) (by decide)
    refine Ex.assign 4 (d:=.s (T1.nm c1 k)) rfl (.l rfl (.tail _ (.head _))) ((Ev.bin (d:=.s ([97]++List.replicate k (T1.sgn c1 k))) R (Ev.str (x:="a")) ((Ev.bin R (Ev.itemS (t:=[45,46,48,66,98,126]) (k:=c1 / 6 ^ (k - 1) % 6) (c:=T1.sgn c1 k) R (Ev.str (x:="-.0Bb~")) (Ev.bin R (Ev.bin R (Ev.itemL (d:=.int c1) R (Ev.name 0 rfl rfl) Ev.int (by decide) rfl c3) (Ev.bin (d:=.int (6 ^ (k - 1))) R Ev.int (Ev.bin R (Ev.name 3 rfl rfl) (Ev.int (i:=1)) (Bin.subN (b:=1) (by lia))) ((Bin.pow (a:=6) (b:=((k - 1:Nat):Int)) (by decide) (by decide) (by lia) (by lia)))) (Bin.div hp.1 hp.2)) Ev.int (Bin.mod (by decide))) m6 ?_ (by decide)) (Ev.name 3 rfl rfl) (Bin.mulS (n:=(k:Int)) (by lia) (by lia) (Nat.le_of_ble_eq_true rfl))).as (d':=.s (List.replicate k (T1.sgn c1 k))) ?_) (Bin.addS (a:=[97]) (by simp;lia))).as rfl) ?_
    · unfold T1.sgn
      rw [List.getD_eq_getElem?_getD,List.getElem?_eq_getElem (by simp;lia)];rfl
    · rw [rep_one,Int.toNat_natCast]
    have hnl:(T1.nm c1 k).length≤6:=by unfold T1.nm;simp;lia
    generalize T1.nm c1 k=nm at *
    refine Ex.assign 5 (d:=D.n 1) rfl (.l rfl (.tail _ (.head _))) (Ev.int (i:=1)) ?_
    refine Ex.iteJ (c:=decide (1 < k)) [some (D.is [c0,c1,c2]),some (.val (.ref a)),some (.int re'),some (D.n k),some (.s nm),some (D.n h)] [(a,.lst (fo.map D.fd))] (EvT.cmp R (Ev.name 3 rfl rfl) (Ev.int (i:=1)) (Cmp.gtN (b:=1))) (fun hc=>?_) (fun hc=>?_) ?_
    · have hc:=of_decide_eq_true hc
      rw [if_neg (by lia)] at hhm
      rw [if_pos hc] at hrest
      have h2:=Int.emod_nonneg re (b:=(k:Int)+1) (by lia)
      refine Ex.assign 5 (d:=D.n h) rfl (.l rfl (.tail _ (.head _))) ((Ev.bin (d:=.int (re % ((k:Int)+1))) R (Ev.name 2 rfl rfl) (Ev.bin (d:=.int ((k:Int)+1)) R (Ev.name 3 rfl rfl) (Ev.int (i:=1)) Bin.add) (Bin.mod (by lia))).as (by unfold D.n;congr 1;lia)) ?_
      refine Ex.assign 2 (d:=.int re') rfl (.l rfl (.tail _ (.head _))) ((Ev.bin (d:=.int (re / ((k:Int)+1))) R (Ev.name 2 rfl rfl) (Ev.bin (d:=.int ((k:Int)+1)) R (Ev.name 3 rfl rfl) (Ev.int (i:=1)) Bin.add) (Bin.div (by lia) (by lia))).as (by rw [hrest])) (Ex.nil fun s y=>⟨rfl,y⟩)
    · have hc:=of_decide_eq_false hc
      rw [if_pos (by lia)] at hhm
      rw [if_neg hc] at hrest
      rw [hhm,hrest]
      exact Ex.nil fun s y=>⟨rfl,y⟩
    refine Ex.iteJ (c:=decide (0 < h)) [some (D.is [c0,c1,c2]),some (.val (.ref a)),some (.int re'),some (D.n k),some (.s nm),some (D.n h)] [(a,.lst (fo'.map D.fd))] (EvT.cmp R (Ev.name 5 rfl rfl) (Ev.int (i:=0)) (Cmp.gtN (b:=0))) (fun hc=>?_) (fun hc=>?_) (Ex.nil fun s y=>⟨_,_,⟨_,_,_,rfl,rfl⟩,y⟩)
    · have hc:=of_decide_eq_true hc
      rw [if_neg (by lia)] at hnext
      have hlt:h - 1 < fo.length:=by lia
      have hgl:(fo.getD (h - 1) []).length≤k:=by
        rw [List.getD_eq_getElem?_getD,List.getElem?_eq_getElem hlt]
        exact hff _ (List.getElem_mem hlt)
      refine Ex.append 1 0 (d:=D.fd (fo.getD (h - 1) []++[nm])) (Ev.name 1 rfl rfl) rfl (hda _) ((Ev.bin (d:=.lst ((fo.getD (h - 1) []).map D.s++[D.s nm])) R (Ev.itemMut (k:=((h - 1:Nat):Int)) (d:=D.fd (fo.getD (h - 1) [])) R (Ev.name 1 rfl rfl) (.head _) (Ev.bin R (Ev.name 5 rfl rfl) (Ev.int (i:=1)) (Bin.subN (b:=1) hc)) (by lia) ?_ (by rw [List.length_map];lia)) (Ev.lst (ds:=[D.s nm]) (EvL.cons (Ev.name 4 rfl rfl) EvL.nil) (by show 1≤_;decide)) (Bin.addL (by rw [List.length_map];show (fo.getD (h - 1) []).length+1≤_;lia))).as (by rw [D.fd,List.map_append];rfl)) (by rw [List.length_map];lia) (Ex.nil fun s z=>⟨rfl,?_⟩)
      · rw [List.getElem?_map,Int.toNat_natCast,List.getElem?_eq_getElem hlt,List.getD_eq_getElem?_getD,List.getElem?_eq_getElem hlt];rfl
      · rw [hnext,List.map_append];exact z
    · have hc:=of_decide_eq_false hc
      rw [if_pos (by lia)] at hnext
      refine Ex.append 1 0 (d:=D.fd [nm]) (Ev.name 1 rfl rfl) rfl (hda _) (Ev.lst (ds:=[D.s nm]) (EvL.cons (Ev.name 4 rfl rfl) EvL.nil) (by show 1≤_;decide)) (by rw [List.length_map];lia) (Ex.nil fun s z=>⟨rfl,?_⟩)
      rw [hnext,List.map_append];exact z
  · rintro ρ μ ⟨o3,o4,o5,rfl,rfl⟩
    have hl:((List.range (5 - 1)).map fun k=>D.n (1+k)).length=4:=by simp
    rw [hl]
    refine Ex.freezeS (p:=[]) (q:=[]) 1 rfl haS (fun b hb=>hown b (.tail _ hb)) fun X₁ hS₁ hX₁=>?_
    have hX₁:∀ b∈ownS (callEnvC fFolders.1 L 190)++X,b∈X₁:=fun b hb=>hX₁ b (.tail _ hb) fun e=>haX (e ▸ hb)
    exact Ex.ret (Ev.name 1 rfl rfl) fun v s y r=>⟨r.sub hX₁,fun _ h=>nomatch h⟩
  · intro _ _ h;exact h.elim
end Mine
end
section
open PySem PySem.Calls PySem.W PyProof.Rows PySem.Builtin.Int
namespace Mine
noncomputable def fProduct:FnAt 200:=⟨_,fun P=>⟨_,_,_,rfl⟩⟩
theorem cut_to {α:Type} (l:List α) (a:Nat):cut l none (some (a:Int))=l.take a:=by
  have e:clipN l.length (a:Int)=min a l.length:=clipN_nat _ _
  unfold cut
  simp only [Option.elim_some,Option.elim_none,e,List.drop_zero,Nat.sub_zero]
  by_cases h:a≤l.length
  · rw [Nat.min_eq_left h]
  · rw [Nat.min_eq_right (by lia),List.take_of_length_le (Nat.le_refl _),List.take_of_length_le (by lia)]
theorem cut_last {α:Type} (l:List α):cut l none (some (-1))=l.dropLast:=by
  have e:clipN l.length (-1)=l.length - 1:=by unfold clipN;rw [if_pos (by decide)];lia
  unfold cut
  simp only [Option.elim_some,Option.elim_none,e,List.drop_zero,Nat.sub_zero]
  rw [List.dropLast_eq_take]
theorem getDm {α:Type} (l:List α) (f:α→D) (d:α) {k:Nat} (h:k < l.length):(l.map f)[((k:Nat):Int).toNat]?=some (f (l.getD k d)):=by
  rw [Int.toNat_natCast,List.getElem?_map,List.getElem?_eq_getElem h,List.getD_eq_getElem?_getD,List.getElem?_eq_getElem h];rfl
noncomputable abbrev ixOf {α:Type} [DecidableEq α] (x:α) (l:List α):Nat:=@List.idxOf α instBEqOfDecidableEq x l
theorem ixOf_lt {α:Type} [DecidableEq α] {x:α} {l:List α} (h:x∈l):ixOf x l < l.length:=List.idxOf_lt_length_iff.mpr h
namespace T1
noncomputable def held (fs:List (List (List Nat))) (x:Nat):Nat:=(fs.filter fun o=>decide (o.take (fs.getD x []).length=fs.getD x [])).length
noncomputable def behindHome (fs:List (List (List Nat))) (cs:List (List Nat)) (x:Nat):Bool:=decide (1 < (fs.getD x []).length) && (ordN .Gt (cs.getD x []) (cs.getD (ixOf (fs.getD x []).dropLast fs) []) && true)
noncomputable def leftP (fs:List (List (List Nat))):Nat→Int
  | 0=>1
  | x+1=>leftP fs x*(1000 ^ held fs x - 1)
noncomputable def rightP (fs:List (List (List Nat))) (cs:List (List Nat)):Nat→Int
  | 0=>1
  | x+1=>if behindHome fs cs x=true then rightP fs cs x*(1000 ^ (x+1) - 1)*1000 ^ held fs x else rightP fs cs x*(1000 ^ (x+1) - 1)
theorem bits1000:intBits 1000≤10:=by decide
theorem bitsPow (k:Nat):intBits (1000 ^ k)≤10*k+1:=intBits_pow_le bits1000 k
theorem bitsPow1 (k:Nat):intBits (1000 ^ k - 1)≤10*k+2:=by
  have:=intBits_sub_le (bitsPow k) (show intBits 1≤1 by decide)
  lia
theorem held_le (fs:List (List (List Nat))) (x:Nat):held fs x≤fs.length:=List.length_filter_le _ _
theorem left_bits (fs:List (List (List Nat))) (h:fs.length=5):∀ x,intBits (leftP fs x)≤60*x+1
  | 0=>by show intBits 1≤1;decide
  | x+1=>by
    have h1:=left_bits fs h x
    have h2:=bitsPow1 (held fs x)
    have h3:=held_le fs x
    have:=intBits_mul_le h1 h2
    show intBits (leftP fs x*(1000 ^ held fs x - 1))≤_
    lia
theorem right_bits (fs:List (List (List Nat))) (cs:List (List Nat)) (h:fs.length=5):∀ x,x≤5→intBits (rightP fs cs x)≤110*x+1
  | 0,_=>by show intBits 1≤1;decide
  | x+1,hx=>by
    have h1:=right_bits fs cs h x (by lia)
    have h2:=bitsPow1 (x+1)
    have h3:=held_le fs x
    have h4:=bitsPow (held fs x)
    have h5:=intBits_mul_le h1 h2
    show intBits (if behindHome fs cs x=true then rightP fs cs x*(1000 ^ (x+1) - 1)*1000 ^ held fs x else rightP fs cs x*(1000 ^ (x+1) - 1))≤_
    split
    · have:=intBits_mul_le h5 h4
      lia
    · lia
end T1
theorem Bin.pow1000 (k:Nat) (h:k≤100):Bin .Pow (.int 1000) (D.n k) (.int (1000 ^ k)):=by
  have:=Bin.pow (a:=1000) (b:=(k:Int)) (by decide) (by decide) (by lia) (by lia)
  rwa [Int.toNat_natCast] at this
theorem fn_product {C : Cx} (H : Is1 C) (fs : List (List (List Nat))) (cs : List (List Nat)) (h5 : fs.length = 5) (hc5 : cs.length = 5) (hf : ∀ f ∈ fs, f.length ≤ 5) (hc : ∀ c ∈ cs, c.length ≤ 1000)
    (hpar:∀ x,x < 5→1 < (fs.getD x []).length→(fs.getD x []).dropLast∈fs):FnM C 1 (.ref 200) [.lst (fs.map D.fd),.lst (cs.map D.ns)] [] (.tup [.int (T1.leftP fs 5),.int (T1.rightP fs cs 5)]) []:=by
  obtain ⟨P,hK⟩:=H.K
  obtain ⟨oc,od,osl,ho⟩:=fProduct.2 P
  have sz:sizeLine=16777216:=rfl
  have g1:C.mg "range"=none:=H.noGlob fun P=>by rfl
  have g2:C.mg "len"=none:=H.noGlob fun P=>by rfl
  refine FnM.intro (fd:=fProduct.1) ["folders","codes"] ["left","right","x","held"] 4 (by rw [hK];exact ho) (by rw [hK];rfl) rfl rfl rfl rfl (fun vals hv=>?_) rfl (by decide) (fun n x hx=>?_) (by decide) (fun A X L R hm=>?_)
  · obtain ⟨v,w,rfl⟩:=len2 hv;rfl
  · simp only [List.mem_cons,List.not_mem_nil,or_false] at hx
    rcases hx with rfl | rfl
    · exact .inr ⟨rfl,rfl⟩
    · exact .inl rfl
  have hcell:∀ b∈(callEnvC fProduct.1 L 200).cells.map (·.2),b∈ownS (callEnvC fProduct.1 L 200)++doms []:=fun b hb=>List.mem_append_left _ (.tail _ hb)
  have hS:∀ b∈ownS (callEnvC fProduct.1 L 200)++doms [],b∈ownS (callEnvC fProduct.1 L 200)++X:=fun b hb=>List.mem_append_left _ (by simpa [doms] using hb)
  refine Ex.assign 2 (d:=.int 1) rfl (.l rfl (.head _)) Ev.int ?_
  refine Ex.assign 3 (d:=.int 1) rfl (.l rfl (.head _)) Ev.int ?_
  refine Ex.forN 4 (d:=.rng 0 ((5:Nat):Int) 1) (ds:=(List.range 5).map D.n) R rfl (.c rfl rfl hcell) hS (Ev.callB (ds:=[D.n 5]) R (Ev.bltn g1 rfl rfl) (EvL.cons (Ev.int (i:=5)) EvL.nil) Bi.range1) (upto _ (by lia))
    (fun x ρ μ=>∃ o4 o5,ρ=[some (.lst (fs.map D.fd)),some (.lst (cs.map D.ns)),some (.int (T1.leftP fs x)),some (.int (T1.rightP fs cs x)),o4,o5]∧μ=[]) (fun _ _=>False) ?_ ?_ ⟨_,_,rfl,rfl⟩ ?_ ?_ ?_
  · rintro i ρ μ ⟨_,_,_,rfl⟩;rfl
  · intro _ _ h;exact h.elim
  · rintro wr x d ρ μ hd ⟨o4,o5,rfl,rfl⟩
    obtain ⟨hx,rfl⟩:=range_at hd
    have hfl:=T1.left_bits fs h5 x
    have hrl:=T1.right_bits fs cs h5 x (by lia)
    have hr2:=T1.right_bits fs cs h5 (x+1) (by lia)
    have hhl:=T1.held_le fs x
    have hfx:(fs.getD x []).length≤5:=by
      rw [List.getD_eq_getElem?_getD,List.getElem?_eq_getElem (by lia)];exact hf _ (List.getElem_mem _)
    have hpx:=hpar x hx
    have ffx:∀ {g:G} {ρ':List (Option D)} {p q:Pos} {a:Expr} {n:Str},Room g.A 0→Ev g ρ' [] a (.lst (fs.map D.fd))→Ev g ρ' [] (.Name n q) (D.n x)→Ev g ρ' [] (.Subscript a (.Name n q) p) (D.fd (fs.getD x [])):=fun R ha hb=>Ev.itemL R ha hb (by lia) (getDm fs D.fd [] (by lia)) (by rw [List.length_map];lia)
    have lfx:∀ l:List (List Nat),l.length≤5→Bi (.builtin "len") [D.fd l] (D.n l.length):=fun l hl=>by
      have:=Bi.lenL (ds:=l.map D.s) (by rw [List.length_map];lia)
      rwa [List.length_map] at this
    refine Ex.assign 5 (d:=D.n (T1.held fs x)) rfl (.l rfl (.head _)) (Ev.callB (ds:=[.lst ((fs.filter fun o=>decide (o.take (fs.getD x []).length=fs.getD x [])).map fun _=>D.n 1)]) R (Ev.bltn g2 rfl rfl) (EvL.cons (EvN.comp D.fd fs (fun o=>decide (o.take (fs.getD x []).length=fs.getD x [])) (fun _=>D.n 1) [(0,"folders"),(4,"x")] R (by rfl) (Ev.name 0 rfl rfl) Src.lst (by lia) (fun X' L' o ho'=>⟨EvIfs.one ?_,fun _=>Ev.int (i:=1)⟩)).ev EvL.nil) ?_) ?_
    · have hol:=hf o ho'
      exact EvT.cmp R ((Ev.sliceL (ds:=o.map D.s) (i:=none) (j:=some (((fs.getD x []).length:Nat):Int)) R (Ev.name 0 rfl rfl) EvP.none (EvP.some (Ev.callB (ds:=[D.fd (fs.getD x [])]) R (Ev.bltn g2 rfl rfl) (EvL.cons (ffx R (Ev.name 1 rfl rfl) (Ev.name 2 rfl rfl)) EvL.nil) (lfx _ hfx))) (by rw [List.length_map];lia)).as (d':=.lst ((o.take (fs.getD x []).length).map D.s)) (by rw [cut_to,List.map_take])) (ffx R (Ev.name 1 rfl rfl) (Ev.name 2 rfl rfl)) (Cmp.eqL Kd.s (by decide) _ _)
    · have:=Bi.lenL (ds:=(fs.filter fun o=>decide (o.take (fs.getD x []).length=fs.getD x [])).map fun _=>D.n 1) (by rw [List.length_map];have:(fs.filter fun o=>decide (o.take (fs.getD x []).length=fs.getD x [])).length≤fs.length:=List.length_filter_le _ _;lia)
      rwa [List.length_map] at this
    refine Ex.assign 2 (d:=.int (T1.leftP fs (x+1))) rfl (.l rfl (.head _)) (Ev.bin R (Ev.name 2 rfl rfl) (Ev.bin R (Ev.bin R (Ev.int (i:=1000)) (Ev.name 5 rfl rfl) (Bin.pow1000 _ (by lia))) Ev.int Bin.minus) (Bin.mul (IntMulOk.of_le hfl (T1.bitsPow1 _) (by lia)))) ?_
    refine Ex.assign 3 (d:=.int (T1.rightP fs cs x*(1000 ^ (x+1) - 1))) rfl (.l rfl (.head _)) (Ev.bin R (Ev.name 3 rfl rfl) (Ev.bin R (Ev.bin R (Ev.int (i:=1000)) (Ev.bin R (Ev.name 4 rfl rfl) (Ev.int (i:=1)) (Bin.addN (a:=x) (b:=1))) (Bin.pow1000 _ (by lia))) Ev.int Bin.minus) (Bin.mul (IntMulOk.of_le hrl (T1.bitsPow1 _) (by lia)))) ?_
    refine Ex.iteJ (c:=T1.behindHome fs cs x) [some (.lst (fs.map D.fd)),some (.lst (cs.map D.ns)),some (.int (T1.leftP fs (x+1))),some (.int (T1.rightP fs cs (x+1))),some (D.n x),some (D.n (T1.held fs x))] [] (EvT.and (EvAnd.cons (EvT.cmp R (Ev.callB (ds:=[D.fd (fs.getD x [])]) R (Ev.bltn g2 rfl rfl) (EvL.cons (ffx R (Ev.name 0 rfl rfl) (Ev.name 4 rfl rfl)) EvL.nil) (lfx _ hfx)) (Ev.int (i:=1)) (Cmp.gtN (b:=1))) (fun h=>EvAnd.cons ?_ fun _=>EvAnd.nil))) (fun h=>?_) (fun h=>?_) (Ex.nil fun s y=>⟨_,_,⟨_,_,rfl,rfl⟩,y⟩)
    · have hmem:=hpx (of_decide_eq_true h)
      have hlt:ixOf (fs.getD x []).dropLast fs < fs.length:=ixOf_lt hmem
      refine EvT.cmp R (Ev.itemL (k:=((x:Nat):Int)) R (Ev.name 1 rfl rfl) (Ev.name 4 rfl rfl) (by lia) (getDm cs D.ns [] (by lia)) (by rw [List.length_map];lia)) (Ev.itemL (k:=((ixOf (fs.getD x []).dropLast fs:Nat):Int)) R (Ev.name 1 rfl rfl) ?_ (by lia) (getDm cs D.ns [] (by lia)) (by rw [List.length_map];lia)) (Cmp.ordN .gt _ _)
      exact Ev.meth (d₀:=.lst (fs.map D.fd)) (ds:=[D.fd (fs.getD x []).dropLast]) R F.plainAttrs_list F.slot_list_index F.type_list_index (Ev.name 0 rfl rfl) isLst (EvL.cons ((Ev.sliceL (ds:=(fs.getD x []).map D.s) (i:=none) (j:=some (-1)) R (ffx R (Ev.name 0 rfl rfl) (Ev.name 4 rfl rfl)) EvP.none (EvP.some (Ev.neg (Ev.int (i:=1)))) (by rw [List.length_map];lia)).as (by rw [cut_last,D.fd,List.map_dropLast])) EvL.nil) (Bi.index (Kd.lst Kd.s) (by decide) hmem (by lia))
    · have e:T1.rightP fs cs (x+1)=T1.rightP fs cs x*(1000 ^ (x+1) - 1)*1000 ^ T1.held fs x:=if_pos h
      refine Ex.assign 3 (d:=.int (T1.rightP fs cs (x+1))) rfl (.l rfl (.head _)) ((Ev.bin R (Ev.name 3 rfl rfl) (Ev.bin R (Ev.int (i:=1000)) (Ev.name 5 rfl rfl) (Bin.pow1000 _ (by lia))) (Bin.mul (IntMulOk.of_le (intBits_mul_le hrl (T1.bitsPow1 (x+1))) (T1.bitsPow _) (by lia)))).as (by rw [e])) (Ex.nil fun s z=>⟨rfl,z⟩)
    · have e:T1.rightP fs cs (x+1)=T1.rightP fs cs x*(1000 ^ (x+1) - 1):=if_neg (by rw [h];decide)
      exact Ex.nil fun s z=>⟨rfl,by rw [e];exact z⟩
  · rintro ρ μ ⟨o4,o5,rfl,rfl⟩
    have hl:((List.range 5).map D.n).length=5:=by simp
    rw [hl]
    exact Ex.ret (Ev.tup (EvL.cons (Ev.name 2 rfl rfl) (EvL.cons (Ev.name 3 rfl rfl) EvL.nil)) (by show 2≤_;decide)) fun v s y r=>⟨r,fun _ h=>nomatch h⟩
  · intro _ _ h;exact h.elim
end Mine
end
section
open PySem PySem.Calls PySem.W PyProof.Rows
namespace Mine
noncomputable def fWalk:FnAt 195:=⟨_,fun P=>⟨_,_,_,rfl⟩⟩
theorem EvM.as {g:G} {ρ:List (Option D)} {μ μ':List (Addr × Mut)} {e:Expr} {d d':D} (h:EvM g ρ μ e d μ') (q:d=d'):EvM g ρ μ e d' μ':=q ▸ h
theorem Cmp.notInI {α:Type} [DecidableEq α] {n:Nat} {f:α→D} (K:Kd n f) (hn:n < 500) (x:α) (xs:List α) (i:Decidable (x∉xs)):Cmp .NotIn (f x) (.lst (xs.map f)) (D.bool (@decide (x∉xs) i)):=by
  have h:=Cmp.notInL K hn x xs
  rw [Subsingleton.elim i instDecidableNot];exact h
theorem Bin.addNs {a b:List Nat} (h:a.length+b.length≤sizeLine):Bin .Add (D.ns a) (D.ns b) (D.ns (a++b)):=by
  have:=Bin.addL (as:=a.map D.n) (bs:=b.map D.n) (by simpa using h)
  unfold D.ns;rw [List.map_append];exact this
section
variable {g:G} {ρ:List (Option D)} {μ:List (Addr × Mut)} {S:List Addr} {Φ:Flow→Shared→Prop} {rest:List Stmt} {p q:List (Addr × Mut)} {c:Addr} {ds:List D}
theorem EvN.listOf {func e : Expr} {pos : Pos} {ds : List D} (R : Room g.A 0) (hf : Ev g ρ μ func (.val (.type "list"))) (he : Ev g ρ μ e (.lst ds)) (hz : ds.length ≤ sizeLine)
    (hst:starEach [e] g.env=(false,eval e g.env)::starEach [] g.env:=by rfl)
    (hq:eval (.Call func [e] [] pos) g.env=(eval func g.env >>= fun v=>callWith pos v [] (backTo pos (starEach [e] g.env)) []):=by rfl):EvN g ρ μ (.Call func [e] [] pos) ds:=fun s x=>by
  show wpAny _ _ _ _ _ _
  rw [hq]
  refine wpAny_bind (hf.wp x fun v s₁ x₁ r₁ e₁=>?_)
  cases r₁
  exact callWith_B rfl ((EvL.cons he EvL.nil hst s₁ x₁).use fun vs s₂ e₂ r₂=>(Bi.list hz _ _ _ _ _ (x₁.ext e₂).inv R r₂).use fun v s₃ e₃ ⟨a,us,n,h1,h2,h3,h4⟩=>⟨(e₁.trans e₂).trans e₃,a,us,n,h1,(e₁.trans e₂).none_back h2,h3,h4⟩) hst
theorem Ex.appendM {o e : Expr} {apos pos spos : Pos} {d : D} {p' q' : List (Addr × Mut)} {ds' : List D} (hd : doms (p' ++ ((c, .lst ds') :: q')) = doms (p ++ ((c, .lst ds) :: q))) (ho : Ev g ρ (p ++ ((c, .lst ds) :: q)) o (.val (.ref c))) (hS : ∀ b ∈ doms (p ++ ((c, .lst ds) :: q)), b ∈ S)
    (he:EvM g ρ (p++((c,.lst ds)::q)) e d (p'++((c,.lst ds')::q'))) (hlen:ds'.length≤sizeLine)
    (kk:Ex g S ρ (p'++((c,.lst (ds'++[d]))::q')) rest Φ)
    (hbase:attributeBase o "append" g.env (eval o g.env)=eval o g.env:=by rfl)
    (hfew:((backTo pos (starEach [e] g.env)).all (fun x=>!x.1) && (backToKw pos (keywordEach [] g.env)).all (fun x=>x.1.isSome) && decide ([e].length+([]:List Keyword).length+(if ([]:List Keyword).isEmpty then 0 else 1) < 30))=true:=by rfl)
    (hline:(apos.endLine == pos.line)=true:=by rfl) (hst:starEach [e] g.env=(false,eval e g.env)::starEach [] g.env:=by rfl)
    (hi:interactive g.env=false:=by rfl) (hs:swapsWith (.Call (.Attribute o "append" apos) [e] [] pos) none spos.line g.env=pure false:=by rfl) :
    Ex g S ρ (p++((c,.lst ds)::q)) (.Expr (.Call (.Attribute o "append" apos) [e] [] pos) spos::rest) Φ:=Ex.step fun s y=>by
  refine wpAny_Expr_any (wpAny_Call_method hbase hfew hline F.plainAttrs_list slot_list_append F.type_list_append (ho.wp y fun v s₁ y₁ r₁ e₁=>?_)) hi hs
  cases r₁
  obtain ⟨vs,n,hg,r⟩:=y₁.muts (c,.lst ds) (List.mem_of_getElem? mem_mid)
  refine ⟨⟨_,hg,rfl⟩,fun b hb=>by cases hb;exact ⟨_,hg,rfl⟩,callWith_B rfl ?_ hst⟩
  refine ((EvLM.cons he EvLM.nil hst).2 s₁ y₁).use fun ws s₂ e₂ q₂=>?_
  obtain ⟨y₂,r₂⟩:=q₂
  obtain ⟨vs,n,hg,r⟩:=y₂.muts (c,.lst ds') (List.mem_of_getElem? mem_mid)
  obtain ⟨w,rfl,rw'⟩:=r₂.one
  refine wpAny_list_append_plain (items:=vs.toArray) ⟨n,hg⟩ (fun h' hp hs'=>?_) (by rw [List.size_toArray,r.length];exact hlen)
  obtain ⟨n',hp⟩:=hp
  have hp':h'.get? c=some (lstO (vs++[w]) n'):=by rw [hp,List.push_toArray]
  obtain ⟨e₃,y₃⟩:=y₂.relst (tk:=s₂.toks) hs' hp' (r.snoc rw')
  exact ⟨(e₁.up0.trans (e₂.wider fun b hb=>.inl (hS b hb))).trans (e₃.wider fun b hb=>.inl (hS b (hd ▸ hb))),kk _ y₃⟩
end
namespace T1
noncomputable abbrev Pc:=List Nat × List Nat
noncomputable def top (xs:List Pc):Pc:=xs.getLast?.getD ([],[])
theorem top_D (xs:List Pc):((xs.map D.ss).getLast?.getD (.tup [.s [],.s []]))=D.ss (top xs):=by
  unfold top
  rw [List.getLast?_map]
  cases xs.getLast? <;> rfl
noncomputable abbrev D.e3 (x:Nat × Nat × Bool):D:=.tup [D.n x.1,D.n x.2.1,D.bool x.2.2]
noncomputable def tx (texts:List Pc) (x:Nat):Pc:=texts.getD x ([],[])
noncomputable def pile (texts:List Pc) (gone:List Nat):List Pc:=gone.map (tx texts)
noncomputable def able (gone:List Nat) (waits:List Int) (x:Nat):Bool:=decide (x∉gone) && ((waits.getD x 0 == 0) && true)
noncomputable def still (homes waits:List Int) (x:Nat):List Int:=if decide (0≤homes.getD x 0)=true then waits.set (homes.getD x 0).toNat (waits.getD (homes.getD x 0).toNat 0 - 1) else waits
noncomputable def down0 (place:Nat) (a b:Pc):Bool:=decide (0 < place) && ((Mine.coll a.2 b.2 == 1) && true)
noncomputable def down1 (place:Nat) (a b:Pc):Bool:=decide (0 < place) && (decide (b.1 < a.1) && true)
noncomputable def walk (texts:List Pc) (homes:List Int):Nat→List Nat→List Int→Nat→Nat→List (Nat × Nat × Bool)
  | 0,_,_,f0,f1=>[(f0,f1,true)]
  | n + 1, gone, waits, f0, f1 => (List.range 5).flatMap fun x => if able gone waits x = true then walk texts homes n (gone ++ [x]) (still homes waits x)
      (if down0 gone.length (top (pile texts gone)) (tx texts x)=true then f0+gone.length else f0) (if down1 gone.length (top (pile texts gone)) (tx texts x)=true then f1+gone.length else f1) else []
theorem walk_len (texts:List Pc) (homes:List Int):∀ n gone waits f0 f1,(walk texts homes n gone waits f0 f1).length≤5 ^ n
  | 0,_,_,_,_=>by simp [walk]
  | n+1,gone,waits,f0,f1=>by
    unfold walk
    rw [List.length_flatMap]
    have:∀ (l:List Nat) (f:Nat→Nat),(∀ x,f x≤5 ^ n)→(l.map f).sum≤l.length*5 ^ n:=by
      intro l f hf
      induction l with
      | nil=>simp
      | cons x r ih =>
        simp only [List.map_cons,List.sum_cons,List.length_cons,Nat.succ_mul]
        have:=hf x;lia
    refine Nat.le_trans (this _ _ fun x=>?_) (by rw [List.length_range,Nat.pow_succ,Nat.mul_comm];exact Nat.le_refl _)
    split
    · exact walk_len texts homes n _ _ _ _
    · exact Nat.zero_le _
theorem still_len (homes waits:List Int) (x:Nat):(still homes waits x).length=waits.length:=by unfold still;split <;> simp
end T1
end Mine
end
section
open PySem PySem.Calls PySem.W PyProof.Rows
namespace Mine
namespace T1
theorem pile_len (texts:List Pc) (gone:List Nat):(pile texts gone).length=gone.length:=by simp [pile]
theorem pile_snoc (texts:List Pc) (gone:List Nat) (x:Nat):pile texts (gone++[x])=pile texts gone++[tx texts x]:=by simp [pile]
theorem tx_mem {texts:List Pc} {x:Nat} (h:x < texts.length):tx texts x∈texts:=by
  unfold tx;rw [List.getD_eq_getElem?_getD,List.getElem?_eq_getElem h];exact List.getElem_mem h
theorem top_snoc (xs:List Pc) (p:Pc):top (xs++[p])=p:=by simp [top]
theorem text_small {xs:List Pc} (h:∀ p∈xs,p.1.length≤100∧p.2.length≤100):(textOf xs).length≤200*xs.length:=by
  unfold textOf
  induction xs with
  | nil=>simp
  | cons p r ih =>
    have:=ih fun q hq=>h q (.tail _ hq)
    have hp:=h p (.head _)
    simp only [List.map_cons,List.flatten_cons,List.length_append,List.length_cons]
    lia
theorem lenOf_text (xs:List Pc):lenOf xs=((textOf xs).length:Int):=by
  unfold lenOf textOf
  induction xs with
  | nil=>rfl
  | cons p r ih =>
    simp only [List.map_cons,List.sum_cons,List.flatten_cons,List.length_append] at ih ⊢
    rw [ih];lia
structure Txt (texts:List Pc) (homes:List Int):Prop where
  five:texts.length=5
  small:∀ p∈texts,p.1.length≤100∧p.2.length≤100
  hfive:homes.length=5
  hlt:∀ h∈homes,h < 5
noncomputable def wstep (texts : List Pc) (homes : List Int) (n : Nat) (gone : List Nat) (waits : List Int) (f0 f1 x : Nat) : List (Nat × Nat × Bool) := if able gone waits x = true then walk texts homes n (gone ++ [x]) (still homes waits x)
      (if down0 gone.length (top (pile texts gone)) (tx texts x)=true then f0+gone.length else f0) (if down1 gone.length (top (pile texts gone)) (tx texts x)=true then f1+gone.length else f1) else []
end T1
open T1 in
theorem fn_walk {C : Cx} (H : Is1 C) (texts : List T1.Pc) (homes : List Int) (T : T1.Txt texts homes) (row dx e : Addr) : ∀ (n : Nat) (gone : List Nat) (waits : List Int) (f0 f1 : Nat) (es : List (Nat × Nat × Bool)), gone.length + n = 5 → (∀ x ∈ gone, x < 5) → waits.length = 5 → es.length + 5 ^ n ≤ 100000 →
    FnM C (4+n) (.ref 195) [.val (.ref row),.lst (texts.map D.ss),D.is homes,D.ns gone,D.is waits,D.ns [f0,f1],.val (.ref e)] [(row,.acc 151 dx ((pile texts gone).map D.ss)),(e,.lst (es.map T1.D.e3))] D.nil
      [(row,.acc 151 dx ((pile texts gone).map D.ss)),(e,.lst ((es++walk texts homes n gone waits f0 f1).map T1.D.e3))]:=by
  intro n
  induction n with
  | zero =>
    intro gone waits f0 f1 es hg hg5 hw hes
    obtain ⟨P,hK⟩:=H.K
    obtain ⟨oc,od,osl,ho⟩:=fWalk.2 P
    have sz:sizeLine=16777216:=rfl
    have g2:C.mg "len"=none:=H.noGlob fun P=>by rfl
    have g3:C.mg "str"=none:=H.noGlob fun P=>by rfl
    refine FnM.intro (fd:=fWalk.1) ["row","texts","homes","gone","waits","falls","ends"] ["place","whole","last","x","more","still"] 6 (by rw [hK];exact ho) (by rw [hK];rfl) rfl rfl rfl rfl (fun vals hv=>?_) rfl (by decide) (fun n x hx=>?_) (by decide) (fun A X L R hm=>?_)
    · obtain ⟨a,b,c,d,e,f,g,rfl⟩:=len7 hv;rfl
    · simp only [List.mem_cons,List.not_mem_nil,or_false] at hx
      rcases hx with rfl | rfl | rfl | rfl | rfl | rfl | rfl
      · exact .inl rfl
      · exact .inr ⟨rfl,rfl⟩
      all_goals exact .inl rfl
    have R0:Room A 0:=R.zero
    have R1:Room A 1:=R.less (by lia)
    have R2:Room A 2:=R.less (by lia)
    have R3:Room A 3:=R.less (by lia)
    have two:2≤sizeLine:=by decide
    have hS:∀ b∈ownS (callEnvC fWalk.1 L 195)++doms [(row,Mut.acc 151 dx ((pile texts gone).map D.ss)),(e,Mut.lst (es.map T1.D.e3))],b∈ownS (callEnvC fWalk.1 L 195)++X:=fun b hb=>(List.mem_append.mp hb).elim (fun h=>List.mem_append_left _ h) fun h=>List.mem_append_right _ (hm b h).1
    have hdS:∀ b∈doms [(row,Mut.acc 151 dx ((pile texts gone).map D.ss)),(e,Mut.lst (es.map T1.D.e3))],b∈ownS (callEnvC fWalk.1 L 195)++doms [(row,Mut.acc 151 dx ((pile texts gone).map D.ss)),(e,Mut.lst (es.map T1.D.e3))]:=fun b hb=>List.mem_append_right _ hb
    have hpl:=pile_len texts gone
    have cnt:FnM C 1 (.ref 148) [.val (.ref row)] [(row,.acc 151 dx ((pile texts gone).map D.ss))] (D.n gone.length) [(row,.acc 151 dx ((pile texts gone).map D.ss))]:=by
      have:=fn_count H row dx ((pile texts gone).map D.ss)
      rwa [List.length_map,hpl] at this
    have hsm:∀ p∈pile texts gone,p.1.length≤100∧p.2.length≤100:=fun p hp=>by
      obtain ⟨x,hx,rfl⟩:=List.mem_map.mp hp
      exact T.small _ (tx_mem (by rw [T.five];exact hg5 x hx))
    have htl:=text_small hsm
    have hlo:=lenOf_text (pile texts gone)
    refine Ex.assignM 7 (d:=D.n gone.length) (μ':=[(row,.acc 151 dx ((pile texts gone).map D.ss)),(e,.lst (es.map T1.D.e3))]) rfl (.l rfl (.head _)) (EvM.own0 (μ₀:=[(row,.acc 151 dx ((pile texts gone).map D.ss))]) (μ₁:=[(row,.acc 151 dx ((pile texts gone).map D.ss))]) [] [(e,.lst (es.map T1.D.e3))] R1 (Ev.name 0 rfl rfl) (.head _) rfl (by rw [hK];exact (accOk P).ok) (by rw [hK];exact mCount P) (by decide) cnt rfl) hdS ?_
    refine Ex.ite (c := true) ((by have e : true = decide (gone.length = 5) := by rw [decide_eq_true (by lia)]
                                   rw [e];exact EvT.cmp R0 (Ev.name 7 rfl rfl) (Ev.int (i:=5)) (Cmp.eqN (b:=5)))) (fun _=>?_) (fun h=>nomatch h)
    refine Ex.assignB 8 (d:=.s (textOf (pile texts gone))) rfl (.l rfl (.head _)) ((EvB.join (ls:=(pile texts gone).map fun p=>p.1++p.2) R0 ((EvN.comp D.n gone (fun _=>true) (fun x=>D.s ((tx texts x).1++(tx texts x).2)) [(1,"texts")] R0 (by rfl) (Ev.name 3 rfl rfl) Src.lst (by lia) (fun X' L' x hx=>⟨EvIfs.nil,fun _=>?_⟩)).ev.as (by rw [filter_yes];simp [pile,List.map_map,Function.comp_def])) (by have htl':((pile texts gone).map fun p=>p.1++p.2).flatten.length≤200*(pile texts gone).length:=htl;rw [List.length_map];lia)).as rfl) ?_
    · have hx5:=hg5 x hx
      have hxs:=T.small _ (tx_mem (texts:=texts) (x:=x) (by rw [T.five];exact hx5))
      have it:∀ {g:G} {ρ':List (Option D)} {μ':List (Addr × Mut)} {p q:Pos} {a:Expr} {n:Str},Room g.A 0→Ev g ρ' μ' a (.lst (texts.map D.ss))→Ev g ρ' μ' (.Name n q) (D.n x)→Ev g ρ' μ' (.Subscript a (.Name n q) p) (D.ss (tx texts x)):=fun R ha hb=>Ev.itemL R ha hb (by lia) (getDm texts D.ss ([],[]) (by have:=T.five;lia)) (by rw [List.length_map];have:=T.five;lia)
      exact Ev.bin R0 (Ev.itemT (ds:=[.s (tx texts x).1,.s (tx texts x).2]) (d:=.s (tx texts x).1) R0 (it R0 (Ev.name 1 rfl rfl) (Ev.name 0 rfl rfl)) Ev.int (by decide) rfl two) (Ev.itemT (ds:=[.s (tx texts x).1,.s (tx texts x).2]) (d:=.s (tx texts x).2) R0 (it R0 (Ev.name 1 rfl rfl) (Ev.name 0 rfl rfl)) Ev.int (by decide) rfl two) (Bin.addS (by lia))
    have strC:=fn_str H row dx (pile texts gone) (fun p hp=>by have:=hsm p hp;lia) (by lia)
    have lenC:=fn_len H row dx (pile texts gone) (fun p hp=>by have:=hsm p hp;lia)
    rw [hlo] at lenC
    refine Ex.appendM (p:=[(row,.acc 151 dx ((pile texts gone).map D.ss))]) (q:=[]) (p':=[(row,.acc 151 dx ((pile texts gone).map D.ss))]) (q':=[]) (c:=e) (ds:=es.map T1.D.e3) (ds':=es.map T1.D.e3) (d:=T1.D.e3 (f0,f1,true)) rfl (Ev.name 6 rfl rfl) hdS (EvM.tup (EvLM.cons (Ev.itemN (l:=[f0,f1]) (k:=0) R0 (Ev.name 5 rfl rfl) (Ev.int (i:=0)) rfl two).M (EvLM.cons (Ev.itemN (l:=[f0,f1]) (k:=1) R0 (Ev.name 5 rfl rfl) (Ev.int (i:=1)) rfl two).M (EvLM.cons (EvM.and (EvAndM.same (p:=true) (q:=true) ?_ (fun _=>EvAndM.one ?_) rfl)) EvLM.nil))) (by show 3≤_;decide)) (by rw [List.length_map];lia) ?_
    · exact (EvM.cmp (x:=.s (textOf (pile texts gone))) (y:=.s (textOf (pile texts gone))) R0 (EvM.str (μ₀:=[(row,.acc 151 dx ((pile texts gone).map D.ss))]) (μ₁:=[(row,.acc 151 dx ((pile texts gone).map D.ss))]) [] [(e,.lst (es.map T1.D.e3))] R3 (Ev.bltn g3 rfl rfl) (Ev.name 0 rfl rfl) (.head _) rfl (by rw [hK];exact strOk P) strC rfl) (Ev.name 8 rfl rfl) (Cmp.eqs _ _)).as (by simp)
    · exact (EvM.cmp (x:=D.n (textOf (pile texts gone)).length) (y:=D.n (textOf (pile texts gone)).length) R0 (EvM.len (key:="_initial_size") (μ₀:=[(row,.acc 151 dx ((pile texts gone).map D.ss))]) (μ₁:=[(row,.acc 151 dx ((pile texts gone).map D.ss))]) [] [(e,.lst (es.map T1.D.e3))] R2 (Ev.bltn g2 rfl rfl) (Ev.name 0 rfl rfl) (.head _) rfl (by rw [hK];exact lenOk P) lenC rfl (by lia) (by lia)) (Ev.callB (ds:=[.s (textOf (pile texts gone))]) R0 (Ev.bltn g2 rfl rfl) (EvL.cons (Ev.name 8 rfl rfl) EvL.nil) (Bi.lenS (by lia))) Cmp.eqN).as (by simp)
    · have e2:(es.map T1.D.e3)++[T1.D.e3 (f0,f1,true)]=(es++walk texts homes 0 gone waits f0 f1).map T1.D.e3:=by rw [List.map_append];rfl
      rw [e2]
      exact Ex.ret0 fun s y=>⟨.val _,y.muts⟩
  | succ n ih =>
    intro gone waits f0 f1 es hg hg5 hw hes
    have hih:=ih
    obtain ⟨P,hK⟩:=H.K
    obtain ⟨oc,od,osl,ho⟩:=fWalk.2 P
    have sz:sizeLine=16777216:=rfl
    have g1:C.mg "range"=none:=H.noGlob fun P=>by rfl
    have g2:C.mg "list"=none:=H.noGlob fun P=>by rfl
    have g3:C.mg "_strcoll"=some (.ref 162):=H.glob fun P=>by rfl
    have g4:C.mg "_strxfrm"=some (.ref 169):=H.glob fun P=>by rfl
    have g5:C.mg "_law_walk"=some (.ref 195):=H.glob fun P=>by rfl
    rw [← Nat.add_assoc]
    refine FnM.intro (fd:=fWalk.1) ["row","texts","homes","gone","waits","falls","ends"] ["place","whole","last","x","more","still"] 6 (by rw [hK];exact ho) (by rw [hK];rfl) rfl rfl rfl rfl (fun vals hv=>?_) rfl (by decide) (fun n x hx=>?_) (by decide) (fun A X L R hm=>?_)
    · obtain ⟨a,b,c,d,e,f,g,rfl⟩:=len7 hv;rfl
    · simp only [List.mem_cons,List.not_mem_nil,or_false] at hx
      rcases hx with rfl | rfl | rfl | rfl | rfl | rfl | rfl
      · exact .inl rfl
      · exact .inr ⟨rfl,rfl⟩
      all_goals exact .inl rfl
    have R0:Room A 0:=R.zero
    have R1:Room A 1:=R.less (by lia)
    have R2:Room A 2:=R.less (by lia)
    have two:2≤sizeLine:=by decide
    have hgl:gone.length < 5:=by lia
    have h5n:5 ^ (n+1)=5*5 ^ n:=by rw [Nat.pow_succ,Nat.mul_comm]
    have h5p:1≤5 ^ n:=Nat.pow_pos (by decide)
    have hdm:∀ (a b:List D),doms [(row,Mut.acc 151 dx a),(e,Mut.lst b)]=[row,dx,e]:=fun a b=>rfl
    have hS:∀ b∈ownS (callEnvC fWalk.1 L 195)++doms [(row,Mut.acc 151 dx ((pile texts gone).map D.ss)),(e,Mut.lst (es.map T1.D.e3))],b∈ownS (callEnvC fWalk.1 L 195)++X:=fun b hb=>(List.mem_append.mp hb).elim (fun h=>List.mem_append_left _ h) fun h=>List.mem_append_right _ (hm b h).1
    have hdS:∀ (a b:List D),∀ z∈doms [(row,Mut.acc 151 dx a),(e,Mut.lst b)],z∈ownS (callEnvC fWalk.1 L 195)++doms [(row,Mut.acc 151 dx ((pile texts gone).map D.ss)),(e,Mut.lst (es.map T1.D.e3))]:=fun a b z hz=>List.mem_append_right _ hz
    have hloc:(callEnvC fWalk.1 L 195).locals∈ownS (callEnvC fWalk.1 L 195)++doms [(row,Mut.acc 151 dx ((pile texts gone).map D.ss)),(e,Mut.lst (es.map T1.D.e3))]:=.head _
    have hpl:=pile_len texts gone
    have cnt:FnM C 1 (.ref 148) [.val (.ref row)] [(row,.acc 151 dx ((pile texts gone).map D.ss))] (D.n gone.length) [(row,.acc 151 dx ((pile texts gone).map D.ss))]:=by
      have:=fn_count H row dx ((pile texts gone).map D.ss)
      rwa [List.length_map,hpl] at this
    have popC:∀ zs:List Pc,zs.length≤900→FnM C 2 (.ref 111) [.val (.ref row)] [(row,.acc 151 dx (zs.map D.ss))] (D.ss (T1.top zs)) [(row,.acc 151 dx (zs.dropLast.map D.ss))]:=fun zs hz=>by
      have:=fn_pop H row dx (zs.map D.ss) (by rw [List.length_map];lia)
      rwa [T1.top_D,← List.map_dropLast] at this
    have pushC:∀ (zs:List Pc) (p:Pc),zs.length < 1000→FnM C 1 (.ref 95) [.val (.ref row),.s p.1,.s p.2] [(row,.acc 151 dx (zs.map D.ss))] D.nil [(row,.acc 151 dx ((zs++[p]).map D.ss))]:=fun zs p hz=>by
      have:=fn_push H row dx (zs.map D.ss) p.1 p.2 (by rw [List.length_map];lia)
      rwa [show zs.map D.ss++[D.ss (p.1,p.2)]=(zs++[p]).map D.ss by rw [List.map_append];rfl] at this
    have xs5:∀ x,x < 5→(tx texts x).1.length≤100∧(tx texts x).2.length≤100:=fun x hx=>T.small _ (tx_mem (by rw [T.five];exact hx))
    refine Ex.assignM 7 (d:=D.n gone.length) (μ':=[(row,.acc 151 dx ((pile texts gone).map D.ss)),(e,.lst (es.map T1.D.e3))]) rfl (.l rfl hloc) (EvM.own0 (μ₀:=[(row,.acc 151 dx ((pile texts gone).map D.ss))]) (μ₁:=[(row,.acc 151 dx ((pile texts gone).map D.ss))]) [] [(e,.lst (es.map T1.D.e3))] R1 (Ev.name 0 rfl rfl) (.head _) rfl (by rw [hK];exact (accOk P).ok) (by rw [hK];exact mCount P) (by decide) cnt rfl) (hdS _ _) ?_
    refine Ex.ite (c := false) ((by have e : false = decide (gone.length = 5) := by rw [decide_eq_false (by lia)]
                                    rw [e];exact EvT.cmp R0 (Ev.name 7 rfl rfl) (Ev.int (i:=5)) (Cmp.eqN (b:=5)))) (fun h=>nomatch h) (fun _=>Ex.go ?_)
    refine Ex.assignM 9 (d:=D.ss (T1.top (pile texts gone))) (μ':=[(row,.acc 151 dx ((pile texts gone).dropLast.map D.ss)),(e,.lst (es.map T1.D.e3))]) rfl (.l rfl hloc) (EvM.own0 (μ₀:=[(row,.acc 151 dx ((pile texts gone).map D.ss))]) (μ₁:=[(row,.acc 151 dx ((pile texts gone).dropLast.map D.ss))]) [] [(e,.lst (es.map T1.D.e3))] R2 (Ev.name 0 rfl rfl) (.head _) rfl (by rw [hK];exact (accOk P).ok) (by rw [hK];exact mPop P) (by decide) (popC _ (by lia)) rfl) (hdS _ _) ?_
    have hback:decide (0 < gone.length)=true→(pile texts gone).dropLast++[T1.top (pile texts gone)]=pile texts gone:=fun h=>by
      have h:=of_decide_eq_true h
      rcases List.eq_nil_or_concat (pile texts gone) with q | ⟨ys,p,q⟩
      · rw [q] at hpl;simp at hpl;lia
      · rw [q];simp [T1.top]
    have hback0:decide (0 < gone.length)=false→(pile texts gone).dropLast=pile texts gone:=fun h=>by
      have h:=of_decide_eq_false h
      have:gone=[]:=List.eq_nil_of_length_eq_zero (by lia)
      rw [this];rfl
    refine Ex.iteJ (c:=decide (0 < gone.length)) [some (.val (.ref row)),some (.lst (texts.map D.ss)),some (D.is homes),some (D.ns gone),some (D.is waits),some (D.ns [f0,f1]),some (.val (.ref e)),some (D.n gone.length),none,some (D.ss (T1.top (pile texts gone))),none,none,none] [(row,.acc 151 dx ((pile texts gone).map D.ss)),(e,.lst (es.map T1.D.e3))] (EvT.cmp R0 (Ev.name 7 rfl rfl) (Ev.int (i:=0)) (Cmp.gtN (b:=0))) (fun h=>?_) (fun h=>?_) ?_
    · refine Ex.exprM (EvM.own (μ₀:=[(row,.acc 151 dx ((pile texts gone).dropLast.map D.ss))]) (μ₁:=[(row,.acc 151 dx (((pile texts gone).dropLast++[T1.top (pile texts gone)]).map D.ss))]) [] [(e,.lst (es.map T1.D.e3))] R1 (Ev.name 0 rfl rfl) (.head _) rfl (by rw [hK];exact (accOk P).ok) (by rw [hK];exact mPush P) (by decide) (EvL.cons (Ev.itemT (d:=.s (T1.top (pile texts gone)).1) R0 (Ev.name 9 rfl rfl) Ev.int (by decide) rfl two) (EvL.cons (Ev.itemT (d:=.s (T1.top (pile texts gone)).2) R0 (Ev.name 9 rfl rfl) Ev.int (by decide) rfl two) EvL.nil)) (pushC _ _ (by rw [List.length_dropLast];lia)) rfl) (hdS _ _) (Ex.nil fun s y=>⟨rfl,?_⟩)
      rw [hback h] at y;exact y
    · exact Ex.nil fun s y=>⟨rfl,by rw [hback0 h] at y;exact y⟩
    refine Ex.forN 10 (d:=.rng 0 ((5:Nat):Int) 1) (ds:=(List.range 5).map D.n) R0 rfl (.l rfl hloc) hS (Ev.callB (ds:=[D.n 5]) R0 (Ev.bltn g1 rfl rfl) (EvL.cons (Ev.int (i:=5)) EvL.nil) Bi.range1) (upto _ (by lia))
      (fun k ρ μ=>∃ o10 o11 o12 es',es'=es++(List.range k).flatMap (T1.wstep texts homes n gone waits f0 f1)∧es'.length≤es.length+k*5 ^ n∧ρ=[some (.val (.ref row)),some (.lst (texts.map D.ss)),some (D.is homes),some (D.ns gone),some (D.is waits),some (D.ns [f0,f1]),some (.val (.ref e)),some (D.n gone.length),none,some (D.ss (T1.top (pile texts gone))),o10,o11,o12]∧μ=[(row,.acc 151 dx ((pile texts gone).map D.ss)),(e,.lst (es'.map T1.D.e3))]) (fun _ _=>False) ?_ ?_ ⟨_,_,_,es,by simp,by simp,rfl,rfl⟩ ?_ ?_ ?_
    · rintro i ρ μ ⟨_,_,_,_,_,_,_,rfl⟩;rfl
    · intro _ _ h;exact h.elim
    · rintro wr x d ρ μ hd ⟨o10,o11,o12,es',hes',hel,rfl,rfl⟩
      obtain ⟨hx,rfl⟩:=range_at hd
      obtain ⟨W,hW,hnew⟩:∃ W,W=es++(List.range (x+1)).flatMap (T1.wstep texts homes n gone waits f0 f1)∧W=es'++T1.wstep texts homes n gone waits f0 f1 x:=⟨_,rfl,by rw [List.range_succ,List.flatMap_append,← List.append_assoc,← hes',List.flatMap_singleton]⟩
      unfold T1.wstep at hnew
      have hxl:=xs5 x hx
      have hxm:(x+1)*5 ^ n=x*5 ^ n+5 ^ n:=Nat.succ_mul ..
      have hxm5:(x+1)*5 ^ n≤5*5 ^ n:=Nat.mul_le_mul_right _ hx
      have it:∀ {g:G} {ρ':List (Option D)} {μ':List (Addr × Mut)} {p q:Pos} {a:Expr} {n:Str},Room g.A 0→Ev g ρ' μ' a (.lst (texts.map D.ss))→Ev g ρ' μ' (.Name n q) (D.n x)→Ev g ρ' μ' (.Subscript a (.Name n q) p) (D.ss (tx texts x)):=fun R ha hb=>Ev.itemL R ha hb (by lia) (getDm texts D.ss ([],[]) (by have:=T.five;lia)) (by rw [List.length_map];have:=T.five;lia)
      refine fun s₀ y₀=>(?_:Ex _ _ _ _ _ _) s₀ y₀
      have y0pin:=y₀.inv.pin
      have y0L:=y₀.envOk.inX
      have y0own:=y₀.envOk.own
      have y0mX:=y₀.mX
      clear y₀
      refine Ex.ite (c:=able gone waits x) (EvT.and (EvAnd.cons (EvT.cmp R0 (Ev.name 10 rfl rfl) (Ev.name 3 rfl rfl) (Cmp.notInI Kd.nat (by decide) x gone _)) fun _=>EvAnd.cons (EvT.cmp R0 (Ev.itemL (d:=.int (waits.getD x 0)) (k:=((x:Nat):Int)) R0 (Ev.name 4 rfl rfl) (Ev.name 10 rfl rfl) (by lia) (getDm waits D.int 0 (by lia)) (by rw [List.length_map];lia)) (Ev.int (i:=0)) Cmp.eq) fun _=>EvAnd.nil)) (fun hab=>?_) (fun hab=>Ex.go (Ex.nil fun s y=>⟨_,_,⟨_,_,_,es',(by rw [← hW,hnew,if_neg (by rw [hab];decide)];exact (List.append_nil _).symm),by lia,rfl,rfl⟩,y⟩))
      rw [if_pos hab] at hnew
      have hng:x∉gone:=by
        simp only [able,Bool.and_eq_true,decide_eq_true_eq] at hab;exact hab.1
      have hSX:∀ b∈ownS (callEnvC fWalk.1 L 195)++doms [(row,Mut.acc 151 dx ((pile texts gone).map D.ss)),(e,Mut.lst (es.map T1.D.e3))],b∈wr++(ownS (callEnvC fWalk.1 L 195)++X):=fun b hb=>List.mem_append_right _ (hS b hb)
      generalize hF0:(if down0 gone.length (T1.top (pile texts gone)) (tx texts x)=true then f0+gone.length else f0)=F0 at hnew
      generalize hF1:(if down1 gone.length (T1.top (pile texts gone)) (tx texts x)=true then f1+gone.length else f1)=F1 at hnew
      refine Ex.assignN 11 (ds:=[f0,f1].map D.n) rfl (.l rfl hloc) (EvN.listOf R0 (Ev.bltn g2 rfl rfl) (Ev.name 5 rfl rfl) two) (fun mo hmoX hmoS=>?_) hSX
      have hdm1:∀ (a:List D) (b:List D) (c:List D),∀ z∈doms [(mo,Mut.lst a),(row,Mut.acc 151 dx b),(e,Mut.lst c)],z∈mo::(ownS (callEnvC fWalk.1 L 195)++doms [(row,Mut.acc 151 dx ((pile texts gone).map D.ss)),(e,Mut.lst (es.map T1.D.e3))]):=fun a b c z hz=>by
        rcases List.mem_cons.mp (show z∈mo::[row,dx,e] from hz) with rfl | q
        · exact .head _
        · exact .tail _ (List.mem_append_right _ q)
      refine Ex.iteJ (c:=down0 gone.length (T1.top (pile texts gone)) (tx texts x)) [some (.val (.ref row)),some (.lst (texts.map D.ss)),some (D.is homes),some (D.ns gone),some (D.is waits),some (D.ns [f0,f1]),some (.val (.ref e)),some (D.n gone.length),none,some (D.ss (T1.top (pile texts gone))),some (D.n x),some (.val (.ref mo)),o12] [(mo,.lst ([F0,f1].map D.n)),(row,.acc 151 dx ((pile texts gone).map D.ss)),(e,.lst (es'.map T1.D.e3))]
        (EvT.and (EvAnd.cons (EvT.cmp R0 (Ev.name 7 rfl rfl) (Ev.int (i:=0)) (Cmp.gtN (b:=0))) fun _=>EvAnd.cons (EvT.cmp R0 (Ev.call (ds:=[.s (T1.top (pile texts gone)).2,.s (tx texts x).2]) R1 (Ev.glob g3 rfl) (by show keepIn C.K _=true;rw [hK];rfl) (EvL.cons (Ev.itemT (d:=.s (T1.top (pile texts gone)).2) R0 (Ev.name 9 rfl rfl) Ev.int (by decide) rfl two) (EvL.cons (Ev.itemT (ds:=[.s (tx texts x).1,.s (tx texts x).2]) (d:=.s (tx texts x).2) R0 (it R0 (Ev.name 1 rfl rfl) (Ev.name 10 rfl rfl)) Ev.int (by decide) rfl two) EvL.nil)) (Fn.of_M (fn_coll H _ _))) (Ev.int (i:=1)) Cmp.eq) fun _=>EvAnd.nil)) (fun h=>?_) (fun h=>?_) ?_
      · rw [if_pos h] at hF0
        refine Ex.augItem (p:=[]) (c:=mo) (k:=0) (a:=D.n f0) (b:=D.n gone.length) (d:=D.n F0) R0 (Ev.name 11 rfl rfl) (Ev.int (i:=0)) (by decide) rfl two (Ev.name 7 rfl rfl) (by rw [← hF0];exact Inp.add) (hdm1 _ _ _) (Ex.nil fun s y=>⟨rfl,y⟩)
      · rw [if_neg (by rw [h];decide)] at hF0
        exact Ex.nil fun s y=>⟨rfl,by rw [← hF0];exact y⟩
      refine Ex.iteJ (c:=down1 gone.length (T1.top (pile texts gone)) (tx texts x)) [some (.val (.ref row)),some (.lst (texts.map D.ss)),some (D.is homes),some (D.ns gone),some (D.is waits),some (D.ns [f0,f1]),some (.val (.ref e)),some (D.n gone.length),none,some (D.ss (T1.top (pile texts gone))),some (D.n x),some (.val (.ref mo)),o12] [(mo,.lst ([F0,F1].map D.n)),(row,.acc 151 dx ((pile texts gone).map D.ss)),(e,.lst (es'.map T1.D.e3))]
        (EvT.and (EvAnd.cons (EvT.cmp R0 (Ev.name 7 rfl rfl) (Ev.int (i:=0)) (Cmp.gtN (b:=0))) fun _=>EvAnd.cons (EvT.cmp R0 (Ev.call (ds:=[.s (T1.top (pile texts gone)).1]) R1 (Ev.glob g4 rfl) (by show keepIn C.K _=true;rw [hK];rfl) (EvL.cons (Ev.itemT (d:=.s (T1.top (pile texts gone)).1) R0 (Ev.name 9 rfl rfl) Ev.int (by decide) rfl two) EvL.nil) (Fn.of_M (fn_xfrm H _))) (Ev.call (ds:=[.s (tx texts x).1]) R1 (Ev.glob g4 rfl) (by show keepIn C.K _=true;rw [hK];rfl) (EvL.cons (Ev.itemT (ds:=[.s (tx texts x).1,.s (tx texts x).2]) (d:=.s (tx texts x).1) R0 (it R0 (Ev.name 1 rfl rfl) (Ev.name 10 rfl rfl)) Ev.int (by decide) rfl two) EvL.nil) (Fn.of_M (fn_xfrm H _))) (Cmp.gts _ _)) fun _=>EvAnd.nil)) (fun h=>?_) (fun h=>?_) ?_
      · rw [if_pos h] at hF1
        refine Ex.augItem (p:=[]) (c:=mo) (k:=1) (a:=D.n f1) (b:=D.n gone.length) (d:=D.n F1) R0 (Ev.name 11 rfl rfl) (Ev.int (i:=1)) (by decide) rfl two (Ev.name 7 rfl rfl) (by rw [← hF1];exact Inp.add) (hdm1 _ _ _) (Ex.nil fun s y=>⟨rfl,y⟩)
      · rw [if_neg (by rw [h];decide)] at hF1
        exact Ex.nil fun s y=>⟨rfl,by rw [← hF1];exact y⟩
      refine Ex.freezeS (p:=[]) (q:=[(row,.acc 151 dx ((pile texts gone).map D.ss)),(e,.lst (es'.map T1.D.e3))]) 11 rfl hmoS (fun b hb=>.tail _ (hSX b hb)) fun X₁ hS₁ hX₁=>?_
      have hX₁:∀ b∈wr++(ownS (callEnvC fWalk.1 L 195)++X),b∈X₁:=fun b hb=>hX₁ b (.tail _ hb) fun q=>hmoX (q ▸ hb)
      refine Ex.assignN 12 (ds:=waits.map D.int) rfl (.l rfl hloc) (EvN.listOf R0 (Ev.bltn g2 rfl rfl) (Ev.name 4 rfl rfl) (by rw [List.length_map];lia)) (fun st hstX hstS=>?_) hS₁
      have hhx:homes.getD x 0 < 5:=by
        rw [List.getD_eq_getElem?_getD,List.getElem?_eq_getElem (by have:=T.hfive;lia)];exact T.hlt _ (List.getElem_mem _)
      have hsl:=still_len homes waits x
      have hst:T1.still homes waits x=if decide (0≤homes.getD x 0)=true then waits.set (homes.getD x 0).toNat (waits.getD (homes.getD x 0).toNat 0 - 1) else waits:=rfl
      generalize T1.still homes waits x=wt at *
      refine Ex.iteJ (c:=decide (0≤homes.getD x 0)) [some (.val (.ref row)),some (.lst (texts.map D.ss)),some (D.is homes),some (D.ns gone),some (D.is waits),some (D.ns [f0,f1]),some (.val (.ref e)),some (D.n gone.length),none,some (D.ss (T1.top (pile texts gone))),some (D.n x),some (D.ns [F0,F1]),some (.val (.ref st))] [(st,.lst (wt.map D.int)),(row,.acc 151 dx ((pile texts gone).map D.ss)),(e,.lst (es'.map T1.D.e3))]
        (EvT.cmp R0 (Ev.itemL (d:=.int (homes.getD x 0)) (k:=((x:Nat):Int)) R0 (Ev.name 2 rfl rfl) (Ev.name 10 rfl rfl) (by lia) (getDm homes D.int 0 (by have:=T.hfive;lia)) (by rw [List.length_map];have:=T.hfive;lia)) (Ev.int (i:=0)) Cmp.ge) (fun h=>?_) (fun h=>?_) ?_
      · rw [if_pos h] at hst
        have h:=of_decide_eq_true h
        refine Ex.augItem (p:=[]) (c:=st) (k:=homes.getD x 0) (a:=.int (waits.getD (homes.getD x 0).toNat 0)) (b:=.int 1) (d:=.int (waits.getD (homes.getD x 0).toNat 0 - 1)) R0 (Ev.name 12 rfl rfl) (Ev.itemL (d:=.int (homes.getD x 0)) (k:=((x:Nat):Int)) R0 (Ev.name 2 rfl rfl) (Ev.name 10 rfl rfl) (by lia) (getDm homes D.int 0 (by have:=T.hfive;lia)) (by rw [List.length_map];have:=T.hfive;lia)) h ?_ (by rw [List.length_map];lia) Ev.int Inp.minus ?_ (Ex.nil fun s y=>⟨rfl,?_⟩)
        · exact getDm waits D.int 0 (k:=(homes.getD x 0).toNat) (by lia)
        · intro z hz
          rcases List.mem_cons.mp (show z∈st::[row,dx,e] from hz) with rfl | q
          · exact .head _
          · exact .tail _ (List.mem_append_right _ q)
        · rw [hst,List.map_set];exact y
      · rw [if_neg (by rw [h];decide)] at hst
        exact Ex.nil fun s y=>⟨rfl,by rw [hst];exact y⟩
      refine Ex.freezeS (p:=[]) (q:=[(row,.acc 151 dx ((pile texts gone).map D.ss)),(e,.lst (es'.map T1.D.e3))]) 12 rfl hstS (fun b hb=>.tail _ (hS₁ b hb)) fun X₂ hS₂ hX₂=>?_
      have hX₂:∀ b∈wr++(ownS (callEnvC fWalk.1 L 195)++X),b∈X₂:=fun b hb=>hX₂ b (.tail _ (hX₁ b hb)) fun q=>hstX (q ▸ hX₁ b hb)
      refine Ex.exprM (μ':=[(row,.acc 151 dx ((pile texts (gone++[x])).map D.ss)),(e,.lst (es'.map T1.D.e3))]) (EvM.own (μ₀:=[(row,.acc 151 dx ((pile texts gone).map D.ss))]) (μ₁:=[(row,.acc 151 dx ((pile texts (gone++[x])).map D.ss))]) [] [(e,.lst (es'.map T1.D.e3))] R1 (Ev.name 0 rfl rfl) (.head _) rfl (by show ClsOk C.K _;rw [hK];exact (accOk P).ok) (by show MethOk C.K _ _ _;rw [hK];exact mPush P) (by decide) (EvL.cons (Ev.itemT (ds:=[.s (tx texts x).1,.s (tx texts x).2]) (d:=.s (tx texts x).1) R0 (it R0 (Ev.name 1 rfl rfl) (Ev.name 10 rfl rfl)) Ev.int (by decide) rfl two) (EvL.cons (Ev.itemT (ds:=[.s (tx texts x).1,.s (tx texts x).2]) (d:=.s (tx texts x).2) R0 (it R0 (Ev.name 1 rfl rfl) (Ev.name 10 rfl rfl)) Ev.int (by decide) rfl two) EvL.nil)) (by rw [pile_snoc];exact pushC _ _ (by lia)) rfl) (hdS _ _) ?_
      have hrec:=hih (gone++[x]) wt F0 F1 es' (by rw [List.length_append,List.length_singleton];lia) (fun z hz=>(List.mem_append.mp hz).elim (hg5 z) fun q=>by rw [List.mem_singleton.mp q];exact hx) (hsl.trans hw) (by lia)
      have hwl:=walk_len texts homes n (gone++[x]) wt F0 F1
      generalize walk texts homes n (gone++[x]) wt F0 F1=wk at *
      refine Ex.exprM (μ':=[(row,.acc 151 dx ((pile texts (gone++[x])).map D.ss)),(e,.lst ((es'++wk).map T1.D.e3))]) (EvM.call (ds:=[.val (.ref row),.lst (texts.map D.ss),D.is homes,D.ns (gone++[x]),D.is wt,D.ns [F0,F1],.val (.ref e)]) (μ₀:=[(row,.acc 151 dx ((pile texts (gone++[x])).map D.ss)),(e,.lst (es'.map T1.D.e3))]) (μ₁:=[(row,.acc 151 dx ((pile texts (gone++[x])).map D.ss)),(e,.lst ((es'++wk).map T1.D.e3))]) [] [] R (Ev.glob g5 rfl) (by show keepIn C.K _=true;rw [hK];rfl) (EvL.cons (Ev.name 0 rfl rfl) (EvL.cons (Ev.name 1 rfl rfl) (EvL.cons (Ev.name 2 rfl rfl) (EvL.cons (Ev.bin R0 (Ev.name 3 rfl rfl) (Ev.lst (ds:=[D.n x]) (EvL.cons (Ev.name 10 rfl rfl) EvL.nil) (by show 1≤_;decide)) (Bin.addNs (b:=[x]) (by show gone.length+1≤_;lia))) (EvL.cons (Ev.name 12 rfl rfl) (EvL.cons (Ev.name 11 rfl rfl) (EvL.cons (Ev.name 6 rfl rfl) EvL.nil))))))) hrec rfl) (hdS _ _) ?_
      have pop2:=popC (pile texts (gone++[x])) (by rw [pile_len,List.length_append,List.length_singleton];lia)
      have hpd:(pile texts (gone++[x])).dropLast=pile texts gone:=by rw [pile_snoc];simp
      rw [hpd] at pop2
      refine Ex.exprM (μ':=[(row,.acc 151 dx ((pile texts gone).map D.ss)),(e,.lst ((es'++wk).map T1.D.e3))]) (EvM.own0 (μ₀:=[(row,.acc 151 dx ((pile texts (gone++[x])).map D.ss))]) (μ₁:=[(row,.acc 151 dx ((pile texts gone).map D.ss))]) [] [(e,.lst ((es'++wk).map T1.D.e3))] R2 (Ev.name 0 rfl rfl) (.head _) rfl (by show ClsOk C.K _;rw [hK];exact (accOk P).ok) (by show MethOk C.K _ _ _;rw [hK];exact mPop P) (by decide) pop2 rfl) (hdS _ _) ?_
      refine Ex.on fun s y=>wpAny_execs_nil ⟨.refl ..,?_⟩
      have yn:=y.narrow (X':=wr++(ownS (callEnvC fWalk.1 L 195)++X)) hX₂ y0pin y0L y0own (fun a ha=>(y0mX a ha).1)
      exact ⟨_,_,⟨_,_,_,es'++wk,hnew.symm.trans hW,by rw [List.length_append];lia,rfl,rfl⟩,yn⟩
    · rintro ρ μ ⟨o10,o11,o12,es',hes',hel,rfl,rfl⟩
      have hl:((List.range 5).map D.n).length=5:=by simp
      rw [hl] at hes'
      subst hes'
      exact Ex.nil fun s y=>⟨.val _,y.muts⟩
    · intro _ _ h;exact h.elim
end Mine
end
section
open PySem PySem.Calls PySem.W PyProof.Rows
open Sem (wp)
namespace Mine
theorem compTurn_nest (elt t0 i0 t1 i1 : Expr) (f0 f1 : List Expr) (scope : Scope) (pos : Pos) (it acc : Value) (env : Env) :
    compTurn (.ListComp elt [⟨t0,i0,f0,0⟩,⟨t1,i1,f1,0⟩] scope pos) 0 it acc env=(do
      standAt i0.pos
      match ← pyNext it with
      | none=>pure (.done .next)
      | some v =>
        letOwnedTupleGo t0 it v
        assign t0 env v
        let mut ok:=true
        for c in f0 do
          if ok then ok ← isTrue c env (eval c env)
        if ok then
          let x ← eval i1 env
          standAt i1.pos
          let x ← foldedSetIterable i1 env x
          let _ ← runOwn (.compStart (.ListComp elt [⟨t0,i0,f0,0⟩,⟨t1,i1,f1,0⟩] scope pos) 1 (← holding [x] (pyIter x)) acc env) env
          again (.compLoop (.ListComp elt [⟨t0,i0,f0,0⟩,⟨t1,i1,f1,0⟩] scope pos) 0 it acc env)
        else again (.compLoop (.ListComp elt [⟨t0,i0,f0,0⟩,⟨t1,i1,f1,0⟩] scope pos) 0 it acc env)):=by rfl
theorem compTurn_in (elt t0 i0 t1 i1 : Expr) (f0 f1 : List Expr) (scope : Scope) (pos : Pos) (it acc : Value) (env : Env) :
    compTurn (.ListComp elt [⟨t0,i0,f0,0⟩,⟨t1,i1,f1,0⟩] scope pos) 1 it acc env=(do
      standAt i1.pos
      match ← pyNext it with
      | none=>pure (.done .next)
      | some v =>
        letOwnedTupleGo t1 it v
        assign t1 env v
        let mut ok:=true
        for c in f1 do
          if ok then ok ← isTrue c env (eval c env)
        if ok then
          (do let _ ← call (.builtin "list.append") [acc,← eval elt env])
        again (.compLoop (.ListComp elt [⟨t0,i0,f0,0⟩,⟨t1,i1,f1,0⟩] scope pos) 1 it acc env)):=by rfl
section
variable {prog:Program} {w:World} {A:Around} {E:Value→Shared→Prop} {R:Result→Shared→Prop} {s:Shared} {elt t0 i0 t1 i1:Expr} {f0 f1:List Expr} {scope:Scope} {pos:Pos} {it acc:Value} {env:Env}
theorem codeAny_compLoop_in (I : Nat → Shared → Prop)
    (turn:∀ n s,I n s→wpAny (model prog w) A (pyNext it) (fun r s₁=>match r with
      | none=>R (.ok .next) s₁
      | some v => wpAny (model prog w) A (assign t1 env v) (fun _ s₂ =>
          wpAny (model prog w) A (forIn f1 true fun c r=>if r=true then do let ok ← isTrue c env (eval c env);pure (ForInStep.yield ok) else pure (ForInStep.yield r)) (fun ok s₃ =>
            if ok=true then wpAny (model prog w) A (eval elt env) (fun x s₄ =>
              wpAny (model prog w) A (call (.builtin "list.append") [acc,x]) (fun _ s₅=>∃ m,m < n∧I m s₅) (notedBy (model prog w) A env fun e s'=>R (.error e) s') s₄) (notedBy (model prog w) A env fun e s'=>R (.error e) s') s₃
            else ∃ m,m < n∧I m s₃) (notedBy (model prog w) A env fun e s'=>R (.error e) s') s₂) (notedBy (model prog w) A env fun e s'=>R (.error e) s') s₁) (notedBy (model prog w) A env fun e s'=>R (.error e) s') s)
    (n:Nat) (h:I n s) (ht:∀ v,letOwnedTupleGo t1 it v=pure ()) :
    codeAny (model prog w) A (.compLoop (.ListComp elt [⟨t0,i0,f0,0⟩,⟨t1,i1,f1,0⟩] scope pos) 1 it acc env) R s:=by
  refine codeAny_loop rfl I (fun n s hI=>?_) n h
  show wpAny _ A ((compTurn (.ListComp elt [⟨t0,i0,f0,0⟩,⟨t1,i1,f1,0⟩] scope pos) 1 it acc env).onRaise (fun x=>do noteFrame x env;theTreesLotGoes x)) _ _ s
  refine wpAny_noted ?_
  rw [compTurn_in]
  refine wpAny_bind (wpAny_standAt (wpAny_bind (wpAny_mono (turn n s hI) (fun r s₁ h₁=>?_) fun _ _ h'=>h')))
  cases r with
  | none=>exact wpAny_pure h₁
  | some v =>
    refine wpAny_bind (wpAny_of_eq (ht v) ?_)
    refine wpAny_bind (wpAny_mono h₁ (fun _ s₂ h₂=>wpAny_bind (wpAny_mono h₂ (fun ok s₃ h₃=>?_) fun _ _ h'=>h')) fun _ _ h'=>h')
    cases ok with
    | false=>exact wpAny_pure ⟨rfl,h₃⟩
    | true =>
      exact wpAny_bind (wpAny_bind (wpAny_mono h₃ (fun x s₄ h₄=>wpAny_bind (wpAny_mono h₄ (fun _ s₅ h₅=>wpAny_pure (wpAny_pure ⟨rfl,h₅⟩)) fun _ _ h'=>h')) fun _ _ h'=>h'))
theorem codeAny_compStart_in
    (h0:codeAny (model prog w) A (.compLoop (.ListComp elt [⟨t0,i0,f0,0⟩,⟨t1,i1,f1,0⟩] scope pos) 1 it acc env) R s)
    (h:wpAny (model prog w) A (pyIter it) (fun it' s'=>codeAny (model prog w) A (.compLoop (.ListComp elt [⟨t0,i0,f0,0⟩,⟨t1,i1,f1,0⟩] scope pos) 1 it' acc env) R s')
      (notedBy (model prog w) A env fun x s'=>R (.error x) s') s) :
    codeAny (model prog w) A (.compStart (.ListComp elt [⟨t0,i0,f0,0⟩,⟨t1,i1,f1,0⟩] scope pos) 1 it acc env) R s:=by
  refine codeAny_of_tree ?_
  show wpAny _ _ ((compStart (.ListComp elt [⟨t0,i0,f0,0⟩,⟨t1,i1,f1,0⟩] scope pos) 1 it acc env).onRaise (fun x=>do noteFrame x env;standAt theWindowsPlace)) _ _ s
  refine wpAny_notedAt ?_
  unfold compStart
  show wpAny _ _ (ask >>= _) _ _ s
  refine wpAny_bind (wpAny_askSetting (wpAny_ite ?_))
  split
  · exact wpAny_pure (And.intro rfl h0)
  · exact wpAny_bind (wpAny_rule (wpAny_bind (wpAny_standAt (wpAny_bind (wpAny_mono h (fun it' s' h'=>wpAny_pure (And.intro rfl h')) fun _ _ x=>x)))))
theorem codeAny_compLoop_nest (I : Nat → Shared → Prop)
    (turn:∀ n s,I n s→wpAny (model prog w) A (pyNext it) (fun r s₁=>match r with
      | none=>R (.ok .next) s₁
      | some v => wpAny (model prog w) A (assign t0 env v) (fun _ s₂ => wpAny (model prog w) A (eval i1 env) (fun x s₃ => wpAny (model prog w) A (pyIter x) (fun it' s₄ =>
          codeAny (model prog w) A (.compStart (.ListComp elt [⟨t0,i0,[],0⟩,⟨t1,i1,f1,0⟩] scope pos) 1 it' acc env) (fun r s₅=>match r with
            | .ok f=>∃ m,m < n∧I m s₅
            | .error e=>cameBackBy (model prog w) A env (notedBy (model prog w) A env fun e s'=>R (.error e) s') e s₅) s₄)
          (notedBy (model prog w) A env fun e s'=>R (.error e) s') s₃) (notedBy (model prog w) A env fun e s'=>R (.error e) s') s₂) (notedBy (model prog w) A env fun e s'=>R (.error e) s') s₁) (notedBy (model prog w) A env fun e s'=>R (.error e) s') s)
    (n:Nat) (h:I n s) (ht:∀ v,letOwnedTupleGo t0 it v=pure ()) (hs:∀ x,foldedSetIterable i1 env x=pure x) :
    codeAny (model prog w) A (.compLoop (.ListComp elt [⟨t0,i0,[],0⟩,⟨t1,i1,f1,0⟩] scope pos) 0 it acc env) R s:=by
  refine codeAny_loop rfl I (fun n s hI=>?_) n h
  show wpAny _ A ((compTurn (.ListComp elt [⟨t0,i0,[],0⟩,⟨t1,i1,f1,0⟩] scope pos) 0 it acc env).onRaise (fun x=>do noteFrame x env;theTreesLotGoes x)) _ _ s
  refine wpAny_noted ?_
  rw [compTurn_nest]
  refine wpAny_bind (wpAny_standAt (wpAny_bind (wpAny_mono (turn n s hI) (fun r s₁ h₁=>?_) fun _ _ h'=>h')))
  cases r with
  | none=>exact wpAny_pure h₁
  | some v =>
    refine wpAny_bind (wpAny_of_eq (ht v) ?_)
    refine wpAny_bind (wpAny_mono h₁ (fun _ s₂ h₂=>wpAny_bind (wpAny_pure ?_)) fun _ _ h'=>h')
    refine wpAny_bind (wpAny_mono h₂ (fun x s₃ h₃=>wpAny_bind (wpAny_standAt (wpAny_bind (wpAny_of_eq (hs x) (wpAny_bind (wpAny_holding (wpAny_mono h₃ (fun it' s₄ h₄=>?_) fun _ _ h'=>h'))))))) fun _ _ h'=>h')
    exact wpAny_bind (wpAny_runOwn (codeAny_mono h₄ fun r s₅ h₅=>by
      cases r with
      | ok f=>exact wpAny_pure ⟨rfl,h₅⟩
      | error e=>exact h₅))
end
end Mine
end
section
open PySem PySem.Calls PySem.W PyProof.Rows
set_option maxHeartbeats 4000000
namespace Mine
section
variable {g:G} {ρ:List (Option D)} {μ:List (Addr × Mut)} {S:List Addr} {s:Shared}
theorem get_set {ρ:List (Option D)} {j:Nat} {o:Option D} {i:Nat} {d:D} (h:(ρ.set j none)[i]?=some (some d)):(ρ.set j o)[i]?=some (some d):=by
  by_cases e:j=i
  · subst e
    by_cases l:j < ρ.length
    · rw [List.getElem?_set_self l] at h;cases h
    · rw [List.getElem?_eq_none (by rw [List.length_set];exact Nat.le_of_not_lt l)] at h;cases h
  · rw [List.getElem?_set_ne e] at h ⊢;exact h
theorem get_set0 {ρ:List (Option D)} {j i:Nat} {d:D} (h:(ρ.set j none)[i]?=some (some d)):ρ[i]?=some (some d):=by
  by_cases e:j=i
  · subst e
    by_cases l:j < ρ.length
    · rw [List.getElem?_set_self l] at h;cases h
    · rw [List.getElem?_eq_none (by rw [List.length_set];exact Nat.le_of_not_lt l)] at h;cases h
  · rwa [List.getElem?_set_ne e] at h
theorem in_core {elt t0 i0 i1 : Expr} {f0 : List Expr} {x : Str} {px : Pos} {scope : Scope} {pos : Pos} {Dd : Addr} {d : D} {ds fs es : List D} {vs : List Value} {nn : Nat} {v : Value} (j : Nat) (h1 : g.ns[j]? = some x) (hk : Stored g S x) (hS : ∀ a ∈ S, a ∈ g.X)
    (hDX:Dd∈g.X) (hDS:Dd∉S) (hDP:Dd∉g.C.P) (hDμ:Dd∉doms μ) (hDL:Dd≠g.env.locals) (hDc:∀ z c,g.env.cells.lookup z=some c→Dd≠c) (R:Room g.A 0) (src:Src d ds) (y:St g ρ μ s) (r:Rep g.X s.heap v d)
    (hacc:s.heap.get? Dd=some (lstO vs nn)) (hrep:RepL g.X s.heap vs es) (hl:fs.length=ds.length) (hz:es.length+ds.length≤sizeLine)
    (body:∀ X',(∀ a∈g.X,a∈X')→∀ (k:Nat) b f,ds[k]?=some b→fs[k]?=some f→Ev { g with X:=X' } (ρ.set j (some b)) μ elt f)
    {Q:Flow→Shared→Prop} {E E':Value→Shared→Prop}
    (k:∀ t vs' nn',Ext g.C (S++[Dd]) s t→St g (ρ.set j none) μ t→t.heap.get? Dd=some (lstO vs' nn')→RepL g.X t.heap vs' (es++fs)→Q .next t) :
    wpAny g.C.M g.A (pyIter v) (fun it' s₄=>codeAny g.C.M g.A (.compStart (.ListComp elt [⟨t0,i0,f0,0⟩,⟨.Name x px,i1,[],0⟩] scope pos) 1 it' (.ref Dd) g.env) (fun r s₅=>match r with
      | .ok f=>Q f s₅
      | .error e=>E' e s₅) s₄) E s:=by
  refine src g.C g.A g.X s v _ _ y.inv R.h r fun I fp wr P W s₂ e₂ it w0=>?_
  have hwX:∀ a∈wr,a∉g.X:=fun a ha q=>by
    obtain ⟨o,e⟩:=y.inv.occ a q
    rw [it.new a ha] at e;cases e
  have hwP:∀ a∈wr,a∉g.C.P:=fun a ha q=>hwX a ha (y.inv.pin a q)
  have hwn:∀ a∈wr,g.C.hb.get? a=none:=fun a ha=>y.inv.hb_none (it.new a ha) (hwP a ha)
  have hwc:∀ a∈wr,∀ x c,g.env.cells.lookup x=some c→a≠c:=fun a ha x c hc e=>by
    obtain ⟨_,_,v,o,q,_⟩:=y.envOk.cel x c hc
    rw [← e,it.new a ha] at q;cases q
  have hSD:∀ a∈S++[Dd],a∈g.X:=fun a ha=>(List.mem_append.mp ha).elim (hS a) fun h=>(List.mem_singleton.mp h) ▸ hDX
  have hwS:∀ a∈wr,a∉S++[Dd]:=fun a ha q=>hwX a ha (hSD a q)
  have frame:∀ i (t t':Shared),Ext g.C (S++[Dd]) t t'→W i t.heap→W i t'.heap:=fun i t t' e w=>it.walk.frame i _ _ w fun b hb o q=>by
    rcases it.fpX b hb with hb' | ⟨hb',_⟩
    · exact e.keep b o (hwS b hb') (hwP b hb') q
    · exact e.keep b o (fun z=>hb' (hSD b z)) (fun z=>hb' (y.inv.pin b z)) q
  have y₂:St { g with X:=wr++g.X } (ρ.set j none) μ s₂:=(y.wide e₂ it.new (it.occ _ _ w0)).forget fun i d h=>get_set0 h
  have toS:∀ {t t':Shared},Ext g.C S t t'→Ext g.C (S++[Dd]) t t':=fun e=>e.wider fun b hb=>.inl (List.mem_append_left _ hb)
  have to0:∀ {t t':Shared},Ext g.C [] t t'→Ext g.C (S++[Dd]) t t':=fun e=>e.wider fun _ h=>nomatch h
  have hDw:Dd∉wr:=fun q=>hwX Dd q hDX
  have hμ':∀ a∈doms μ,a∈g.X:=fun a ha=>(y.mX a ha).1
  have hwall:∀ a∈wr,a∉g.X∧a∉g.C.P∧g.C.hb.get? a=none∧∀ x c,g.env.cells.lookup x=some c→a≠c:=fun a ha=>⟨hwX a ha,hwP a ha,hwn a ha,hwc a ha⟩
  have hpin:∀ p∈g.C.P,p∈wr++g.X:=fun p hp=>List.mem_append_right _ (y.inv.pin p hp)
  have hDX':Dd∈wr++g.X:=List.mem_append_right _ hDX
  have hacc₂:s₂.heap.get? Dd=some (lstO vs nn):=e₂.keep Dd _ (fun h=>nomatch h) hDP hacc
  have hrep₂:RepL (wr++g.X) s₂.heap vs es:=hrep.mono fun b o hb q=>⟨fun z=>(List.mem_append.mp z).elim (fun z=>by rw [it.new b z] at q;cases q) hb,e₂.keep b o (fun h=>nomatch h) (fun z=>hb (y.inv.pin b z)) q⟩
  have envg:∀ {ρ' t},St { g with X:=wr++g.X } ρ' μ t→EnvOk g.C g.X t.heap g.env:=fun yt =>
    ⟨yt.envOk.kind,yt.envOk.glob,yt.envOk.bi,yt.envOk.ns,y.envOk.inX,yt.envOk.lP,yt.envOk.cel,y.envOk.own,yt.envOk.inj⟩
  have loop : codeAny g.C.M g.A (.compLoop (.ListComp elt [⟨t0, i0, f0, 0⟩, ⟨.Name x px, i1, [], 0⟩] scope pos) 1 (.ref I) (.ref Dd) g.env) (fun r s₅ => match r with
      | .ok f=>Q f s₅
      | .error e=>E' e s₅) s₂:=by
    refine codeAny_compLoop_in (fun n t=>∃ i vs' nn',i≤ds.length∧n=ds.length+1 - i∧W i t.heap∧St { g with X:=wr++g.X } (ρ.set j none) μ t∧t.heap.get? Dd=some (lstO vs' nn')∧RepL (wr++g.X) t.heap vs' (es++fs.take i)∧Ext g.C (S++[Dd]) s t) ?_ (ds.length+1)
      ⟨0,vs,nn,Nat.zero_le _,rfl,w0,y₂,hacc₂,by rw [List.take_zero,List.append_nil];exact hrep₂,to0 e₂⟩ (fun _=>rfl)
    rintro n t ⟨i,vs',nn',hle,rfl,hw,yt,hat,hr,et⟩
    by_cases hlt:i < ds.length
    · refine it.walk.item i _ _ _ hlt hw fun v h' tk hP hw' hk'=>?_
      have et':Ext g.C (S++[Dd]) s { t with heap:=h',toks:=tk }:=et.iter hk' it.new hwn
      have y':St { g with X:=wr++g.X } (ρ.set j none) μ { t with heap:=h',toks:=tk }:=yt.iter hk' (fun _ h=>h) (fun _ h=>List.mem_append_right _ h) (fun a ha _=>it.occ _ _ hw' a ha) hwall hμ' (envg yt) y.inv.pin
      have hat':h'.get? Dd=some (lstO vs' nn'):=hk' Dd _ hDw hat
      have hr':RepL (wr++g.X) h' vs' (es++fs.take i):=hr.mono fun b o hb q=>⟨hb,hk' b o (fun z=>hb (List.mem_append_left _ z)) q⟩
      obtain ⟨a,ha,ra⟩:=it.item i v h' (fun b o hb q=>et'.keep b o (fun z=>hb (hSD b z)) (fun z=>hb (y.inv.pin b z)) q) hP
      have ra':Rep (wr++g.X) h' v a:=by
        obtain ⟨d',hd',rr⟩:=it.item i v s.heap (fun b o _ q=>q) hP
        rw [ha] at hd';cases hd'
        exact rr.mono fun b o hb q=>⟨fun z=>(List.mem_append.mp z).elim (fun z=>by rw [it.new b z] at q;cases q) hb,et'.keep b o (fun z=>hb (hSD b z)) (fun z=>hb (y.inv.pin b z)) q⟩
      obtain ⟨f,hf⟩:∃ f,fs[i]?=some f:=⟨_,List.getElem?_eq_getElem (by rw [hl];exact hlt)⟩
      refine (asg_name (p:=px) j h1 hk y' ra').use fun _ s₅ e₅ y₅=>?_
      have y₅':St { g with X:=wr++g.X } (ρ.set j (some a)) μ s₅:=by
        rw [List.set_set] at y₅;exact y₅
      have hD₅:s₅.heap.get? Dd=some (lstO vs' nn'):=e₅.keep Dd _ hDS hDP hat'
      have hr₅:=hr'.ext e₅ (fun b hb=>List.mem_append_right _ (hS b hb)) hpin
      refine wpAny_tests_nil ?_
      simp only [if_true]
      refine (body (wr++g.X) (fun _ h=>List.mem_append_right _ h) i a f ha hf).wp y₅' fun w s₇ y₇ r₇ e₇=>?_
      have hD₇:s₇.heap.get? Dd=some (lstO vs' nn'):=e₇.keep Dd _ (fun h=>nomatch h) hDP hD₅
      have hvs:vs'.length≤es.length+ds.length:=by
        rw [hr.length,List.length_append,List.length_take]
        exact Nat.add_le_add_left (Nat.le_trans (Nat.min_le_left _ _) hle) _
      refine wpAny_list_append_plain (items:=vs'.toArray) ⟨nn',hD₇⟩ (fun h₈ hp₈ hs₈=>?_) (by rw [List.size_toArray];exact Nat.le_trans hvs hz)
      obtain ⟨n₈,hp₈⟩:=hp₈
      have hp₈':h₈.get? Dd=some (lstO (vs'++[w]) n₈):=by rw [hp₈,List.push_toArray]
      obtain ⟨e₈,y₈⟩:=y₇.touch (tk:=s₇.toks) hs₈ hDX' hDP hDμ hDL hDc (fun o _=>⟨_,hp₈'⟩)
      have e₅₈:Ext g.C (S++[Dd]) { t with heap:=h',toks:=tk } { s₇ with heap:=h₈ }:=((toS e₅).trans (to0 e₇)).trans (e₈.wider fun b hb=>.inl (List.mem_append_right _ hb))
      refine ⟨ds.length+1 - (i+1),by lia,i+1,vs'++[w],n₈,hlt,rfl,frame _ _ _ e₅₈ hw',y₈.forget fun i d h=>get_set h,hp₈',?_,et'.trans e₅₈⟩
      have r8:=((hr₅.ext e₇ (fun _ h=>nomatch h) hpin).snoc r₇).ext e₈ (fun b hb=>by rw [List.mem_singleton.mp hb];exact hDX') hpin
      rw [List.take_add_one,hf,← List.append_assoc]
      exact r8
    · have hi':i=ds.length:=by lia
      subst hi'
      refine it.walk.done _ _ _ hw fun h' tk hk'=>?_
      have et':Ext g.C (S++[Dd]) s { t with heap:=h',toks:=tk }:=et.iter hk' it.new hwn
      have y':St g (ρ.set j none) μ { t with heap:=h',toks:=tk }:=yt.iter (X':=g.X) hk' (fun _ h=>List.mem_append_right _ h) (fun _ h=>h) (fun a ha q=>absurd q (hwX a ha)) hwall hμ' (envg yt) y.inv.pin
      rw [← hl,List.take_length] at hr
      exact k _ vs' nn' et' y' (hk' Dd _ hDw hat) (hr.mono fun b o hb q=>⟨fun z=>hb (List.mem_append_right _ z),hk' b o (fun z=>hb (List.mem_append_left _ z)) q⟩)
  exact codeAny_compStart_in loop (it.walk.self 0 _ _ _ w0 loop)
end
end Mine
end
section
open PySem PySem.Calls PySem.W PyProof.Rows
set_option maxHeartbeats 4000000
namespace Mine
section
variable {g:G} {ρ:List (Option D)} {μ:List (Addr × Mut)} {S:List Addr} {s:Shared}
noncomputable abbrev cG2 (g:G) (scope:Scope) (x x2:Str) (cs:List (Nat × Str)) (X':List Addr) (L:Addr):G:={ g with X:=X',env:=cEnv g.env scope L,ns:=[x,x2]++cs.map (·.2) }
theorem comp_core2 {α β : Type} {elt iter iter2 : Expr} {x x2 : Str} {px px2 : Pos} {scope : Scope} {pos : Pos} {use : Option (Value → Sem Unit)} {d : D} (mk : α → D) (xs : List α) (d2 : α → D) (mk2 : β → D) (ys : α → List β) (f : α → β → D) (N : Nat) (cs : List (Nat × Str))
    (R:Room g.A 0) (ok:compOk g.env g.ns scope [x,x2] cs=true) (hi:Ev g ρ μ iter d) (src:Src d (xs.map mk)) (hlen:xs.length*N≤sizeLine) (hN:∀ a∈xs,(ys a).length≤N)
    (src2:∀ a∈xs,Src (d2 a) ((ys a).map mk2))
    (body:∀ X' L,∀ a∈xs,(∀ o,Ev (cG2 g scope x x2 cs X' L) (some (mk a)::o::capD ρ cs) μ iter2 (d2 a))∧∀ b∈ys a,Ev (cG2 g scope x x2 cs X' L) (some (mk a)::some (mk2 b)::capD ρ cs) μ elt (f a b))
    {Q:Value→Shared→Prop} {E:Value→Shared→Prop} (y:St g ρ μ s)
    (hQ:∀ L Dd t,St { g with X:=L::g.X } ρ μ t→Ext g.C [] s t→s.heap.get? Dd=none→(∃ m,t.heap.Ns L m)→s.heap.get? L=none→(∃ vs nn,t.heap.get? Dd=some (lstO vs nn)∧RepL (Dd::L::g.X) t.heap vs (xs.flatMap fun a=>(ys a).map (f a)))→Dd∉L::g.X→compPost g.C.M g.A E use Q (.ref Dd) L (.ok .next) t)
    (hs:∀ x,foldedSetIterable iter g.env x=pure x:=by intro _;rfl) (hs2:∀ env x,foldedSetIterable iter2 env x=pure x:=by intro _ _;rfl) :
    wpAny g.C.M g.A (comprehension (.ListComp elt [⟨.Name x px,iter,[],0⟩,⟨.Name x2 px2,iter2,[],0⟩] scope pos) scope g.env (firstIterPos [⟨.Name x px,iter,[],0⟩,⟨.Name x2 px2,iter2,[],0⟩] pos) (newList []) false (eval iter g.env) use) Q E s:=by
  have ok':=ok
  simp only [compOk,Bool.and_eq_true,decide_eq_true_eq,beq_iff_eq,List.all_eq_true,List.contains_iff_mem,Bool.or_eq_true,bne_iff_ne,ne_eq] at ok'
  obtain ⟨⟨⟨⟨⟨k1,k2⟩,k3⟩,k4⟩,k5⟩,k6⟩:=ok'
  have hclos:=closureFor_is (scope:=scope) (env:=g.env) fun z hz hf=>((k5 z hz).resolve_left fun h=>h hf).1
  refine wpAny_comprehension_free (g:=⟨.Name x px,iter,[],0⟩) (gs:=[⟨.Name x2 px2,iter2,[],0⟩]) (use:=use) rfl hs hclos k1 (fun z hz hl=>lookup_of_nodup k2 (hl ▸ hz)) ?_
  refine hi.wp y fun v s₁ y₁ r₁ e₁=>src g.C g.A g.X s₁ v _ _ y₁.inv R.h r₁ fun I fp wr P W s₂ e₂ it w0=>?_
  refine wpAny_newObj_type ?_ (by show (0:Nat)≤sizeLine;exact Nat.zero_le _)
  refine newCompEnv ?_
  generalize hD:s₂.heap.objs.size=Dd
  generalize hH3:s₂.heap.push { cls:=.type "list",data:=.seq ([]:List Value).toArray }=H3
  have hH3s:H3.objs.size=Dd+1:=by rw [← hH3,Heap.size_push,hD]
  show codeAny _ _ (.compStart _ 0 (.ref I) (.ref Dd) (cEnv g.env scope H3.objs.size)) _ { s₂ with heap:=pushCells (H3.push { cls:=.type "dict",data:=.dict #[] }) scope.names }
  have lt1:∀ b o,s₁.heap.get? b=some o→@LT.lt Nat _ b Dd:=fun b o q=>by
    obtain ⟨o',q'⟩:=e₂.occ b o q
    rw [← hD];exact Heap.lt_size q'
  have e₃:Ext g.C [] s₂ { s₂ with heap:=pushCells (H3.push { cls:=.type "dict",data:=.dict #[] }) scope.names } :=
    .up fun b o q=>pushCells_keeps _ _ b o (Heap.get?_push_of_some _ (hH3 ▸ Heap.get?_push_of_some _ q))
  have hDget:H3.get? Dd=some (lstO [] 0):=by rw [← hH3,← hD];exact Heap.get?_push_size _ rfl
  have hDn:s₁.heap.get? Dd=none:=by
    cases q:s₁.heap.get? Dd with
    | none=>rfl
    | some o=>exact absurd (lt1 Dd o q) (Nat.lt_irrefl _)
  have hwlt:∀ b∈wr,s₁.heap.get? b=none∧∃ o,H3.get? b=some o:=fun b hb=>⟨it.new b hb,by
    obtain ⟨o,q⟩:=it.occ _ _ w0 b hb
    exact ⟨o,hH3 ▸ Heap.get?_push_of_some _ q⟩⟩
  have y₃:=y₁.comp (s₃:={ s₂ with heap:=H3 }) (W:=wr++[Dd]) ok (e₂.trans e₃) (fun b o q=>by show @LT.lt Nat _ b H3.objs.size;rw [hH3s];exact Nat.lt_succ_of_lt (lt1 b o q)) (fun b hb=>by
    rcases List.mem_append.mp hb with q | q
    · exact hwlt b q
    · rw [List.mem_singleton.mp q];exact ⟨hDn,_,hDget⟩)
  generalize hLe:H3.objs.size=L at y₃ ⊢
  rw [List.append_assoc] at y₃
  dsimp only at y₃
  generalize hst:({ s₂ with heap:=pushCells (H3.push { cls:=.type "dict",data:=.dict #[] }) scope.names }:Shared)=s₄ at e₃ y₃ ⊢
  have e₁₄:Ext g.C [] s₁ s₄:=e₂.trans e₃
  have y₄:St (cG2 g scope x x2 cs (wr++([Dd]++(cOwn scope L++g.X))) L) (none::none::capD ρ cs) μ s₄:=y₃
  have hacc:s₄.heap.get? Dd=some (lstO [] 0):=by rw [← hst];exact pushCells_keeps _ _ _ _ (Heap.get?_push_of_some _ hDget)
  have hL1:@LT.lt Nat _ Dd L:=by rw [← hLe,hH3s];exact Nat.lt_succ_self _
  have freshOf:∀ a:Addr,@LE.le Nat _ Dd a→s₁.heap.get? a=none:=fun a ha=>by
    cases q:s₁.heap.get? a with
    | none=>rfl
    | some o=>exact absurd (lt1 a o q) (Nat.not_lt.mpr ha)
  have ownge:∀ a∈cOwn scope L,@LE.le Nat _ L a:=fun a ha=>by
    rcases List.mem_cons.mp ha with rfl | q
    · exact Nat.le_refl _
    · obtain ⟨⟨n,c⟩,hc,rfl⟩:=List.mem_map.mp q
      have hs1:(H3.push { cls:=.type "dict",data:=.dict #[] }).objs.size=L+1:=by rw [Heap.size_push,hLe]
      rw [← hs1] at hc
      rcases cellsFrom_cases _ _ _ hc with q | q
      · (first | obtain rfl:=q.vI | obtain ⟨_,rfl⟩:=q.iI | obtain ⟨_,rfl⟩:=q.sI | obtain ⟨_,rfl⟩:=q.bI | obtain rfl:=q.nI | cases q)
      · have:=q.1;rw [hs1] at this;exact Nat.le_of_succ_le this
  have ownFresh:∀ a∈cOwn scope L,s₁.heap.get? a=none:=fun a ha=>freshOf a (Nat.le_trans (Nat.le_of_lt hL1) (ownge a ha))
  have hDown:Dd∉cOwn scope L:=fun q=>absurd (ownge Dd q) (Nat.not_le.mpr hL1)
  have notX:∀ a,s₁.heap.get? a=none→a∉g.X:=fun a h q=>by
    obtain ⟨o,z⟩:=y₁.inv.occ a q
    rw [h] at z;cases z
  have wrlt:∀ a∈wr,@LT.lt Nat _ a Dd:=fun a ha=>by
    obtain ⟨o,q⟩:=it.occ _ _ w0 a ha
    rw [← hD];exact Heap.lt_size q
  have wrOut:∀ a∈wr,a∉[Dd]++(cOwn scope L++g.X):=fun a ha q=>by
    rcases List.mem_append.mp q with q | q
    · rw [List.mem_singleton.mp q] at ha;exact Nat.lt_irrefl _ (wrlt Dd ha)
    · rcases List.mem_append.mp q with q | q
      · exact Nat.lt_irrefl _ (Nat.lt_of_lt_of_le (Nat.lt_trans (wrlt a ha) hL1) (ownge a q))
      · exact notX a (it.new a ha) q
  have nP:∀ a,s₁.heap.get? a=none→a∉g.C.P:=fun a h q=>notX a h (y₁.inv.pin a q)
  have hwn:∀ a∈wr,g.C.hb.get? a=none:=fun a ha=>y₁.inv.hb_none (it.new a ha) (nP a (it.new a ha))
  have hDb:g.C.hb.get? Dd=none:=y₁.inv.hb_none hDn (nP Dd hDn)
  have cellsOut:∀ z c,(cEnv g.env scope L).cells.lookup z=some c→c∉wr∧c≠Dd:=fun z c hc=>by
    have hm:=mem_of_lookup hc
    unfold cEnv compEnvC compCells at hm
    dsimp only at hm
    rw [cellsFrom_app] at hm
    rcases List.mem_append.mp hm with q | q
    · have hc':c∈cOwn scope L:=.tail _ (List.mem_map.mpr ⟨_,q,rfl⟩)
      exact ⟨fun w=>wrOut c w (List.mem_append_right _ (List.mem_append_left _ hc')),fun e=>hDown (e ▸ hc')⟩
    · rcases closL_mem _ _ q with q | q
      · (first | obtain rfl:=q.vI | obtain ⟨_,rfl⟩:=q.iI | obtain ⟨_,rfl⟩:=q.sI | obtain ⟨_,rfl⟩:=q.bI | obtain rfl:=q.nI | cases q)
      · obtain ⟨_,_,w,o,ho,_⟩:=y₁.envOk.cel z c q.1
        exact ⟨(fun h=>by rw [it.new c h] at ho;cases ho),(fun h=>by rw [h,hDn] at ho;cases ho)⟩
  have hwall:∀ a∈wr,a∉[Dd]++(cOwn scope L++g.X)∧a∉g.C.P∧g.C.hb.get? a=none∧∀ z c,(cEnv g.env scope L).cells.lookup z=some c→a≠c:=fun a ha =>
    ⟨wrOut a ha,nP a (it.new a ha),hwn a ha,fun z c hc e=>(cellsOut z c hc).1 (e ▸ ha)⟩
  have hμX:∀ a∈doms μ,a∈[Dd]++(cOwn scope L++g.X):=fun a ha=>List.mem_append_right _ (List.mem_append_right _ (y.mX a ha).1)
  have hPX:∀ p∈g.C.P,p∈[Dd]++(cOwn scope L++g.X):=fun p hp=>List.mem_append_right _ (List.mem_append_right _ (y.inv.pin p hp))
  have hDμ:Dd∉doms μ:=fun q=>notX Dd hDn (y.mX _ q).1
  have env':∀ {ρ' t},St (cG2 g scope x x2 cs (wr++([Dd]++(cOwn scope L++g.X))) L) ρ' μ t→EnvOk g.C ([Dd]++(cOwn scope L++g.X)) t.heap (cEnv g.env scope L):=fun yt =>
    ⟨yt.envOk.kind,yt.envOk.glob,yt.envOk.bi,yt.envOk.ns,List.mem_append_right _ (List.mem_append_left _ (.head _)),yt.envOk.lP,yt.envOk.cel,fun z c h1 h2 =>
      (List.mem_append.mp (yt.envOk.own z c h1 h2)).elim (fun q=>absurd q (cellsOut z c h2).1) id,yt.envOk.inj⟩
  have storedAt:∀ z∈[x,x2],Stored (cG2 g scope x x2 cs (wr++([Dd]++(cOwn scope L++g.X))) L) (cOwn scope L) z:=fun z hz=>by
    rcases k6 z hz with q | q
    · exact .inl ⟨lookup_relabel (lookup_of_nodup k2 q),.head _⟩
    · have hk:=lookup_relabel (env:=g.env) (lookup_of_nodup k2 q)
      right
      refine ⟨hk,?_⟩
      show ∃ c,(cellsFrom (L+1) scope.names (closL g.env.cells scope.names [])).lookup z=some c∧c∈cOwn scope L
      obtain ⟨c,hc⟩:=Option.isSome_iff_exists.mp (cellsFrom_some (x:=z) scope.names (L+1) [] (.inl (lookup_of_nodup k2 q)))
      have hm:=mem_of_lookup hc
      refine ⟨c,?_,.tail _ (List.mem_map.mpr ⟨_,hm,rfl⟩)⟩
      rw [cellsFrom_app,List.lookup_append,hc]
      rfl
  have stored:=storedAt x (.head _)
  have stored2:=storedAt x2 (.tail _ (.head _))
  have frame:∀ i (t t':Shared),Ext g.C (cOwn scope L++[Dd]) t t'→W i t.heap→W i t'.heap:=fun i t t' e w=>it.walk.frame i _ _ w fun b hb o q=>by
    refine e.keep b o (fun z=>?_) (fun z=>?_) q
    · rcases it.fpX b hb with hb' | ⟨hb',o',ho'⟩
      · exact wrOut b hb' ((List.mem_append.mp z).elim (fun z=>List.mem_append_right _ (List.mem_append_left _ z)) fun z=>List.mem_append_left _ z)
      · rcases List.mem_append.mp z with z | z
        · rw [ownFresh b z] at ho';cases ho'
        · rw [List.mem_singleton.mp z,hDn] at ho';cases ho'
    · rcases it.fpX b hb with hb' | ⟨hb',o',ho'⟩
      · exact nP b (it.new b hb') z
      · exact hb' (y₁.inv.pin b z)
  have loop:codeAny g.C.M g.A (.compLoop (.ListComp elt [⟨.Name x px,iter,[],0⟩,⟨.Name x2 px2,iter2,[],0⟩] scope pos) 0 (.ref I) (.ref Dd) (cEnv g.env scope L)) (compPost g.C.M g.A E use Q (.ref Dd) L) s₄:=by
    refine codeAny_compLoop_nest (fun n t=>∃ i vs nn,i≤xs.length∧n=xs.length+1 - i∧W i t.heap∧St (cG2 g scope x x2 cs (wr++([Dd]++(cOwn scope L++g.X))) L) (none::none::capD ρ cs) μ t ∧
      t.heap.get? Dd=some (lstO vs nn)∧RepL (wr++([Dd]++(cOwn scope L++g.X))) t.heap vs ((xs.take i).flatMap fun a=>(ys a).map (f a))∧Ext g.C [] s₁ t) ?_ (xs.length+1) ⟨0,[],0,Nat.zero_le _,rfl,hst ▸ (it.walk.frame 0 _ _ w0 fun b hb o q=>pushCells_keeps _ _ b o (Heap.get?_push_of_some _ (hH3 ▸ Heap.get?_push_of_some _ q))),y₄,hacc,.nil,e₁₄⟩ (fun _=>rfl) (hs2 _)
    rintro n t ⟨i,vs,nn,hle,rfl,hw,yt,hat,hrep,et⟩
    have hlm:(xs.map mk).length=xs.length:=List.length_map ..
    have hDk:∀ {h':Heap},(∀ b o,b∉wr→t.heap.get? b=some o→h'.get? b=some o)→h'.get? Dd=some (lstO vs nn):=fun hk=>hk Dd _ (fun q=>wrOut Dd q (List.mem_append_left _ (.head _))) hat
    by_cases hlt:i < xs.length
    · refine it.walk.item i _ _ _ (by rw [hlm];exact hlt) hw fun v h' tk hP hw' hk=>?_
      have et':Ext g.C [] s₁ { t with heap:=h',toks:=tk }:=et.iter hk it.new hwn
      have y':St (cG2 g scope x x2 cs (wr++([Dd]++(cOwn scope L++g.X))) L) (none::none::capD ρ cs) μ { t with heap:=h',toks:=tk } :=
        St.iter (g:=cG2 g scope x x2 cs ([Dd]++(cOwn scope L++g.X)) L) yt hk (fun _ h=>h) (fun _ h=>List.mem_append_right _ h) (fun a ha _=>it.occ _ _ hw' a ha) hwall hμX (env' yt) hPX
      have hrep':RepL (wr++([Dd]++(cOwn scope L++g.X))) h' vs ((xs.take i).flatMap fun a=>(ys a).map (f a)):=hrep.mono fun b o hb q=>⟨hb,hk b o (fun z=>hb (List.mem_append_left _ z)) q⟩
      obtain ⟨a',ha',ra'⟩:=it.item i v h' (fun b o hb q=>et'.keep b o (fun h=>nomatch h) (fun z=>hb (y₁.inv.pin b z)) q) hP
      obtain ⟨a,ha,rfl⟩:∃ a,xs[i]?=some a∧mk a=a':=by
        rw [List.getElem?_map] at ha'
        cases z:xs[i]? with
        | none=>rw [z] at ha';cases ha'
        | some a=>rw [z] at ha';exact ⟨a,rfl,Option.some.inj ha'⟩
      have ra:Rep (wr++([Dd]++(cOwn scope L++g.X))) h' v (mk a):=by
        obtain ⟨d',hd',rr⟩:=it.item i v s₁.heap (fun b o _ q=>q) hP
        rw [ha'] at hd';cases hd'
        refine rr.mono fun b o hb q=>⟨fun z=>?_,et'.keep b o (fun h=>nomatch h) (fun z=>hb (y₁.inv.pin b z)) q⟩
        rcases List.mem_append.mp z with z | z
        · rw [it.new b z] at q;(first | obtain rfl:=q.vI | obtain ⟨_,rfl⟩:=q.iI | obtain ⟨_,rfl⟩:=q.sI | obtain ⟨_,rfl⟩:=q.bI | obtain rfl:=q.nI | cases q)
        · rcases List.mem_append.mp z with z | z
          · rw [List.mem_singleton.mp z,hDn] at q;(first | obtain rfl:=q.vI | obtain ⟨_,rfl⟩:=q.iI | obtain ⟨_,rfl⟩:=q.sI | obtain ⟨_,rfl⟩:=q.bI | obtain rfl:=q.nI | cases q)
          · rcases List.mem_append.mp z with z | z
            · rw [ownFresh b z] at q;(first | obtain rfl:=q.vI | obtain ⟨_,rfl⟩:=q.iI | obtain ⟨_,rfl⟩:=q.sI | obtain ⟨_,rfl⟩:=q.bI | obtain rfl:=q.nI | cases q)
            · exact hb z
      refine (asg_name (g:=cG2 g scope x x2 cs (wr++([Dd]++(cOwn scope L++g.X))) L) (p:=px) 0 rfl stored y' ra).use fun _ s₅ e₅ y₅=>?_
      have y₅':St (cG2 g scope x x2 cs (wr++([Dd]++(cOwn scope L++g.X))) L) (some (mk a)::none::capD ρ cs) μ s₅:=y₅
      have et₅:Ext g.C [] s₁ s₅:=et'.fresh e₅ ownFresh
      obtain ⟨b1,_⟩:=body (wr++([Dd]++(cOwn scope L++g.X))) L a (List.mem_of_getElem? ha)
      have hpin:∀ p∈g.C.P,p∈wr++([Dd]++(cOwn scope L++g.X)):=fun p hp=>List.mem_append_right _ (hPX p hp)
      have hD₅:s₅.heap.get? Dd=some (lstO vs nn):=e₅.keep Dd _ hDown (nP Dd hDn) (hDk hk)
      have hrep₅:RepL (wr++([Dd]++(cOwn scope L++g.X))) s₅.heap vs ((xs.take i).flatMap fun a=>(ys a).map (f a)):=hrep'.ext e₅ (fun b hb=>List.mem_append_right _ (List.mem_append_right _ (List.mem_append_left _ hb))) hpin
      have htake:xs.take (i+1)=xs.take i++[a]:=by simp [List.take_add_one,ha]
      have hlt2:((xs.take i).flatMap fun a=>(ys a).map (f a)).length≤i*N:=by
        rw [List.length_flatMap]
        have:∀ (l:List α),(∀ a∈l,(ys a).length≤N)→(l.map fun a=>((ys a).map (f a)).length).sum≤l.length*N:=by
          intro l hl
          induction l with
          | nil=>simp
          | cons q r ih =>
            simp only [List.map_cons,List.sum_cons,List.length_cons,Nat.succ_mul,List.length_map]
            have h1:=hl q (.head _)
            have h2:=ih fun a ha=>hl a (.tail _ ha)
            simp only [List.length_map] at h2
            lia
        have h3:=this (xs.take i) fun a ha=>hN a (List.mem_of_mem_take ha)
        rw [List.length_take,Nat.min_eq_left hle] at h3
        exact h3
      have hma:=List.mem_of_getElem? ha
      have hza:((xs.take i).flatMap fun a=>(ys a).map (f a)).length+((ys a).map mk2).length≤sizeLine:=by
        rw [List.length_map]
        have h4:=hN a hma
        have h5:(i+1)*N≤xs.length*N:=Nat.mul_le_mul_right N hlt
        rw [Nat.succ_mul] at h5
        lia
      refine (b1 _).wp y₅' fun xv s₆ y₆ r₆ e₆=>?_
      have et₆:Ext g.C [] s₁ s₆:=et₅.trans e₆
      have hD₆:s₆.heap.get? Dd=some (lstO vs nn):=e₆.keep Dd _ (fun h=>nomatch h) (nP Dd hDn) hD₅
      have hrep₆:=hrep₅.ext e₆ (fun _ h=>nomatch h) hpin
      have hw₆:W (i+1) s₆.heap:=frame _ _ _ ((e₅.wider fun b hb=>.inl (List.mem_append_left _ hb)).trans (e₆.wider fun _ h=>nomatch h)) hw'
      refine in_core (g:=cG2 g scope x x2 cs (wr++([Dd]++(cOwn scope L++g.X))) L) (S:=cOwn scope L) (fs:=(ys a).map (f a)) 1 rfl stored2 (fun b hb=>List.mem_append_right _ (List.mem_append_right _ (List.mem_append_left _ hb))) (List.mem_append_right _ (List.mem_append_left _ (.head _))) hDown (nP Dd hDn) hDμ (fun h=>hDown (h ▸ .head _)) (fun z c hc h=>(cellsOut z c hc).2 h.symm) R (src2 a hma) y₆ r₆ hD₆ hrep₆ (by simp) hza (fun X'' hX'' k b fb hb hfb=>?_) (fun t₇ vs' nn' e₇ y₇ hD₇ hrep₇=>?_)
      · rw [List.getElem?_map] at hb hfb
        cases hq:(ys a)[k]? with
        | none=>rw [hq] at hb;cases hb
        | some b0 =>
          rw [hq] at hb hfb
          cases hb;cases hfb
          exact (body X'' L a hma).2 b0 (List.mem_of_getElem? hq)
      · have et₇:Ext g.C [] s₁ t₇:=et₆.fresh e₇ fun z hz=>by
          rcases List.mem_append.mp hz with q | q
          · exact ownFresh z q
          · rw [List.mem_singleton.mp q];exact hDn
        refine ⟨xs.length+1 - (i+1),by lia,i+1,vs',nn',hlt,rfl,frame _ _ _ e₇ hw₆,y₇.forget (fun j d h=>?_),hD₇,?_,et₇⟩
        · cases j with
          | zero=>cases h
          | succ j=>exact h
        · rw [htake,List.flatMap_append,List.flatMap_singleton];exact hrep₇
    · have hi':i=xs.length:=by lia
      subst hi'
      rw [← hlm] at hw
      refine it.walk.done _ _ _ hw fun h' tk hk=>?_
      have et':Ext g.C [] s₁ { t with heap:=h',toks:=tk }:=et.iter hk it.new hwn
      have hLw:L∉wr:=fun q=>wrOut L q (List.mem_append_right _ (List.mem_append_left _ (.head _)))
      have hns:∃ m,h'.Ns L m:=let ⟨m,hn⟩:=yt.envOk.ns;⟨m,hn.at' fun o q=>hk L o hLw q⟩
      have hLn:s₁.heap.get? L=none:=freshOf L (Nat.le_of_lt hL1)
      have back:∀ a,s₁.heap.get? a=none→s.heap.get? a=none:=fun a h=>by
        cases q:s.heap.get? a with
        | none=>rfl
        | some o=>obtain ⟨o',q'⟩:=e₁.occ a o q;rw [h] at q';(first | obtain rfl:=q'.vI | obtain ⟨_,rfl⟩:=q'.iI | obtain ⟨_,rfl⟩:=q'.sI | obtain ⟨_,rfl⟩:=q'.bI | obtain rfl:=q'.nI | cases q')
      refine hQ L Dd _ (y₁.wide (wr:=[L]) et' (fun b hb=>by rw [List.mem_singleton.mp hb];exact hLn) (fun b hb=>by
        rw [List.mem_singleton.mp hb];obtain ⟨m,o,_,_,q,_⟩:=hns;exact ⟨o,q⟩)) (e₁.trans et') (back _ hDn) hns (back _ hLn) ?_ ?_
      rw [List.take_length] at hrep
      rotate_left
      · intro q
        rcases List.mem_cons.mp q with q | q
        · exact Nat.lt_irrefl _ (q ▸ hL1)
        · exact notX Dd hDn q
      · refine ⟨vs,nn,hDk hk,?_⟩
        exact hrep.mono fun b o hb q=>⟨fun z=>hb (List.mem_append_right _ ((List.mem_cons.mp z).elim (fun z=>List.mem_append_left _ (z ▸ .head _)) fun z=>List.mem_append_right _ ((List.mem_cons.mp z).elim (fun z=>List.mem_append_left _ (z ▸ .head _)) fun z=>List.mem_append_right _ z))),hk b o (fun z=>hb (List.mem_append_left _ z)) q⟩
  have hw4:W 0 s₄.heap:=hst ▸ (it.walk.frame 0 _ _ w0 fun b hb o q=>pushCells_keeps _ _ b o (Heap.get?_push_of_some _ (hH3 ▸ Heap.get?_push_of_some _ q)))
  exact codeAny_compStart_list loop (it.walk.self 0 _ _ _ hw4 loop)
end
end Mine
end
section
open PySem PySem.Calls PySem.W PyProof.Rows
set_option maxHeartbeats 4000000
namespace Mine
section
variable {g:G} {ρ:List (Option D)} {μ:List (Addr × Mut)}
theorem EvN.comp2 {α β : Type} {elt iter iter2 : Expr} {x x2 : Str} {px px2 : Pos} {scope : Scope} {pos : Pos} {d : D} (mk : α → D) (xs : List α) (d2 : α → D) (mk2 : β → D) (ys : α → List β) (f : α → β → D) (N : Nat) (cs : List (Nat × Str))
    (R:Room g.A 0) (ok:compOk g.env g.ns scope [x,x2] cs=true) (hi:Ev g ρ μ iter d) (src:Src d (xs.map mk)) (hlen:xs.length*N≤sizeLine) (hN:∀ a∈xs,(ys a).length≤N)
    (src2:∀ a∈xs,Src (d2 a) ((ys a).map mk2))
    (body:∀ X' L,∀ a∈xs,(∀ o,Ev (cG2 g scope x x2 cs X' L) (some (mk a)::o::capD ρ cs) μ iter2 (d2 a))∧∀ b∈ys a,Ev (cG2 g scope x x2 cs X' L) (some (mk a)::some (mk2 b)::capD ρ cs) μ elt (f a b))
    (hs:∀ x,foldedSetIterable iter g.env x=pure x:=by intro _;rfl) (hs2:∀ env x,foldedSetIterable iter2 env x=pure x:=by intro _ _;rfl) :
    EvN g ρ μ (.ListComp elt [⟨.Name x px,iter,[],0⟩,⟨.Name x2 px2,iter2,[],0⟩] scope pos) (xs.flatMap fun a=>(ys a).map (f a)):=fun s y=>by
  show wpAny _ _ _ _ _ _
  rw [eval_ListComp]
  refine comp_core2 (use:=none) mk xs d2 mk2 ys f N cs R ok hi src hlen hN src2 body y (fun L Dd t yt et hD ⟨m,hn⟩ hL ⟨vs,nn,ho,r⟩ hDX=>⟨m,hn,fun h' hs'=>?_⟩) hs hs2
  have hne:Dd≠L:=fun e=>hDX (e ▸ .head _)
  have e':Ext g.C [] s { t with heap:=h' }:=et.iter (wr:=[L]) (tk:=t.toks) (fun b o hb q=>(hs'.2 b fun z=>hb (z ▸ .head _)).trans q) (fun z hz=>by rw [List.mem_singleton.mp hz];exact hL)
    fun z hz=>by rw [List.mem_singleton.mp hz];exact y.inv.hb_none hL (y.fresh hL).2.1
  exact ⟨e',Dd,vs,nn,rfl,hD,(hs'.2 Dd hne).trans ho,r.mono fun b o hb q=>⟨fun z=>hb ((List.mem_cons.mp z).elim (fun z=>z ▸ .head _) fun z=>.tail _ (.tail _ z)),(hs'.2 b (fun z=>hb (z ▸ .tail _ (.head _)))).trans q⟩⟩
end
end Mine
end
section
open PySem PySem.Calls PySem.W PyProof.Rows PySem.SeqAt Builtin.ObjectAttr
open Sem (wp)
set_option maxHeartbeats 4000000
namespace Mine
section
variable {prog:Program} {w:World} {A:Around} {E:Value→Shared→Prop} {s:Shared} {x c dx:Addr} {vs:List Value} {n:Nat} {v:Value}
theorem run_clear {sl b : Addr} {m : Nat} {Q : Value → Shared → Prop} (ho : s.heap.get? x = some (accO c dx vs n)) (hs : s.heap.IsSliceOf sl .none .none .none) (hb : s.heap.get? b = some (lstO [] m)) (hz : vs.length ≤ 1000)
    (h:∀ h',(∃ n',h'.get? x=some (accO c dx [] n'))→Heap.SameBut x s.heap h'→Q .none { s with heap:=h' }) :
    wpAny (model prog w) A (Builtin.«list.__setitem__» ⟨[.ref x,.ref sl,.ref b],[]⟩) (fun fin s'=>match fin with | .done (.ret v)=>Q v s' | _=>False) E s:=by
  obtain ⟨os,hos,hcs,hds⟩:=id hs
  have hTs:s.TypeIs (.ref sl) "slice":=⟨os,hos,hcs⟩
  have hTb:s.TypeIs (.ref b) "list":=⟨_,hb,rfl⟩
  have hne:b≠x:=fun e=>by rw [e,ho] at hb;cases hb
  show wpAny _ _ (Builtin.List.listSubscript? (.ref sl) >>= _) _ _ s
  refine wpAny_bind ?_
  unfold Builtin.List.listSubscript?
  refine wpAny_bind (wpAny_specialOf hTs slice_no_index ?_)
  simp only [Option.isNone_none,if_true]
  refine wpAny_pure ?_
  show wpAny _ _ (typeOf (.ref sl) >>= _) _ _ s
  refine wpAny_bind (wpAny_typeOf hTs ?_)
  rw [if_neg (by decide)]
  rw [listSliceParts_eq]
  refine wpAny_bind (wpAny_bind (wpAny_field hos hds (x:=.none) rfl (wpAny_bind (wpAny_listPart .none ?_))))
  rw [if_neg (by exact Bool.false_ne_true)]
  refine wpAny_bind (wpAny_field hos hds (x:=.none) rfl (wpAny_bind (wpAny_listPart .none ?_)))
  refine wpAny_bind (wpAny_field hos hds (x:=.none) rfl (wpAny_bind (wpAny_listPart .none (wpAny_pure ?_))))
  have hsame:Builtin.List.listSameRef (Value.ref x) (Value.ref b)=false:=beq_eq_false_iff_ne.mpr (Ne.symm hne)
  rw [hsame,if_neg Bool.false_ne_true]
  unfold Builtin.List.listAllItems
  refine wpAny_bind (wpAny_bind (wpAny_typeOf hTb ?_))
  rw [if_pos (by decide)]
  refine wpAny_listItems hb rfl ?_
  refine wpAny_bind (wpAny_listItems ho rfl ?_)
  refine wpAny_bind (wpAny_of_eq (sliceIndices_raw none none none vs.toArray.size (by decide)) ?_)
  have e:sliceBounds none none none vs.toArray.size=(0,(vs.length:Int),1):=by rw [List.size_toArray];exact bounds_clip none none vs.length
  rw [e,if_pos (show (((0:Int),(vs.length:Int),(1:Int)).2.snd == 1)=true from rfl)]
  refine wpAny_bind (wpAny_rule ?_)
  have hlong:Builtin.List.listTooLong (vs.toArray.size+(([]:List Value).toArray).size)=false:=by
    unfold Builtin.List.listTooLong
    have hsz:sizeLine=16777216:=rfl
    simp;lia
  rw [hlong,if_neg Bool.false_ne_true]
  refine wpAny_bind (acc_update (ws:=[]) ho (by simp) hz (by simp) fun h' hp hs'=>?_)
  exact wpAny_bind (wpAny_letGo (wpAny_pure (h h' hp hs')))
end
end Mine
end
section
open PySem PySem.Calls PySem.W PyProof.Rows PySem.SeqAt Builtin.ObjectAttr
open Sem (wp)
set_option maxHeartbeats 4000000
namespace Mine
section
variable {prog:Program} {w:World} {A:Around} {E:Value→Shared→Prop} {s:Shared} {K:Frag} {x C:Addr} {ox:Obj} {od:Option Obj} {vs:List Value} {n:Nat}
theorem setItem_acc {sl b dx m : Addr} {Q : Unit → Shared → Prop} (X : K.In s.heap) (I : InstAt s.heap x ox C od) (hs : findIn K (.ref C) "__setitem__" = some (some (.builtin "list.__setitem__"))) (hi : mroIn K C (.type "list") = some true) (hq : mroIn K C (.type "collections.deque") = some false)
    (ho:s.heap.get? x=some (accO C dx vs n)) (hsl:s.heap.IsSliceOf sl .none .none .none) (hb:s.heap.get? b=some (lstO [] m)) (hz:vs.length≤1000)
    (h:∀ h',(∃ n',h'.get? x=some (accO C dx [] n'))→Heap.SameBut x s.heap h'→Q () { s with heap:=h' }):wpAny (model prog w) A (setItem (.ref x) (.ref sl) (.ref b)) Q E s:=by
  unfold setItem
  refine wpAny_holding ?_
  have key:wpAny (model prog w) A (sequenceKey (.ref x) (.ref sl) "__setitem__") (fun v s'=>v=.ref sl∧s'=s) E s:=by
    unfold sequenceKey seqItemTypes
    refine wpAny_bind (I.type.here ?_)
    show wpAny _ _ ((["collections.deque"].anyM fun n=>isSubtype (.ref C) (.type n)) >>= _) _ _ s
    have sub:Looks (model prog w) s.heap (isSubtype (.ref C) (.type "collections.deque")) false:=looks_mroIn X hq
    simp only [List.anyM]
    refine wpAny_bind (wpAny_bind (sub.here (wpAny_pure ?_)))
    rw [if_pos (show (!false)=true from rfl)]
    exact wpAny_pure ⟨rfl,rfl⟩
  refine wpAny_bind (wpAny_mono key (fun v s' q=>?_) fun _ _ e=>e)
  obtain ⟨rfl,rfl⟩:=q
  refine wpAny_bind (special_bi X I hs (fun self=>by kernel_rfl) (call_derived X I (by decide +kernel) entry_list_setitem (owner:="list") (n:="__setitem__") (.inr (by decide +kernel)) (by decide +kernel) hi (args_list_setitem _ _ _) (run_clear ho hsl hb hz fun h' hp hs'=>wpAny_pure (h h' hp hs'))))
end
end Mine
end
section
open PySem PySem.Calls PySem.W PyProof.Rows
namespace Mine
theorem fn_reset {C:Cx} (H:Is1 C) (x dx:Addr) (ds:List D) (hz:ds.length≤900):FnM C 1 (.ref 133) [.val (.ref x)] [(x,.acc 151 dx ds)] D.nil [(x,.acc 151 dx [])]:=by
  obtain ⟨P,hK⟩:=H.K
  obtain ⟨oc,od,osl,ho⟩:=fReset.2 P
  refine FnM.introAt (fd:=fReset.1) (es:=[D.nil]) ["self","startval"] [] 0 (by rw [hK];exact ho) (by rw [hK];rfl) rfl (fun x c h=>nomatch h) (fun x y c h=>nomatch h) rfl rfl (fun s vals X hv=>⟨[.none],fun _ _=>.cons (.val _) .nil,?_⟩) rfl (by decide) (by decide) (by decide) (fun A X L R hm s y=>?_)
  · obtain ⟨v,rfl⟩:=len1 hv
    refine BindsTo.of_defaults (T:=126) (o:={ cls:=.type "tuple",data:=.seq #[.none] }) (items:=#[.none]) (n:=0) rfl (X _ _ (by rw [hK];rfl)) rfl rfl rfl
  refine wpAt_of_wpAny ?_
  have R0:Room A 0:=R.zero
  have hmem:(x,Mut.acc 151 dx ds)∈[(x,Mut.acc 151 dx ds)]:=.head _
  have hd1:∀ b∈doms [(x,Mut.acc 151 dx ds)],b∈L::doms [(x,Mut.acc 151 dx ds)]:=fun b hb=>.tail _ hb
  refine (show Ex ⟨C,A,L::X,callEnv fReset.1 L 133,[Str.ofString "self",Str.ofString "startval"]++[]⟩ (L::doms [(x,Mut.acc 151 dx ds)]) [some (.val (.ref x)),some D.nil] [(x,.acc 151 dx ds)] _ (RetAs (L::X) D.nil [(x,.acc 151 dx [])]) from ?_) s y
  clear y s
  refine Ex.ite (c:=true) (EvT.cmp R0 (Ev.name 1 rfl rfl) Ev.none Cmp.isNone) (fun _=>?_) (fun h=>nomatch h)
  refine Ex.assign 1 (d:=.lst []) rfl (.l rfl (.head _)) (EvN.lst EvL.nil).ev (Ex.go ?_)
  refine Ex.step fun s y=>wpAny_Assign_Subscript ((Ev.name 1 rfl rfl).wp y fun v s₁ y₁ r₁ e₁=>self_at (i:=0) y₁ rfl rfl rfl (wpAny_Slice (wpAny_pure (wpAny_pure (wpAny_pure ?_)))))
  have hI:=r₁.lI;clear r₁;obtain ⟨b,us,m,hE,_,hb,ru⟩:=hI;cases hE
  cases ru.nI
  have e₂:Ext C [] s₁ { s₁ with heap:=s₁.heap.push { cls:=.type "slice",data:=.fields #[.none,.none,.none] } }:=.push'
  have y₂:=y₁.ext e₂
  obtain ⟨⟨vs,n,h1,rv⟩,h2,hsh,t,u,nd,h3⟩:=y₂.muts _ hmem
  refine setItem_acc (K:=C.K) (C:=151) (od:=some _) y₂.inv.K ⟨h1,rfl,rfl,h3⟩ (by rw [hK];rfl) (by rw [hK];rfl) (by rw [hK];rfl) h1 (Heap.IsSliceOf.new ..) (Heap.get?_push_of_some _ hb) (by rw [rv.length];lia) fun h' ⟨n',hp⟩ hs'=>?_
  obtain ⟨e₃,y₃⟩:=y₂.reacc (p:=[]) (q:=[]) (tk:=s₁.toks) (es:=[]) hs' hp .nil
  refine ⟨((e₁.trans e₂).up0.trans e₃).wider fun b hb=>.inl (hd1 b hb),?_⟩
  refine (show Ex ⟨C,A,L::X,callEnv fReset.1 L 133,[Str.ofString "self",Str.ofString "startval"]++[]⟩ (L::doms [(x,Mut.acc 151 dx [])]) [some (.val (.ref x)),some (.lst [])] [(x,.acc 151 dx [])] _ (RetAs (L::X) D.nil [(x,.acc 151 dx [])]) from ?_) _ y₃
  clear y₃ e₃ hp hs' y₂ e₂ y₁ e₁ y hb h1 h3 rv
  refine Ex.step fun s y=>plainObj_wpAny_Assign_Attribute ((Ev.int (i:=0)).wp y fun v s₁ y₁ r₁ e₁=>?_)
  obtain ⟨t,rfl⟩:=r₁.iI
  refine self_at (i:=0) y₁ rfl rfl rfl ?_
  have hmem2:(x,Mut.acc 151 dx [])∈[(x,Mut.acc 151 dx [])]:=.head _
  obtain ⟨⟨vs,n,h1,rv⟩,h2,hsh,t',u',nd,h3⟩:=y₁.muts _ hmem2
  refine set_raw (K:=C.K) (C:=151) (od:=dictOf [⟨hsh,.str "_initial_size" t',.int 0 u'⟩] nd) (od':=dictOf [⟨hsh,.str "_initial_size" t',.int 0 t⟩] nd) y₁.inv.K ⟨h1,rfl,rfl,h3⟩ rfl (by rw [hK];rfl) (by rw [hK];rfl) (by rw [hK];rfl) (by rfl) rfl rfl rfl (Nat.le_of_ble_eq_true rfl) fun h' hs hd=>?_
  have:=y₁.setmut (m':=.acc 151 dx []) (tk:=s₁.toks+2) (k:=0) rfl (b:=dx) (.tail _ (.head _)) rfl hs ⟨⟨vs,n,(hs.2 x (Ne.symm h2)).trans h1,rv.mono fun b o hb q=>⟨hb,(hs.2 b fun z=>hb (z ▸ (y₁.mX dx (.tail _ (.head _))).1)).trans q⟩⟩,h2,_,_,_,_,hd⟩ ⟨_,hd⟩
  refine ⟨(e₁.up0.trans this.1).wider fun b hb=>.inl (.tail _ hb),?_⟩
  exact wpAny_execs_nil ⟨.refl ..,.val _,this.2.muts⟩
end Mine
end
section
open PySem PySem.Calls PySem.W PyProof.Rows
set_option maxHeartbeats 4000000
namespace Mine
section
variable {g:G} {ρ:List (Option D)} {μ μ':List (Addr × Mut)} {S:List Addr} {Φ:Flow→Shared→Prop} {rest:List Stmt}
theorem Ex.assignNM (i : Nat) {x : Str} {p pos lpos : Pos} {es : List Expr} {ds : List D} (h1 : g.ns[i]? = some x) (hk : Stored g S x) (he : EvLM g ρ μ lpos es ds μ') (hsz : ds.length ≤ 1000) (hS : ∀ a ∈ S, a ∈ g.X) (hμ : ∀ c ∈ doms μ, c ∈ S)
    (k:∀ a,a∉g.X→a∉S→Ex { g with X:=a::g.X } (a::S) (ρ.set i (some (.val (.ref a)))) ((a,.lst ds)::μ') rest Φ)
    (hs:swapsWith (.List es lpos) (some (.Name x p)) pos.line g.env=pure false:=by rfl):Ex g S ρ μ (.Assign [.Name x p] (.List es lpos) pos::rest) Φ:=Ex.step2 fun s y =>
  wpAny_Assign_Name (List_ ((he.2 s y).use fun vs s₁ e₁ q=>wpAny_newObj_type (by
    have hn:s₁.heap.get? s₁.heap.objs.size=none:=none_of_ge (Nat.le_refl _)
    have ho:(s₁.heap.push (lstO vs 0)).get? s₁.heap.objs.size=some (lstO vs 0):=Heap.get?_push_size _ rfl
    have e₂:Ext g.C [] s₁ { s₁ with heap:=s₁.heap.push (lstO vs 0) }:=.push'
    have f:=q.1.fresh hn
    have y₂:=q.1.adopt e₂ hn ho (q.2.mono fun b o hb z=>⟨fun w=>by
      rcases List.mem_cons.mp w with rfl | w
      · rw [hn] at z;cases z
      · exact hb w,Heap.get?_push_of_some _ z⟩)
    have haS:s₁.heap.objs.size∉S:=fun z=>f.1 (hS _ z)
    have hns:s.heap.get? s₁.heap.objs.size=none:=e₁.none_back hn
    refine (St.store (g:={ g with X:=s₁.heap.objs.size::g.X }) y₂ h1 hk (.val (.ref _))).use fun _ s₃ e₃ y₃=>?_
    refine (k _ f.1 haS s₃ y₃).use fun fl s₄ e₄ z=>⟨?_,z⟩
    have e₁₃:Ext g.C S s s₃:=((e₁.wider fun b hb=>.inl (hμ b hb)).trans (e₂.wider fun _ h=>nomatch h)).trans e₃
    exact ((e₁₃.wider fun b hb=>.inl (.tail _ hb)).trans e₄).wider fun b hb=>(List.mem_cons.mp hb).elim (fun z=>.inr (z ▸ hns)) .inl) (by
      show vs.toArray.size≤sizeLine
      have hz:sizeLine=16777216:=rfl
      rw [List.size_toArray,q.2.length];lia))) hs
end
end Mine
end
section
open PySem PySem.Calls PySem.W PyProof.Rows PySem.SeqAt
set_option maxHeartbeats 4000000
namespace Mine
section
variable {prog:Program} {w:World} {A:Around} {E:Value→Shared→Prop} {s:Shared}
noncomputable def ListAt (s:Shared) (v:Value):Prop:=∃ a,v=.ref a∧s.TypeIs (.ref a) "list"
theorem firsts_lists:∀ (vs:List Value) {Q:List (Option Value)→Shared→Prop},(∀ v∈vs,ListAt s v)→Q (vs.map fun _=>none) s→wpAny (model prog w) A (vs.mapM firstOfTuple') Q E s
  | [],_,_,h=>by rw [List.mapM_nil];exact wpAny_pure h
  | v::vs,Q,t,h=>by
    obtain ⟨a,rfl,ht⟩:=t _ (.head _)
    rw [List.mapM_cons]
    refine wpAny_bind ?_
    show wpAny _ _ (typeOf (.ref a) >>= _) _ _ _
    refine wpAny_bind (wpAny_typeOf ht ?_)
    rw [if_pos (by decide)]
    refine wpAny_pure (wpAny_bind (firsts_lists vs (fun v hv=>t v (.tail _ hv)) (wpAny_pure ?_)))
    exact h
theorem types_lists:∀ (vs:List Value) {Q:List Value→Shared→Prop},(∀ v∈vs,ListAt s v)→Q (vs.map fun _=>Value.type "list") s→wpAny (model prog w) A (vs.mapM typeOf) Q E s
  | [],_,_,h=>by rw [List.mapM_nil];exact wpAny_pure h
  | v::vs,Q,t,h=>by
    obtain ⟨a,rfl,ht⟩:=t _ (.head _)
    rw [List.mapM_cons]
    exact wpAny_bind (wpAny_typeOf ht (wpAny_bind (types_lists vs (fun v hv=>t v (.tail _ hv)) (wpAny_pure h))))
theorem keyKind_lists {vs:List Value} {Q:PyProof.Rows.SortKind→Shared→Prop} (h0:0 < vs.length) (t:∀ v∈vs,ListAt s v) (h:Q oneType' s):wpAny (model prog w) A (keyKind' vs.toArray) Q E s:=by
  obtain ⟨v,vs,rfl⟩:∃ v r,vs=v::r:=by
    cases vs with
    | nil=>cases h0
    | cons v r=>exact ⟨v,r,rfl⟩
  rw [keyKind'_eq,List.mapM_toArray,map_eq_pure_bind]
  refine wpAny_bind (wpAny_bind (firsts_lists _ t (wpAny_pure ?_)))
  rw [if_neg (by simp),if_neg (by simp),oneTypeOnly'_eq,List.mapM_toArray,map_eq_pure_bind]
  refine wpAny_bind (wpAny_bind (wpAny_bind (types_lists _ t (wpAny_pure ?_))))
  have hall:((List.map (fun _=>Value.type "list") (v::vs)).toArray.all fun x=>x == Value.type "list")=true:=by
    simp only [List.all_toArray,List.all_map,List.all_eq_true]
    intro _ _
    rfl
  have e0:(List.map (fun _=>Value.type "list") (v::vs)).toArray[0]?=some (Value.type "list"):=by simp
  rw [e0]
  simp only [hall,if_true]
  exact wpAny_pure (wpAny_pure h)
theorem oneLt_lists {l b : Addr} {vs ws : List Value} {n m : Nat} {xs ys : List Int} {Q : Bool → Shared → Prop} (e1 : s.heap.get? l = some (lstO vs n)) (e2 : s.heap.get? b = some (lstO ws m)) (i1 : IntAt s vs.toArray xs) (i2 : IntAt s ws.toArray ys) (hu : A.units < cLine)
    (h:Q (ordI .Lt xs ys) s):wpAny (model prog w) A (keyLt' oneType' (.ref l) (.ref b)) Q E s:=by
  have hT:s.TypeIs (.ref l) "list":=⟨_,e1,rfl⟩
  rw [keyLt'_oneType,oneLt'_eq]
  simp only [if_true]
  refine wpAny_bind (wpAny_cRoomFor hu ?_)
  refine wpAny_bind (wpAny_callSpecialIfBound?_slot hT F.slot_list_lt (call_meets F.slot_list_lt hT F.entry_list_lt (F.args_list_lt_2 _ _) (meets_lt l b vs.toArray ws.toArray xs ys n m) ⟨e1,e2,i1,i2,?_⟩))
  exact wpAny_truthy_bool h
end
section
variable {g:G} {ρ:List (Option D)} {μ:List (Addr × Mut)}
noncomputable def ltN (a b:List Nat):Bool:=ordN .Lt a b
theorem Ev.sortedN {fs e : Expr} {pos : Pos} {ts : List (List Nat)} (R : Room g.A 0) (hs : Ev g ρ μ fs (.val (.builtin "sorted"))) (he : Ev g ρ μ e (.lst (ts.map D.ns))) (h64 : ts.length < 64)
    (hq:eval (.Call fs [e] [] pos) g.env=(eval fs g.env >>= fun v=>callWith pos v [] (backTo pos (starEach [e] g.env)) []):=by rfl) (he1:starEach [e] g.env=(false,eval e g.env)::starEach [] g.env:=by rfl) :
    Ev g ρ μ (.Call fs [e] [] pos) (.lst ((pysort [] ltN ts).map D.ns)):=fun s y=>by
  refine call_open hq (hs.wp y fun v s₁ y₁ r₁ e₁=>?_)
  cases r₁.vI
  refine callWith_B rfl (spliced_open he1 (he.wp y₁ fun v s₂ y₂ r₂ e₂=>?_)) he1
  refine spliced_nil ?_
  have hI:=r₂.lI;clear r₂;obtain ⟨l,vs,nn,hE,h1,ho,r⟩:=hI;cases hE
  have hL:s₂.heap.IsList l vs.toArray:=⟨_,ho,rfl,nn,rfl⟩
  have lv:=r.length
  rw [List.length_map] at lv
  have hu:=R.u
  have hc:cLine=9900:=rfl
  have at_:∀ i,i < vs.length→∃ a us m,vs.getD i Value.none=.ref a∧s₂.heap.get? a=some (lstO us m)∧RepL g.X s₂.heap us (((ts.getD i []).map fun k:Nat=>(k:Int)).map D.int):=fun i hi=>by
    obtain ⟨v,hv,rv⟩:=r.get (k:=i) (d:=D.ns (ts.getD i [])) (by rw [List.getElem?_map,List.getD_eq_getElem?_getD,List.getElem?_eq_getElem (by lia)];rfl)
    obtain ⟨a,us,m,hE,_,z,ru⟩:=rv.lI
    refine ⟨a,us,m,by rw [List.getD_eq_getElem?_getD,hv];exact hE.symm,z,?_⟩
    rw [List.map_map];exact ru
  refine sorted_raw (κ:=oneType') (lt:=ltAt [] ltN ts) hL (by lia) (fun h2 Q' s' k q=>?_) (fun i j C s' hi hj k q=>?_) fun Dd h' c k hn hD=>?_
  · refine keyKind_lists (by lia) (fun v hv=>?_) q
    obtain ⟨i,hi,rfl⟩:=List.getElem_of_mem hv
    obtain ⟨a,us,m,e,z,_⟩:=at_ i hi
    rw [List.getD_eq_getElem?_getD,List.getElem?_eq_getElem hi] at e
    exact ⟨a,e,_,k _ _ z,rfl⟩
  · obtain ⟨a,us,m,ha,z,ru⟩:=at_ i hi
    obtain ⟨b,ws,m',hb,z',rw'⟩:=at_ j hj
    rw [ha,hb]
    have up:∀ {us:List Value} {l:List D},RepL g.X s₂.heap us l→RepL g.X s'.heap us l:=fun r=>r.mono fun b o hb z=>⟨hb,k b o z⟩
    exact oneLt_lists (k _ _ z) (k _ _ z') (up ru).intAt (up rw').intAt (by show g.A.units+1+1 < cLine;lia) q
  · have e₃:Ext g.C [] s₂ { s₂ with heap:=h' }:=.of_keeps k rfl rfl
    refine ⟨(e₁.trans e₂).trans e₃,?_⟩
    refine .lst (y₂.fresh hn).1 hD ?_
    rw [lv]
    exact (RepL.pick [] (r.mono fun b o hb z=>⟨hb,k b o z⟩) _ sortIx_low)
end
end Mine
end
section
open PySem PySem.Calls PySem.W PyProof.Rows PySem.SeqAt
set_option maxHeartbeats 4000000
namespace Mine
noncomputable def Self (n:Nat) (d:D):Prop:=∀ (A:Around) X (s:Shared) va vb,A.units+n < cLine→Rep X s.heap va d→Rep X s.heap vb d→EqAt A s va vb true
theorem Kd.self {α:Type} [DecidableEq α] {n:Nat} {f:α→D} (K:Kd n f) (x:α):Self n (f x):=fun A X s va vb hu r q=>by
  have:=K.eq x x A X s va vb hu r q
  rwa [decide_eq_true rfl] at this
theorem Self.nil:Self 0 D.nil:=fun A X s va vb hu r q=>by
  cases r.vI;cases q.vI
  exact EqAt.same _
theorem Self.up {n m:Nat} {d:D} (h:Self n d) (hn:n≤m):Self m d:=fun A X s va vb hu=>h A X s va vb (by lia)
theorem Cmp.eqSelf {n:Nat} {ds:List D} (h:∀ d∈ds,Self n d) (hn:n < 500):Cmp .Eq (.lst ds) (.lst ds) (D.bool true):=fun C A X s va vb I R r q=>by
  have hu:=R.u
  have hc:cLine=9900:=rfl
  obtain ⟨l,vs,nn,rfl,h1,e1,rr⟩:=r.lI
  obtain ⟨b,ws,nm,rfl,h2,e2,qq⟩:=q.lI
  have hl:s.heap.IsList l vs.toArray:=⟨_,e1,rfl,nn,rfl⟩
  have hb:s.heap.IsList b ws.toArray:=⟨_,e2,rfl,nm,rfl⟩
  refine eq_listAt (e:=fun _=>true) hl hb (rr.length.trans qq.length.symm) (by lia) (fun j h1 h2=>?_) ⟨.refl ..,?_⟩
  · obtain ⟨d,hd,r1⟩:=rr.get' (List.getElem?_eq_getElem (show j < vs.length from h1))
    obtain ⟨d',hd',q1⟩:=qq.get' (List.getElem?_eq_getElem (show j < ws.length from h2))
    rw [hd] at hd';cases hd'
    exact h d (List.mem_of_getElem? hd) A.in1 X s _ _ (by show A.units+1+n < cLine;lia) r1 q1
  · rw [List.all_eq_true.mpr fun _ _=>rfl];exact .val _
end Mine
end
section
open PySem PySem.Calls PySem.W PyProof.Rows
set_option maxHeartbeats 4000000
namespace Mine
section
variable {g:G} {ρ:List (Option D)} {μ:List (Addr × Mut)} {s:Shared} {S:List Addr} {Φ:Flow→Shared→Prop} {rest:List Stmt}
theorem ExS.assignNew (i : Nat) {x : Str} {p pos : Pos} {e : Expr} {m : Addr → Mut} (h1 : g.ns[i]? = some x) (hk : Stored g S x) (he : EvNew g ρ μ e m) (k : ∀ a dx, a ∉ g.X → a ∉ S → dx ∉ g.X → ExS { g with X := a :: dx :: g.X } (a :: dx :: S) (ρ.set i (some (.val (.ref a)))) ((a, m dx) :: μ) rest Φ)
    (hS:∀ a∈S,a∈g.X) (hs:swapsWith e (some (.Name x p)) pos.line g.env=pure false:=by rfl):ExS g S ρ μ (.Assign [.Name x p] e pos::rest) Φ:=ExS.step2 fun s y =>
  assignS (anyS ((he s y).use fun v s₁ e₁ q=>by
    obtain ⟨a,dx,rfl,hn,hd,hne,ho,hod,hm,hmore⟩:=q
    have y₁:=y.wide (wr:=[a,dx]) e₁ (fun b hb=>by simp only [List.mem_cons,List.not_mem_nil,or_false] at hb;rcases hb with rfl | rfl <;> assumption)
      (fun b hb=>by simp only [List.mem_cons,List.not_mem_nil,or_false] at hb;rcases hb with rfl | rfl <;> assumption)
    have f:=y.fresh hn
    have fd:=y.fresh hd
    have y₂:St { g with X:=a::dx::g.X } ρ ((a,m dx)::μ) s₁:=St.addmut (g:={ g with X:=a::dx::g.X }) y₁ hm (fun b hb=>by
      rw [hmore] at hb
      simp only [List.mem_cons,List.not_mem_nil,or_false] at hb
      rcases hb with rfl | rfl
      · exact ⟨.head _,f.2⟩
      · exact ⟨.tail _ (.head _),fd.2⟩) (by rw [hmore];simp [hne])
    have haS:a∉S:=fun q=>f.1 (hS a q)
    refine (St.store (g:={ g with X:=a::dx::g.X }) y₂ h1 hk (.val (.ref a))).use fun _ s₂ e₂ y₂=>?_
    refine DnS.use (k a dx f.1 haS fd.1 s₂ y₂) fun fl s₃ e₃ q=>⟨?_,q⟩
    have e₁₂:Ext g.C S s s₂:=(e₁.wider (fun _ h=>nomatch h)).trans e₂
    exact ((e₁₂.wider fun b hb=>.inl (.tail _ (.tail _ hb))).trans e₃).wider fun b hb=>by
      rcases List.mem_cons.mp hb with rfl | hb
      · exact .inr hn
      rcases List.mem_cons.mp hb with rfl | hb
      · exact .inr hd
      · exact .inl hb)) hs
theorem ExS.assignN (i : Nat) {x : Str} {p pos : Pos} {e : Expr} {ds : List D} (h1 : g.ns[i]? = some x) (hk : Stored g S x) (he : EvN g ρ μ e ds) (k : ∀ a, a ∉ g.X → a ∉ S → ExS { g with X := a :: g.X } (a :: S) (ρ.set i (some (.val (.ref a)))) ((a, .lst ds) :: μ) rest Φ)
    (hS:∀ a∈S,a∈g.X) (hs:swapsWith e (some (.Name x p)) pos.line g.env=pure false:=by rfl):ExS g S ρ μ (.Assign [.Name x p] e pos::rest) Φ:=ExS.step2 fun s y =>
  assignS (anyS ((he s y).use fun v s₁ e₁ ⟨a,vs,n,hv,hn,ho,r⟩=>by
    subst hv
    have y₁:=y.adopt e₁ hn ho r
    have f:=y.fresh hn
    have haS:a∉S:=fun q=>f.1 (hS a q)
    refine (St.store (g:={ g with X:=a::g.X }) y₁ h1 hk (.val (.ref a))).use fun _ s₂ e₂ y₂=>?_
    refine DnS.use (k a f.1 haS s₂ y₂) fun fl s₃ e₃ q=>⟨?_,q⟩
    have e₁₂:Ext g.C S s s₂:=(e₁.wider (fun _ h=>nomatch h)).trans e₂
    exact ((e₁₂.wider fun b hb=>.inl (.tail _ hb)).trans e₃).wider fun b hb=>(List.mem_cons.mp hb).elim (fun z=>.inr (z ▸ hn)) .inl)) hs
theorem ExS.narrow {S':List Addr} {ss:List Stmt} (h:ExS g S' ρ μ ss Φ) (k:∀ b∈S',b∈S):ExS g S ρ μ ss Φ:=fun s y=>wpS_mono (h s y) (fun _ _ q=>⟨q.1.wider fun b hb=>.inl (k b hb),q.2⟩) fun _ _ e=>e
theorem ExS.freezeS {p q : List (Addr × Mut)} {c : Addr} {ds : List D} {ss : List Stmt} (i : Nat) (h2 : ρ[i]? = some (some (.val (.ref c)))) (hc : c ∉ S) (hX : ∀ b ∈ S, b ∈ g.X)
    (k:∀ X',(∀ b∈S,b∈X')→(∀ b∈g.X,b≠c→b∈X')→ExS { g with X:=X' } S (ρ.set i (some (.lst ds))) (p++q) ss Φ):ExS g (c::S) ρ (p++((c,.lst ds)::q)) ss Φ:=by
  have z:=k (g.X.filter fun a=>decide (a≠c)) (fun b hb=>List.mem_filter.mpr ⟨hX b hb,decide_eq_true fun e=>hc (e ▸ hb)⟩) (fun b hb hne=>List.mem_filter.mpr ⟨hb,decide_eq_true hne⟩)
  have w:ExS g S ρ (p++((c,.lst ds)::q)) ss Φ:=fun s y=>z s (y.frozen h2)
  exact w.narrow fun b hb=>.tail _ hb
theorem St.perm {μ':List (Addr × Mut)} (y:St g ρ μ s) (h:μ.Perm μ'):St g ρ μ' s:=by
  have hd:(doms μ).Perm (doms μ'):=h.flatMap_right _
  exact ⟨y.inv,y.envOk,y.vars,fun p hp=>y.muts p (h.mem_iff.mpr hp),fun a ha=>y.mX a (hd.mem_iff.mpr ha),hd.nodup_iff.mp y.apart,y.nd⟩
theorem ExS.perm {μ':List (Addr × Mut)} {ss:List Stmt} (h:μ.Perm μ') (k:ExS g S ρ μ' ss Φ):ExS g S ρ μ ss Φ:=fun s y=>k s (y.perm h)
theorem Ex.perm {μ':List (Addr × Mut)} {ss:List Stmt} (h:μ.Perm μ') (k:Ex g S ρ μ' ss Φ):Ex g S ρ μ ss Φ:=fun s y=>k s (y.perm h)
end
end Mine
end
section
open PySem PySem.Calls PySem.W PyProof.Rows
namespace Mine
noncomputable def fLaw:FnAt 205:=⟨_,fun P=>⟨_,_,_,rfl⟩⟩
noncomputable def lawB:List Stmt:=match fLaw.1.body with | .stmts b=>b | _=>[]
noncomputable abbrev lns:List Str:=(["script"]:List Str)++(["cells","folders","paths","width","page","turned","fields","slashes","manager","told","x","y","homes","row","ends","codes","readings","way","left","right","ranks","here","inside","strange","below","stands","deeds"]:List Str)
noncomputable abbrev lE (L:Addr):Env:=callEnvC fLaw.1 L 205
namespace T1
noncomputable def slash (w:List Nat):List Nat:=[47]++w
noncomputable def path (f:List (List Nat)):List Nat:=(f.map slash).flatten
noncomputable def padp (w:Nat) (p:List Nat):List Nat:=List.replicate (w - p.length) 32++p
noncomputable def field (w:Nat) (p:List Nat):List Nat:=p.reverse++List.replicate (w - p.length) 32
noncomputable def told (ps:List (List Nat)) (sb:Nat→Nat) (x y:Nat):Bool:=suburi ([104],ps.getD x []++List.replicate (sb (5*x+y)) 47) ([104],ps.getD y [])
noncomputable def inner (ps:List (List Nat)) (sb:Nat→Nat) (y:Nat):List Nat:=(List.range 5).filter fun x=>decide (x≠y) && (told ps sb x y && true)
noncomputable def texts (w:Nat) (ps:List (List Nat)):List Pc:=(List.range 5).map fun x=>(field w (ps.getD x []),ps.getD x [])
noncomputable def waits (hs:List Int):List Int:=(List.range 5).map fun x:Nat=>((hs.count (x:Int):Nat):Int)
noncomputable def ends (w:Nat) (ps:List (List Nat)) (hs:List Int):List (Nat × Nat × Bool):=walk (texts w ps) hs 5 [] (waits hs) 0 0
noncomputable def worth (es:List Nat):Int:=(es.map fun k=>(1000:Int) ^ k).sum
noncomputable def code (way:Nat) (p:List Nat):List Nat:=if way=0 then p else p.reverse
noncomputable def rank (ps:List (List Nat)) (x:Nat):Nat:=ixOf (ps.getD x []) (pysort [] ltN ps)
noncomputable def below (fs:List (List (List Nat))) (x y:Nat):Bool:=decide ((fs.getD y []).take (fs.getD x []).length=fs.getD x [])
structure Facts (fs:List (List (List Nat))) (w:Nat) (sb:Nat→Nat) (hs:List Int):Prop where
  five:fs.length=5
  few:∀ f∈fs,f.length≤5
  small:∀ f∈fs,∀ n∈f,n.length≤5
  byte:∀ f∈fs,∀ n∈f,∀ c∈n,c < 256
  wmem:w∈(fs.map path).map List.length
  wmax:∀ p∈fs.map path,p.length≤w
  wpos:0 < w
  turn:swp w 5 ((fs.map path).map (padp w)).flatten=((fs.map path).map (field w)).flatten
  back:swp w 5 ((fs.map path).map (field w)).flatten=((fs.map path).map (padp w)).flatten
  bit:∀ k,sb k≤1
  hlen:hs.length=5
  hmem:∀ y,y < 5→hs.getD y 0∈(-1:Int)::(inner (fs.map path) sb y).map fun x:Nat=>(x:Int)
  hmax:∀ y,y < 5→∀ x∈(-1:Int)::(inner (fs.map path) sb y).map (fun x:Nat=>(x:Int)),x≤hs.getD y 0
  par:∀ x,x < 5→1 < (fs.getD x []).length→(fs.getD x []).dropLast∈fs
  prod0:worth ((ends w (fs.map path) hs).map fun e=>e.1)*leftP fs 5=rightP fs ((fs.map path).map (code 0)) 5
  prod1:worth ((ends w (fs.map path) hs).map fun e=>e.2.1)*leftP fs 5=rightP fs ((fs.map path).map (code 1)) 5
  strange:∀ x,x < 5→∀ b∈[([104,104],(fs.map path).getD x []),([72],(fs.map path).getD x []),([104],[47,65]++((fs.map path).getD x []).drop 2)],suburi b ([104],(fs.map path).getD x []++[47])=false
  same:∀ x,x < 5→∀ b∈[([104],[]),([104],(fs.map path).getD x [])],suburi b ([104],(fs.map path).getD x []++[47])=true
  ahead:∀ x,x < 5→suburi ([104],(fs.map path).getD x []) ([104],[47,97]++(fs.map path).getD x []++[47])=decide (x=0)
  tell:∀ x,x < 5→∀ y,y < 5→told (fs.map path) sb x y=(below fs x y && (decide (x≠y) || decide (sb (5*x+y)=0)))
  host:∀ x,x < 5→∀ y,y < 5→suburi ([104],(fs.map path).getD x []) ([104,104],(fs.map path).getD y [])=false
  coll:∀ x,x < 5→∀ y,y < 5→Mine.coll ((fs.map path).getD x []) ((fs.map path).getD y [])*(((rank (fs.map path) x:Int) - rank (fs.map path) y).natAbs:Int)=(rank (fs.map path) x:Int) - rank (fs.map path) y
  coll0:∀ x,x < 5→Mine.coll ((fs.map path).getD x []) ((fs.map path).getD x [])=0
  srt:(pysort [] ltN (fs.map path)).Perm (fs.map path)
end T1
end Mine
end
section
open PySem PySem.Calls PySem.W PyProof.Rows
namespace Mine
theorem retT {X Y:List Addr} {s:Shared} {v:Value} (r:Rep X s.heap v (D.bool true)):RetAs Y (D.bool true) [] (.ret v) s:=⟨by cases r.vI;exact .val _,fun _ h=>nomatch h⟩
noncomputable abbrev deeds1:List D:=[D.nil,D.ss ([],[]),.int 0,D.nil,D.ss ([32],[120]),D.nil]
noncomputable abbrev deeds2:List D:=[D.nil,.int 0,D.ss ([],[])]
theorem deeds_self:∀ d∈deeds1++deeds2,Self 1 d:=fun d hd=>by
  have p:∀ x:List Nat × List Nat,Self 1 (D.ss x):=fun x=>(Kd.pair Kd.s Kd.s).self x
  have n:Self 1 D.nil:=Self.nil.up (Nat.zero_le _)
  have i:∀ k:Int,Self 1 (D.int k):=fun k=>(Kd.int.self k).up (Nat.zero_le _)
  simp only [List.cons_append,List.nil_append,List.mem_cons,List.not_mem_nil,or_false] at hd
  rcases hd with rfl | rfl | rfl | rfl | rfl | rfl | rfl | rfl | rfl <;> first | exact n | exact i _ | exact p _
theorem deeds_eq:deeds1++deeds2=[D.nil,D.ss ([],[]),.int 0,D.nil,D.ss ([32],[120]),D.nil,D.nil,.int 0,D.ss ([],[])]:=rfl
section
variable {g:G} {ρ:List (Option D)} {μ:List (Addr × Mut)}
theorem cst_n {k:Nat} {pos q:Pos} {es:List Expr} {ds:List D} (h:EvL g ρ μ q es ds):EvL g ρ μ q (.Constant .none k pos::es) (D.nil::ds):=EvL.cons Ev.none h (by simp only [starEach])
theorem cst_i {i:Int} {k:Nat} {pos q:Pos} {es:List Expr} {ds:List D} (h:EvL g ρ μ q es ds):EvL g ρ μ q (.Constant (.int i) k pos::es) (D.int i::ds):=EvL.cons Ev.int h (by simp only [starEach])
theorem cst_t {ts:List Expr} {k:Nat} {pos q:Pos} {es:List Expr} {d:D} {ds:List D} (t:Ev g ρ μ (.Tuple ts k pos) d) (h:EvL g ρ μ q es ds):EvL g ρ μ q (.Tuple ts k pos::es) (d::ds):=EvL.cons t h (by simp only [starEach])
theorem tup_ss {k k1 k2:Nat} {p p1 p2:Pos}:Ev g ρ μ (.Tuple [.Constant (.str "") k1 p1,.Constant (.str "") k2 p2] k p) (D.ss ([],[])):=Ev.tup (EvL.cons (Ev.str (x:="")) (EvL.cons (Ev.str (x:="")) EvL.nil (by simp only [starEach])) (by simp only [starEach])) (by show 2≤_;decide)
theorem tup_sx {k k1 k2:Nat} {p p1 p2:Pos}:Ev g ρ μ (.Tuple [.Constant (.str " ") k1 p1,.Constant (.str "x") k2 p2] k p) (D.ss ([32],[120])):=Ev.tup (EvL.cons (Ev.str (x:=" ")) (EvL.cons (Ev.str (x:="x")) EvL.nil (by simp only [starEach])) (by simp only [starEach])) (by show 2≤_;decide)
theorem lst_9 {k0 k3 k2 k5 k6 k7 k1 k11 k12 k4 k41 k42 k8 k81 k82 : Nat} {p p0 p2 p3 p5 p6 p7 p1 p11 p12 p4 p41 p42 p8 p81 p82 : Pos} :
    Ev g ρ μ (.List [.Constant .none k0 p0,.Tuple [.Constant (.str "") k11 p11,.Constant (.str "") k12 p12] k1 p1,.Constant (.int 0) k2 p2,.Constant .none k3 p3,.Tuple [.Constant (.str " ") k41 p41,.Constant (.str "x") k42 p42] k4 p4,
      .Constant .none k5 p5,.Constant .none k6 p6,.Constant (.int 0) k7 p7,.Tuple [.Constant (.str "") k81 p81,.Constant (.str "") k82 p82] k8 p8] p) (.lst [D.nil,D.ss ([],[]),.int 0,D.nil,D.ss ([32],[120]),D.nil,D.nil,.int 0,D.ss ([],[])]):=by
  have z:([D.nil,D.ss ([],[]),.int 0,D.nil,D.ss ([32],[120]),D.nil,D.nil,.int 0,D.ss ([],[])]:List D).length≤sizeLine:=Nat.le_of_ble_eq_true rfl
  refine @Ev.lst _ _ _ _ _ _ ?_ z
  refine cst_n ?_
  refine @cst_t _ _ _ _ _ _ _ _ _ _ ?_ ?_
  · exact tup_ss
  refine cst_i ?_
  refine cst_n ?_
  refine @cst_t _ _ _ _ _ _ _ _ _ _ ?_ ?_
  · exact tup_sx
  refine cst_n ?_
  refine cst_n ?_
  refine cst_i ?_
  refine @cst_t _ _ _ _ _ _ _ _ _ _ ?_ ?_
  · exact tup_ss
  exact EvL.nil
end
theorem law_e {C : Cx} (H : Is1 C) {A : Around} (R : Room A 5) {X₁ Y S : List Addr} {L r dr m dm : Addr} {d0 d1 d2 d3 d4 d5 d6 d7 d8 d9 d10 d11 d12 d13 d15 d16 d17 d18 d19 d20 d21 d22 d23 d24 d25 d26 d27 : Option D}
    (hloc:(lE L).locals∈S) (hcell:∀ b∈(lE L).cells.map (·.2),b∈S) (hS:∀ b∈S,b∈X₁) (hr:r∈S∧dr∈S) (hm:m∈S∧dm∈S) :
    Ex ⟨C,A,X₁,lE L,lns⟩ S [d0,d1,d2,d3,d4,d5,d6,d7,d8,d9,d10,d11,d12,d13,some (.val (.ref r)),d15,d16,d17,d18,d19,d20,d21,d22,d23,d24,d25,d26,d27]
      [(r,.acc 151 dr []),(m,.inst 67 dm)] (lawB.drop 24) (RetAs Y (D.bool true) []):=by
  obtain ⟨P,hK⟩:=H.K
  have R0:Room A 0:=R.zero
  have R1:Room A 1:=R.less (by lia)
  have R2:Room A 2:=R.less (by lia)
  have hdS:∀ ds:List D,∀ b∈doms [(r,Mut.acc 151 dr ds),(m,Mut.inst 67 dm)],b∈S:=fun ds b hb=>by
    have:b=r∨b=dr∨b=m∨b=dm:=by simpa [doms,Mut.more] using hb
    rcases this with rfl | rfl | rfl | rfl
    · exact hr.1
    · exact hr.2
    · exact hm.1
    · exact hm.2
  have O:ClsOk C.K 151:=by rw [hK];exact (accOk P).ok
  have MP:MethOk C.K 151 "push" 95:=by rw [hK];exact mPush P
  have MO:MethOk C.K 151 "pop" 111:=by rw [hK];exact mPop P
  have MC:MethOk C.K 151 "part_count" 148:=by rw [hK];exact mCount P
  have MR:MethOk C.K 151 "reset" 133:=by rw [hK];exact mReset P
  have push1:FnM C 1 (.ref 95) [.val (.ref r),.s [],.s []] [(r,.acc 151 dr [])] D.nil [(r,.acc 151 dr [D.ss ([],[])])]:=fn_push H r dr [] [] [] (by decide)
  have push2:FnM C 1 (.ref 95) [.val (.ref r),.s [32],.s [120]] [(r,.acc 151 dr [])] D.nil [(r,.acc 151 dr [D.ss ([32],[120])])]:=fn_push H r dr [] [32] [120] (by decide)
  have pop1:FnM C 2 (.ref 111) [.val (.ref r)] [(r,.acc 151 dr [D.ss ([],[])])] (D.ss ([],[])) [(r,.acc 151 dr [])]:=fn_pop H r dr [D.ss ([],[])] (by decide)
  have pop2:FnM C 2 (.ref 111) [.val (.ref r)] [(r,.acc 151 dr [D.ss ([32],[120])])] (D.ss ([32],[120])) [(r,.acc 151 dr [])]:=fn_pop H r dr [D.ss ([32],[120])] (by decide)
  have pop0:FnM C 2 (.ref 111) [.val (.ref r)] [(r,.acc 151 dr [])] (D.ss ([],[])) [(r,.acc 151 dr [])]:=fn_pop H r dr [] (by decide)
  have cnt0:FnM C 1 (.ref 148) [.val (.ref r)] [(r,.acc 151 dr [])] (.int 0) [(r,.acc 151 dr [])]:=fn_count H r dr []
  have res:FnM C 1 (.ref 133) [.val (.ref r)] [(r,.acc 151 dr [D.ss ([32],[120])])] D.nil [(r,.acc 151 dr [])]:=fn_reset H r dr [D.ss ([32],[120])] (by decide)
  refine Ex.assignNM 27 (ds:=deeds1) (μ':=[(r,.acc 151 dr [D.ss ([32],[120])]),(m,.inst 67 dm)]) rfl (.l rfl hloc)
    (EvLM.cons (EvM.own (μ₀:=[(r,.acc 151 dr [])]) [] [(m,.inst 67 dm)] R1 (Ev.name 14 rfl rfl) (.head _) rfl O MP (by decide) (EvL.cons (Ev.str (x:="")) (EvL.cons (Ev.str (x:="")) EvL.nil)) push1 rfl)
    (EvLM.cons (EvM.own0 (μ₀:=[(r,.acc 151 dr [D.ss ([],[])])]) [] [(m,.inst 67 dm)] R2 (Ev.name 14 rfl rfl) (.head _) rfl O MO (by decide) pop1 rfl)
    (EvLM.cons (EvM.own0 (μ₀:=[(r,.acc 151 dr [])]) [] [(m,.inst 67 dm)] R1 (Ev.name 14 rfl rfl) (.head _) rfl O MC (by decide) cnt0 rfl)
    (EvLM.cons (EvM.own (μ₀:=[(r,.acc 151 dr [])]) [] [(m,.inst 67 dm)] R1 (Ev.name 14 rfl rfl) (.head _) rfl O MP (by decide) (EvL.cons (Ev.str (x:=" ")) (EvL.cons (Ev.str (x:="x")) EvL.nil)) push2 rfl)
    (EvLM.cons (EvM.own0 (μ₀:=[(r,.acc 151 dr [D.ss ([32],[120])])]) [] [(m,.inst 67 dm)] R2 (Ev.name 14 rfl rfl) (.head _) rfl O MO (by decide) pop2 rfl)
    (EvLM.cons (EvM.own (μ₀:=[(r,.acc 151 dr [])]) [] [(m,.inst 67 dm)] R1 (Ev.name 14 rfl rfl) (.head _) rfl O MP (by decide) (EvL.cons (Ev.str (x:=" ")) (EvL.cons (Ev.str (x:="x")) EvL.nil)) push2 rfl)
    EvLM.nil)))))) (by decide) hS (hdS _) (fun f hfX hfS=>?_)
  have hdf:∀ (es ds:List D),∀ b∈doms ([]++((f,Mut.lst es)::[(r,Mut.acc 151 dr ds),(m,Mut.inst 67 dm)])),b∈f::S:=fun es ds b hb=>by
    rcases List.mem_cons.mp (show b∈f::doms [(r,Mut.acc 151 dr ds),(m,Mut.inst 67 dm)] from hb) with rfl | hb
    · exact .head _
    · exact .tail _ (hdS ds b hb)
  refine Ex.extend (c:=f) (p:=[]) (q:=[(r,.acc 151 dr [D.ss ([32],[120])]),(m,.inst 67 dm)]) (p':=[]) (q':=[(r,.acc 151 dr []),(m,.inst 67 dm)]) (ds:=deeds1) (ds':=deeds1) (es:=deeds2) (μ₁:=[]) rfl (Ev.name 27 rfl rfl) (hdf _ _) ?_ (by decide) ?_
  · show EvM _ _ [(f,.lst deeds1),(r,.acc 151 dr [D.ss ([32],[120])]),(m,.inst 67 dm)] _ (.lst deeds2) [(f,.lst deeds1),(r,.acc 151 dr []),(m,.inst 67 dm)]
    exact EvNM.ev (EvNM.lst (EvLM.cons (EvM.own0 (μ₀:=[(r,.acc 151 dr [D.ss ([32],[120])])]) [(f,.lst deeds1)] [(m,.inst 67 dm)] R1 (Ev.name 14 rfl rfl) (.tail _ (.head _)) rfl O MR (by decide) res rfl)
    (EvLM.cons (EvM.own0 (μ₀:=[(r,.acc 151 dr [])]) [(f,.lst deeds1)] [(m,.inst 67 dm)] R1 (Ev.name 14 rfl rfl) (.tail _ (.head _)) rfl O MC (by decide) cnt0 rfl)
    (EvLM.cons (EvM.own0 (μ₀:=[(r,.acc 151 dr [])]) [(f,.lst deeds1)] [(m,.inst 67 dm)] R2 (Ev.name 14 rfl rfl) (.tail _ (.head _)) rfl O MO (by decide) pop0 rfl) EvLM.nil))))
  refine Ex.freezeS (p:=[]) 27 rfl hfS (fun b hb=>.tail _ (hS b hb)) fun X' hX1 hX2=>?_
  refine Ex.ret (d:=D.bool true) (Ev.cmp (a:=.lst (deeds1++deeds2)) (b:=.lst (deeds1++deeds2)) R0 ?_ ?_ (Cmp.eqSelf (n:=1) deeds_self (by decide))) fun v s y r=>retT r
  · exact Ev.name 27 rfl rfl
  · rw [deeds_eq]
    refine @lst_9 _ _ _ _ _ _ _ _ _ _ _ _ _ _ _ _ _ _ _ _ _ _ _ _ _ _ _ _ _ _ _ _ _ _
end Mine
end
section
open PySem PySem.Calls PySem.W PyProof.Rows
namespace Mine
noncomputable abbrev foldD (fs:List (List (List Nat))):D:=.lst (fs.map D.fd)
noncomputable abbrev pathD (ps:List (List Nat)):D:=.lst (ps.map D.s)
noncomputable abbrev slD (sb:Nat→Nat):D:=.lst ((List.range 25).map fun k=>D.n (sb k))
noncomputable abbrev toldD (ps:List (List Nat)) (sb:Nat→Nat):D:=.lst ((List.range 5).map fun x=>D.lst ((List.range 5).map fun y=>D.bool (T1.told ps sb x y)))
noncomputable abbrev rankD (ps:List (List Nat)):D:=.lst (ps.map fun p=>D.n (ixOf p (pysort [] ltN ps)))
theorem atR (f:Nat→D) {n k:Nat} (h:k < n):((List.range n).map f)[((k:Nat):Int).toNat]?=some (f k):=by
  rw [Int.toNat_natCast,List.getElem?_map,List.getElem?_range h];rfl
theorem rank_at (ps:List (List Nat)) {x:Nat} (h:x < ps.length):(ps.map fun p=>D.n (ixOf p (pysort [] ltN ps)))[((x:Nat):Int).toNat]?=some (D.n (T1.rank ps x)):=by
  rw [Int.toNat_natCast,List.getElem?_map,List.getElem?_eq_getElem h]
  unfold T1.rank
  rw [List.getD_eq_getElem?_getD,List.getElem?_eq_getElem h];rfl
noncomputable def xBody:List Stmt:=match lawB.drop 22 with | .For _ _ b _ _::_=>b | _=>[]
theorem coll_bits (a b:List Nat):Builtin.Int.intBits (coll a b)≤64:=by
  have:∀ p q:Bool,Builtin.Int.intBits (sub1 p q)≤64:=by decide
  exact this _ _
theorem law_y {C : Cx} (H : Is1 C) {A : Around} (R : Room A 5) {X₁ S : List Addr} {L r dr m dm : Addr} {fs : List (List (List Nat))} {ps : List (List Nat)} {sb : Nat → Nat} {x : Nat} {d0 d1 d4 d5 d6 d7 d12 d13 d14 d15 d16 d17 d18 d19 d20 d23 d24 d25 d26 d27 : Option D}
    (hloc:(lE L).locals∈S) (hcell:∀ b∈(lE L).cells.map (·.2),b∈S) (hS:∀ b∈S,b∈X₁) (hx:x < 5) (f5:fs.length=5) (p5:ps.length=5) (few:∀ f∈fs,f.length≤5) (hp:∀ p∈ps,p.length≤100)
    (tell:∀ y,y < 5→T1.told ps sb x y=(T1.below fs x y && (decide (x≠y) || decide (sb (5*x+y)=0)))) (host:∀ y,y < 5→suburi ([104],ps.getD x []) ([104,104],ps.getD y [])=false)
    (hcoll:∀ y,y < 5→coll (ps.getD x []) (ps.getD y [])*(((T1.rank ps x:Int) - T1.rank ps y).natAbs:Int)=(T1.rank ps x:Int) - T1.rank ps y) (coll0:coll (ps.getD x []) (ps.getD x [])=0) :
    Ex ⟨C,A,X₁,lE L,lns⟩ S [d0,d1,some (foldD fs),some (pathD ps),d4,d5,d6,d7,some (slD sb),some (.val (.ref m)),some (toldD ps sb),some (D.n x),d12,d13,d14,d15,d16,d17,d18,d19,d20,some (rankD ps),some (.s (ps.getD x [])),d23,d24,d25,d26,d27]
      [(r,.acc 151 dr []),(m,.inst 67 dm)] (xBody.drop 6) (fun fl s=>fl=.next∧∃ o12 o25 o26,St ⟨C,A,X₁,lE L,lns⟩ [d0,d1,some (foldD fs),some (pathD ps),d4,d5,d6,d7,some (slD sb),some (.val (.ref m)),some (toldD ps sb),some (D.n x),o12,d13,d14,d15,d16,d17,d18,d19,d20,some (rankD ps),some (.s (ps.getD x [])),d23,d24,o25,o26,d27] [(r,.acc 151 dr []),(m,.inst 67 dm)] s):=by
  obtain ⟨P,hK⟩:=H.K
  have sz:sizeLine=16777216:=rfl
  have two:2≤sizeLine:=by decide
  have R0:Room A 0:=R.zero
  have R1:Room A 1:=R.less (by lia)
  have g1:C.mg "range"=none:=H.noGlob fun P=>by rfl
  have g2:C.mg "len"=none:=H.noGlob fun P=>by rfl
  have g4:C.mg "isinstance"=none:=H.noGlob fun P=>by rfl
  have g5:C.mg "int"=none:=H.noGlob fun P=>by rfl
  have g6:C.mg "bool"=none:=H.noGlob fun P=>by rfl
  have g7:C.mg "abs"=none:=H.noGlob fun P=>by rfl
  have g8:C.mg "_strcoll"=some (.ref 162):=H.glob fun P=>by rfl
  have hmem:(m,Mut.inst 67 dm)∈[(r,Mut.acc 151 dr []),(m,Mut.inst 67 dm)]:=.tail _ (.head _)
  have lfx:∀ l:List (List Nat),l.length≤5→Bi (.builtin "len") [D.fd l] (D.n l.length):=fun l hl=>by
    have:=Bi.lenL (ds:=l.map D.s) (by rw [List.length_map];lia)
    rwa [List.length_map] at this
  have fewD:∀ k,(fs.getD k []).length≤5:=fun k=>by
    rw [List.getD_eq_getElem?_getD]
    cases e:fs[k]? with
    | none=>exact Nat.zero_le _
    | some f=>exact few f (List.mem_of_getElem? e)
  have hpD:∀ k,(ps.getD k []).length≤100:=fun k=>by
    rw [List.getD_eq_getElem?_getD]
    cases e:ps[k]? with
    | none=>exact Nat.zero_le _
    | some f=>exact hp f (List.mem_of_getElem? e)
  refine Ex.forN 12 (d:=.rng 0 ((5:Nat):Int) 1) (ds:=(List.range 5).map D.n) R0 rfl (.l rfl hloc) hS (Ev.callB (ds:=[D.n 5]) R0 (Ev.bltn g1 rfl rfl) (EvL.cons (Ev.int (i:=5)) EvL.nil) Bi.range1) (upto _ (by lia))
    (fun _ ρ μ=>∃ o12 o25 o26,ρ=[d0,d1,some (foldD fs),some (pathD ps),d4,d5,d6,d7,some (slD sb),some (.val (.ref m)),some (toldD ps sb),some (D.n x),o12,d13,d14,d15,d16,d17,d18,d19,d20,some (rankD ps),some (.s (ps.getD x [])),d23,d24,o25,o26,d27]∧μ=[(r,.acc 151 dr []),(m,.inst 67 dm)]) (fun _ _=>False) ?_ ?_ ⟨_,_,_,rfl,rfl⟩ ?_ ?_ ?_
  · rintro i ρ μ ⟨_,_,_,_,rfl⟩;rfl
  · intro _ _ h;exact h.elim
  · rintro wr y d ρ μ hd ⟨o12,o25,o26,rfl,rfl⟩
    obtain ⟨hy,rfl⟩:=range_at hd
    have hty:=tell y hy
    have hcl:=hcoll y hy
    refine Ex.assign 25 (d:=D.bool (T1.below fs x y)) rfl (.l rfl hloc) (Ev.cmp R0 ((Ev.sliceL (ds:=(fs.getD y []).map D.s) (i:=none) (j:=some (((fs.getD x []).length:Nat):Int)) R0 (Ev.itemL (k:=((y:Nat):Int)) R0 (Ev.name 2 rfl rfl) (Ev.name 12 rfl rfl) (by lia) (getDm fs D.fd [] (by lia)) (by rw [List.length_map];lia)) EvP.none (EvP.some (Ev.callB (ds:=[D.fd (fs.getD x [])]) R0 (Ev.bltn g2 rfl rfl) (EvL.cons (Ev.itemL (k:=((x:Nat):Int)) R0 (Ev.name 2 rfl rfl) (Ev.name 11 rfl rfl) (by lia) (getDm fs D.fd [] (by lia)) (by rw [List.length_map];lia)) EvL.nil) (lfx _ (fewD x)))) (by rw [List.length_map];have:=fewD y;lia)).as (d':=.lst (((fs.getD y []).take (fs.getD x []).length).map D.s)) (by rw [cut_to,List.map_take])) (Ev.itemL (k:=((x:Nat):Int)) R0 (Ev.name 2 rfl rfl) (Ev.name 11 rfl rfl) (by lia) (getDm fs D.fd [] (by lia)) (by rw [List.length_map];lia)) (Cmp.eqL Kd.s (by decide) _ _)) ?_
    have slx:5*x+y < 25:=by lia
    have e1:false=decide (T1.told ps sb x y≠(T1.below fs x y && (decide (x≠y) || decide (sb (5*x+y)=0)))):=by rw [hty];simp
    refine Ex.ite (c:=false) ?_ (fun h=>nomatch h) (fun _=>Ex.go ?_)
    · rw [e1]
      refine EvT.cmp R0 (Ev.itemL (k:=((y:Nat):Int)) R0 (Ev.itemL (k:=((x:Nat):Int)) R0 (Ev.name 10 rfl rfl) (Ev.name 11 rfl rfl) (by lia) (atR _ hx) (by simp;lia)) (Ev.name 12 rfl rfl) (by lia) (atR _ hy) (by simp;lia)) (Ev.and (EvAndV.cons (Ev.name 25 rfl rfl) (fun _=>EvAndV.one (Ev.or (EvOrV.cons ((Ev.cmp R0 (Ev.name 11 rfl rfl) (Ev.name 12 rfl rfl) Cmp.ne).as (d':=D.bool (decide (x≠y))) ?_) (fun _=>EvOrV.one ?_)))))) (Cmp.isNotB _ _)
      · congr 2
        rw [Bool.eq_iff_iff,bne_iff_ne,decide_eq_true_eq]
        exact ⟨fun h e=>h (by rw [e]),fun h e=>h (by lia)⟩
      · exact Ev.cmp R0 (Ev.itemL (k:=(((5*x+y:Nat)):Int)) R0 (Ev.name 8 rfl rfl) (Ev.bin R0 (Ev.bin R0 (Ev.int (i:=5)) (Ev.name 11 rfl rfl) (Bin.mulN (a:=5) (by decide))) (Ev.name 12 rfl rfl) Bin.addN) (by lia) (atR _ slx) (by simp;lia)) (Ev.int (i:=0)) (Cmp.eqN (b:=0))
    refine Ex.ite (c:=false) ?_ (fun h=>nomatch h) (fun _=>Ex.go ?_)
    · have e:false=decide (suburi ([104],ps.getD x []) ([104,104],ps.getD y [])≠false):=by rw [host y hy];simp
      rw [e]
      exact EvT.cmp R0 (Ev.own (m:=.inst 67 dm) R1 (Ev.name 9 rfl rfl) hmem rfl (by show ClsOk C.K _;rw [hK];exact mgrOk P) (by show MethOk C.K _ _ _;rw [hK];exact mSub P) (by decide) (EvL.cons (Ev.tup (EvL.cons (Ev.str (x:="h")) (EvL.cons (Ev.name 22 rfl rfl) EvL.nil)) two) (EvL.cons (Ev.tup (EvL.cons (Ev.str (x:="hh")) (EvL.cons (Ev.itemL (k:=((y:Nat):Int)) R0 (Ev.name 3 rfl rfl) (Ev.name 12 rfl rfl) (by lia) (getDm ps D.s [] (by lia)) (by rw [List.length_map];lia)) EvL.nil)) two) EvL.nil)) (fn_sub H (.ref m) ([104],ps.getD x []) ([104,104],ps.getD y []) (by have:=hpD x;show (ps.getD x []).length≤_;lia) (by show 1≤_;decide) (by have:=hpD y;show (ps.getD y []).length≤_;lia))) Ev.bool (Cmp.isNotB _ false)
    refine Ex.assign 26 (d:=.int (coll (ps.getD x []) (ps.getD y []))) rfl (.l rfl hloc) (Ev.call (ds:=[.s (ps.getD x []),.s (ps.getD y [])]) R1 (Ev.glob g8 rfl) (by show keepIn C.K _=true;rw [hK];rfl) (EvL.cons (Ev.name 22 rfl rfl) (EvL.cons (Ev.itemL (k:=((y:Nat):Int)) R0 (Ev.name 3 rfl rfl) (Ev.name 12 rfl rfl) (by lia) (getDm ps D.s [] (by lia)) (by rw [List.length_map];lia)) EvL.nil)) (Fn.of_M (fn_coll H _ _))) ?_
    have hcb:=coll_bits (ps.getD x []) (ps.getD y [])
    have c0:x=y→coll (ps.getD x []) (ps.getD y [])=0:=fun e=>by rw [← e];exact coll0
    generalize coll (ps.getD x []) (ps.getD y [])=cl at *
    refine Ex.ite (c:=false) (EvT.or (EvOr.cons (a:=false) (EvT.not (b:=true) (EvT.val R0 (Ev.callB (ds:=[.int cl,.val (.type "int")]) R0 (Ev.bltn g4 rfl rfl) (EvL.cons (Ev.name 26 rfl rfl) (EvL.cons (Ev.bltn g5 rfl rfl) EvL.nil)) Bi.isiInt) (Tru.bool _))) (fun _=>EvOr.cons (a:=false) (EvT.val R0 (Ev.callB (ds:=[.int cl,.val (.type "bool")]) R0 (Ev.bltn g4 rfl rfl) (EvL.cons (Ev.name 26 rfl rfl) (EvL.cons (Ev.bltn g6 rfl rfl) EvL.nil)) Bi.isiBool) (Tru.bool _)) (fun _=>EvOr.cons (a:=false) ?_ fun _=>EvOr.nil)))) (fun h=>nomatch h) (fun _=>Ex.go ?_)
    · have e:false=(decide (x=y) && ((cl != 0) && true)):=by
        by_cases h:x=y
        · rw [c0 h];simp
        · rw [decide_eq_false h];rfl
      rw [e]
      exact EvT.and (EvAnd.cons (EvT.cmp R0 (Ev.name 11 rfl rfl) (Ev.name 12 rfl rfl) Cmp.eqN) fun _=>EvAnd.cons (EvT.cmp R0 (Ev.name 26 rfl rfl) (Ev.int (i:=0)) Cmp.ne) fun _=>EvAnd.nil)
    refine Ex.ite (c:=false) ?_ (fun h=>nomatch h) (fun _=>Ex.go (Ex.nil fun s z=>⟨_,_,⟨_,_,_,rfl,rfl⟩,z⟩))
    have e:false=(cl*(((T1.rank ps x:Int) - T1.rank ps y).natAbs:Int) != (T1.rank ps x:Int) - T1.rank ps y):=by rw [hcl];simp
    rw [e]
    have rk:∀ {k:Nat} {n:Str} {p q:Pos} {a:Expr} {G':G} {ρ':List (Option D)} {μ':List (Addr × Mut)},Room G'.A 0→k < 5→Ev G' ρ' μ' a (rankD ps)→Ev G' ρ' μ' (.Name n q) (D.n k)→Ev G' ρ' μ' (.Subscript a (.Name n q) p) (.int (T1.rank ps k)):=fun R hk ha hb=>Ev.itemL R ha hb (by lia) (rank_at ps (by lia)) (by rw [List.length_map];lia)
    exact EvT.cmp R0 (Ev.bin R0 (Ev.name 26 rfl rfl) (Ev.callB (ds:=[.int ((T1.rank ps x:Int) - T1.rank ps y)]) R0 (Ev.bltn g7 rfl rfl) (EvL.cons (Ev.bin R0 (rk R0 hx (Ev.name 21 rfl rfl) (Ev.name 11 rfl rfl)) (rk R0 hy (Ev.name 21 rfl rfl) (Ev.name 12 rfl rfl)) Bin.minus) EvL.nil) Bi.abs) (Bin.mul (IntMulOk.of_left hcb))) (Ev.bin R0 (rk R0 hx (Ev.name 21 rfl rfl) (Ev.name 11 rfl rfl)) (rk R0 hy (Ev.name 21 rfl rfl) (Ev.name 12 rfl rfl)) Bin.minus) Cmp.ne
  · rintro ρ μ ⟨o12,o25,o26,rfl,rfl⟩
    exact Ex.nil fun s z=>⟨rfl,_,_,_,z⟩
  · intro _ _ h;exact h.elim
end Mine
end
section
open PySem PySem.Calls PySem.W PyProof.Rows
namespace Mine
theorem cut_from {α:Type} (l:List α) (a:Nat):cut l (some (a:Int)) none=l.drop a:=by
  have e:clipN l.length (a:Int)=min a l.length:=clipN_nat _ _
  unfold cut
  simp only [Option.elim_some,Option.elim_none,e]
  by_cases h:a≤l.length
  · rw [Nat.min_eq_left h,List.take_of_length_le (by simp)]
  · rw [Nat.min_eq_right (by lia),List.drop_eq_nil_of_le (by lia),List.drop_eq_nil_of_le (by lia)];simp
theorem EvT.as {g:G} {ρ:List (Option D)} {μ:List (Addr × Mut)} {e:Expr} {b c:Bool} (h:EvT g ρ μ e b) (q:b=c):EvT g ρ μ e c:=q ▸ h
theorem pad_ev {g : G} {ρ : List (Option D)} {μ : List (Addr × Mut)} {a b : Expr} {k : Nat} {pc p1 p2 : Pos} {w n : Nat} (R : Room g.A 0) (hw : Ev g ρ μ a (D.n w)) (hl : Ev g ρ μ b (D.n n)) (h : n ≤ w) (h1 : w ≤ 100) :
    Ev g ρ μ (.BinOp (.Constant (.str " ") k pc) .Mult (.BinOp a .Sub b p1) p2) (.s (List.replicate (w - n) 32)):=by
  have:=Ev.bin (pos:=p2) R (Ev.str (x:=" ") (k:=k) (pos:=pc)) (Ev.bin (pos:=p1) R hw hl (Bin.subN h)) (Bin.mulS (a:=[32]) (n:=((w - n:Nat):Int)) (by lia) (by lia) (by decide))
  rw [rep_one,Int.toNat_natCast] at this
  exact this
theorem law_d {C : Cx} (H : Is1 C) {A : Around} (R : Room A 5) {X₁ Y S : List Addr} {L r dr m dm : Addr} {fs : List (List (List Nat))} {ps : List (List Nat)} {sb : Nat → Nat} {w : Nat} {d0 d1 d5 d6 d11 d12 d13 d15 d17 d18 d19 d20 d21 d22 d23 d24 d25 d26 d27 : Option D}
    (hloc:(lE L).locals∈S) (hcell:∀ b∈(lE L).cells.map (·.2),b∈S) (hS:∀ b∈S,b∈X₁) (hr:r∈S∧dr∈S) (hm:m∈S∧dm∈S) (f5:fs.length=5) (p5:ps.length=5) (few:∀ f∈fs,f.length≤5) (hp:∀ p∈ps,p.length≤w) (hw:w≤100)
    (tell:∀ x,x < 5→∀ y,y < 5→T1.told ps sb x y=(T1.below fs x y && (decide (x≠y) || decide (sb (5*x+y)=0)))) (host:∀ x,x < 5→∀ y,y < 5→suburi ([104],ps.getD x []) ([104,104],ps.getD y [])=false)
    (hcoll:∀ x,x < 5→∀ y,y < 5→coll (ps.getD x []) (ps.getD y [])*(((T1.rank ps x:Int) - T1.rank ps y).natAbs:Int)=(T1.rank ps x:Int) - T1.rank ps y) (coll0:∀ x,x < 5→coll (ps.getD x []) (ps.getD x [])=0)
    (strange:∀ x,x < 5→∀ b∈[([104,104],ps.getD x []),([72],ps.getD x []),([104],[47,65]++(ps.getD x []).drop 2)],suburi b ([104],ps.getD x []++[47])=false)
    (same:∀ x,x < 5→∀ b∈[([104],[]),([104],ps.getD x [])],suburi b ([104],ps.getD x []++[47])=true)
    (ahead:∀ x,x < 5→suburi ([104],ps.getD x []) ([104],[47,97]++ps.getD x []++[47])=decide (x=0))
    (srt:(pysort [] ltN ps).Perm ps) :
    Ex ⟨C,A,X₁,lE L,lns⟩ S [d0,d1,some (foldD fs),some (pathD ps),some (D.n w),d5,d6,some (pathD (ps.map (T1.field w))),some (slD sb),some (.val (.ref m)),some (toldD ps sb),d11,d12,d13,some (.val (.ref r)),d15,some (.lst (ps.map D.ns)),d17,d18,d19,d20,d21,d22,d23,d24,d25,d26,d27]
      [(r,.acc 151 dr []),(m,.inst 67 dm)] (lawB.drop 20) (RetAs Y (D.bool true) []):=by
  obtain ⟨P,hK⟩:=H.K
  have sz:sizeLine=16777216:=rfl
  have two:2≤sizeLine:=by decide
  have R0:Room A 0:=R.zero
  have R1:Room A 1:=R.less (by lia)
  have R2:Room A 2:=R.less (by lia)
  have g1:C.mg "range"=none:=H.noGlob fun P=>by rfl
  have g2:C.mg "len"=none:=H.noGlob fun P=>by rfl
  have g3:C.mg "sorted"=none:=H.noGlob fun P=>by rfl
  have g9:C.mg "_strxfrm"=some (.ref 169):=H.glob fun P=>by rfl
  have hmem:(m,Mut.inst 67 dm)∈[(r,Mut.acc 151 dr []),(m,Mut.inst 67 dm)]:=.tail _ (.head _)
  have hpD:∀ k,(ps.getD k []).length≤100:=fun k=>by
    rw [List.getD_eq_getElem?_getD]
    cases e:ps[k]? with
    | none=>exact Nat.zero_le _
    | some f=>have:=hp f (List.mem_of_getElem? e);show f.length≤100;lia
  have hdS:∀ ds:List D,∀ b∈doms [(r,Mut.acc 151 dr ds),(m,Mut.inst 67 dm)],b∈S:=fun ds b hb=>by
    have:b=r∨b=dr∨b=m∨b=dm:=by simpa [doms,Mut.more] using hb
    rcases this with rfl | rfl | rfl | rfl
    · exact hr.1
    · exact hr.2
    · exact hm.1
    · exact hm.2
  refine Ex.ite (c:=false) ?_ (fun h=>nomatch h) (fun _=>Ex.go ?_)
  · have e:false=decide (ps.map (T1.field w)≠ps.map (T1.field w)):=by simp
    rw [e]
    refine EvT.cmp R0 (Ev.name 7 rfl rfl) ((EvN.comp D.s ps (fun _=>true) (fun p=>D.s (T1.field w p)) [(4,"width")] R0 (by rfl) (Ev.name 3 rfl rfl) Src.lst (by lia) (fun X' L' p hp'=>⟨EvIfs.nil,fun _=>?_⟩)).ev.as (d':=pathD (ps.map (T1.field w))) (by rw [filter_yes,pathD,List.map_map];rfl)) (Cmp.neL Kd.s (by decide) _ _)
    have hpl:=hp p hp'
    have hpl2:p.length≤sizeLine:=by lia
    exact Ev.bin R0 (Ev.revS R0 (Ev.name 0 rfl rfl) (Ev.neg (Ev.int (i:=1))) hpl2) (pad_ev R0 (Ev.name 1 rfl rfl) (Ev.callB (ds:=[.s p]) R0 (Ev.bltn g2 rfl rfl) (EvL.cons (Ev.name 0 rfl rfl) EvL.nil) (Bi.lenS hpl2)) hpl hw) (Bin.addS (by rw [List.length_reverse,List.length_replicate];lia))
  refine Ex.assignC 21 D.ns ps (fun _=>true) (fun p=>D.n (ixOf p (pysort [] ltN ps))) [(16,"codes")] R0 rfl (.l rfl hloc) hS (by rfl) (Ev.name 16 rfl rfl) Src.lst (by lia) (fun X' L' p hp'=>⟨EvIfs.nil,fun _=>?_⟩) ?_
  · have hs:=srt.mem_iff.mpr hp'
    have hl:(pysort [] ltN ps).length≤sizeLine:=by rw [srt.length_eq];lia
    exact Ev.meth (d₀:=.lst ((pysort [] ltN ps).map D.ns)) (ds:=[D.ns p]) R0 F.plainAttrs_list F.slot_list_index F.type_list_index (Ev.sortedN R0 (Ev.bltn g3 rfl rfl) (Ev.name 1 rfl rfl) (by lia)) isLst (EvL.cons (Ev.name 0 rfl rfl) EvL.nil) (Bi.index (Kd.lst Kd.nat) (by decide) hs hl)
  rw [filter_yes]
  refine Ex.forN 11 (d:=.rng 0 ((5:Nat):Int) 1) (ds:=(List.range 5).map D.n) R0 rfl (.c rfl rfl hcell) hS (Ev.callB (ds:=[D.n 5]) R0 (Ev.bltn g1 rfl rfl) (EvL.cons (Ev.int (i:=5)) EvL.nil) Bi.range1) (upto _ (by lia))
    (fun _ ρ μ=>∃ o11 o12 o22 o23 o24 o25 o26,ρ=[d0,d1,some (foldD fs),some (pathD ps),some (D.n w),d5,d6,some (pathD (ps.map (T1.field w))),some (slD sb),some (.val (.ref m)),some (toldD ps sb),o11,o12,d13,some (.val (.ref r)),d15,some (.lst (ps.map D.ns)),d17,d18,d19,d20,some (rankD ps),o22,o23,o24,o25,o26,d27]∧μ=[(r,.acc 151 dr []),(m,.inst 67 dm)]) (fun _ _=>False) ?_ ?_ ⟨_,_,_,_,_,_,_,rfl,rfl⟩ ?_ ?_ ?_
  · rintro i ρ μ ⟨_,_,_,_,_,_,_,_,rfl⟩;rfl
  · intro _ _ h;exact h.elim
  · rintro wr x d ρ μ hd ⟨o11,o12,o22,o23,o24,o25,o26,rfl,rfl⟩
    obtain ⟨hx,rfl⟩:=range_at hd
    have hS':∀ b∈S,b∈wr++X₁:=fun b hb=>List.mem_append_right _ (hS b hb)
    have hy:=law_y H (A:=A) R (X₁:=wr++X₁) (r:=r) (dr:=dr) (m:=m) (dm:=dm) (fs:=fs) (ps:=ps) (sb:=sb) (d0:=d0) (d1:=d1) (d4:=some (D.n w)) (d5:=d5) (d6:=d6) (d7:=some (pathD (ps.map (T1.field w)))) (d12:=o12) (d13:=d13) (d14:=some (.val (.ref r))) (d15:=d15) (d16:=some (.lst (ps.map D.ns))) (d17:=d17) (d18:=d18) (d19:=d19) (d20:=d20)
      (d23:=some (D.ss ([104],ps.getD x []++[47]))) (d24:=some (.lst ([([104,104],ps.getD x []),([72],ps.getD x []),([104],[47,65]++(ps.getD x []).drop 2)].map D.ss))) (d25:=o25) (d26:=o26) (d27:=d27) hloc hcell hS' hx f5 p5 few (fun p h=>Nat.le_trans (hp p h) hw) (tell x hx) (host x hx) (hcoll x hx) (coll0 x hx)
    have q1:=strange x hx
    have q2:=same x hx
    have q3:=ahead x hx
    have hl:=hpD x
    refine Ex.assign 22 (d:=.s (ps.getD x [])) rfl (.l rfl hloc) (Ev.itemL (k:=((x:Nat):Int)) R0 (Ev.name 3 rfl rfl) (Ev.name 11 rfl rfl) (by lia) (getDm ps D.s [] (by lia)) (by rw [List.length_map];lia)) ?_
    generalize ps.getD x []=here at *
    have hin:(here++[47]).length≤101:=by rw [List.length_append];show here.length+1≤101;lia
    refine Ex.assign 23 (d:=D.ss ([104],here++[47])) rfl (.c rfl rfl hcell) (Ev.tup (EvL.cons (Ev.str (x:="h")) (EvL.cons (Ev.bin R0 (Ev.name 22 rfl rfl) (Ev.str (x:="/")) (Bin.addS (b:=[47]) (by show here.length+1≤_;lia))) EvL.nil)) two) ?_
    refine @Ex.assign _ _ _ _ _ _ 24 _ _ _ _ (.lst ([([104,104],here),([72],here),([104],[47,65]++here.drop 2)].map D.ss)) rfl (.l rfl hloc) (@Ev.lst _ _ _ _ _ _ (@EvL.cons _ _ _ _ _ _ _ _ (@Ev.tup _ _ _ _ _ _ _ (@EvL.cons _ _ _ _ _ _ _ _ (Ev.str (x:="hh")) (@EvL.cons _ _ _ _ _ _ _ _ (Ev.name 22 rfl rfl) EvL.nil rfl) rfl) two) (@EvL.cons _ _ _ _ _ _ _ _ (@Ev.tup _ _ _ _ _ _ _ (@EvL.cons _ _ _ _ _ _ _ _ (Ev.str (x:="H")) (@EvL.cons _ _ _ _ _ _ _ _ (Ev.name 22 rfl rfl) EvL.nil rfl) rfl) two) (@EvL.cons _ _ _ _ _ _ _ _ (@Ev.tup _ _ _ _ _ _ _ (@EvL.cons _ _ _ _ _ _ _ _ (Ev.str (x:="h")) (@EvL.cons _ _ _ _ _ _ _ _ (Ev.bin R0 (Ev.str (x:="/A")) ((Ev.sliceS R0 (Ev.name 22 rfl rfl) (EvP.some (Ev.int (i:=2))) EvP.none (by lia)).as (d':=.s (here.drop 2)) (by rw [show (2:Int)=((2:Nat):Int) from rfl,cut_from])) (Bin.addS (a:=[47,65]) (by rw [List.length_drop];show 2+(here.length - 2)≤_;lia))) EvL.nil rfl) rfl) two) EvL.nil rfl) rfl) rfl) (by show 3≤_;decide)) ?_ rfl
    have hdr:([47,65]++here.drop 2).length≤102:=by rw [List.length_append,List.length_drop];show 2+(here.length - 2)≤102;lia
    refine Ex.ite (c:=false) ?_ (fun h=>nomatch h) (fun _=>Ex.go ?_)
    · have e:false=decide (([([104,104],here),([72],here),([104],[47,65]++here.drop 2)].filter fun p:List Nat × List Nat=>decide (suburi p ([104],here++[47])≠false))≠[]):=by
        have h:([([104,104],here),([72],here),([104],[47,65]++here.drop 2)].filter fun p:List Nat × List Nat=>decide (suburi p ([104],here++[47])≠false))=[]:=by
          rw [List.filter_eq_nil_iff]
          intro p hp
          rw [q1 p hp];decide
        rw [h];rfl
      refine EvT.as ?_ e.symm
      refine EvT.cmp R0 (EvN.comp D.ss [([104,104],here),([72],here),([104],[47,65]++here.drop 2)] (fun p=>decide (suburi p ([104],here++[47])≠false)) D.ss [(9,"manager"),(23,"inside")] R0 (by rfl) (Ev.name 24 rfl rfl) Src.lst (by show 3≤_;decide) (fun X' L' p hp'=>⟨EvIfs.one ?_,fun _=>Ev.name 0 rfl rfl⟩)).ev (Ev.lst (ds:=[]) EvL.nil) (Cmp.neL (Kd.pair Kd.s Kd.s) (by decide) _ [])
      have hpl:p.1.length≤1000∧p.2.length≤1000:=by
        simp only [List.mem_cons,List.not_mem_nil,or_false] at hp'
        rcases hp' with rfl | rfl | rfl
        · exact ⟨by show 2≤1000;decide,by show here.length≤_;lia⟩
        · exact ⟨by show 1≤1000;decide,by show here.length≤_;lia⟩
        · exact ⟨by show 1≤1000;decide,by show ([47,65]++here.drop 2).length≤_;lia⟩
      exact EvT.cmp R0 (Ev.own (m:=.inst 67 dm) R1 (Ev.name 1 rfl rfl) hmem rfl (by show ClsOk C.K _;rw [hK];exact mgrOk P) (by show MethOk C.K _ _ _;rw [hK];exact mSub P) (by decide) (EvL.cons (Ev.name 0 rfl rfl) (EvL.cons (Ev.name 2 rfl rfl) EvL.nil)) (fn_sub H (.ref m) p ([104],here++[47]) (by lia) (by lia) (by show (here++[47]).length≤_;lia))) Ev.bool (Cmp.isNotB _ false)
    refine Ex.ite (c:=false) ?_ (fun h=>nomatch h) (fun _=>Ex.go ?_)
    · have e:false=decide (([([104],[]),([104],here)].filter fun p:List Nat × List Nat=>decide (suburi p ([104],here++[47])≠true))≠[]):=by
        have h:([([104],[]),([104],here)].filter fun p:List Nat × List Nat=>decide (suburi p ([104],here++[47])≠true))=[]:=by
          rw [List.filter_eq_nil_iff]
          intro p hp
          rw [q2 p hp];decide
        rw [h];rfl
      refine EvT.as ?_ e.symm
      refine EvT.cmp R0 (EvN.comp D.ss [([104],[]),([104],here)] (fun p=>decide (suburi p ([104],here++[47])≠true)) D.ss [(9,"manager"),(23,"inside")] R0 (by rfl) (Ev.lst (ds:=[D.ss ([104],[]),D.ss ([104],here)]) (EvL.cons (Ev.tup (EvL.cons (Ev.str (x:="h")) (EvL.cons (Ev.str (x:="")) EvL.nil)) two) (EvL.cons (Ev.tup (EvL.cons (Ev.str (x:="h")) (EvL.cons (Ev.name 22 rfl rfl) EvL.nil)) two) EvL.nil)) two) Src.lst two (fun X' L' p hp'=>⟨EvIfs.one ?_,fun _=>Ev.name 0 rfl rfl⟩)).ev (Ev.lst (ds:=[]) EvL.nil) (Cmp.neL (Kd.pair Kd.s Kd.s) (by decide) _ [])
      have hpl:p.1.length≤1000∧p.2.length≤1000:=by
        simp only [List.mem_cons,List.not_mem_nil,or_false] at hp'
        rcases hp' with rfl | rfl
        · exact ⟨by show 1≤1000;decide,by show 0≤1000;decide⟩
        · exact ⟨by show 1≤1000;decide,by show here.length≤_;lia⟩
      exact EvT.cmp R0 (Ev.own (m:=.inst 67 dm) R1 (Ev.name 1 rfl rfl) hmem rfl (by show ClsOk C.K _;rw [hK];exact mgrOk P) (by show MethOk C.K _ _ _;rw [hK];exact mSub P) (by decide) (EvL.cons (Ev.name 0 rfl rfl) (EvL.cons (Ev.name 2 rfl rfl) EvL.nil)) (fn_sub H (.ref m) p ([104],here++[47]) (by lia) (by lia) (by show (here++[47]).length≤_;lia))) Ev.bool (Cmp.isNotB _ true)
    refine Ex.ite (c:=false) ?_ (fun h=>nomatch h) (fun _=>Ex.go ?_)
    · have e:false=decide (suburi ([104],here) ([104],[47,97]++here++[47])≠decide (x=0)):=by rw [q3];simp
      refine EvT.as ?_ e.symm
      have hal:([47,97]++here++[47]).length≤103:=by simp;lia
      exact EvT.cmp R0 (Ev.own (m:=.inst 67 dm) R1 (Ev.name 9 rfl rfl) hmem rfl (by show ClsOk C.K _;rw [hK];exact mgrOk P) (by show MethOk C.K _ _ _;rw [hK];exact mSub P) (by decide) (EvL.cons (Ev.tup (EvL.cons (Ev.str (x:="h")) (EvL.cons (Ev.name 22 rfl rfl) EvL.nil)) two) (EvL.cons (Ev.tup (EvL.cons (Ev.str (x:="h")) (EvL.cons (Ev.bin R0 (Ev.bin R0 (Ev.str (x:="/a")) (Ev.name 22 rfl rfl) (Bin.addS (a:=[47,97]) (by show 2+here.length≤_;lia))) (Ev.str (x:="/")) (Bin.addS (b:=[47]) (by simp;lia))) EvL.nil)) two) EvL.nil)) (fn_sub H (.ref m) ([104],here) ([104],[47,97]++here++[47]) (by show here.length≤_;lia) (by show 1≤_;decide) (by show ([47,97]++here++[47]).length≤_;lia))) (Ev.cmp R0 (Ev.name 11 rfl rfl) (Ev.int (i:=0)) (Cmp.eqN (b:=0))) (Cmp.isNotB _ _)
    refine Ex.mono hy ?_
    rintro fl s ⟨rfl,o12,o25,o26,z⟩
    exact ⟨_,_,⟨_,_,_,_,_,_,_,rfl,rfl⟩,z⟩
  · rintro ρ μ ⟨o11,o12,o22,o23,o24,o25,o26,rfl,rfl⟩
    have pop0:FnM C 2 (.ref 111) [.val (.ref r)] [(r,.acc 151 dr [])] (D.ss ([],[])) [(r,.acc 151 dr [])]:=fn_pop H r dr [] (by decide)
    have O:ClsOk C.K 151:=by rw [hK];exact (accOk P).ok
    have MO:MethOk C.K 151 "pop" 111:=by rw [hK];exact mPop P
    refine Ex.iteM (c:=false) (μ':=[(r,.acc 151 dr []),(m,.inst 67 dm)]) (EvTM.or (EvOrM.same (p:=false) (μ':=[(r,.acc 151 dr []),(m,.inst 67 dm)]) (EvT.M ?_) (fun _=>EvOrM.same (p:=false) (μ':=[(r,.acc 151 dr []),(m,.inst 67 dm)]) ?_ (fun _=>EvOrM.nil) rfl) rfl)) (hdS _) (fun h=>nomatch h) (fun _=>Ex.go (law_e H R hloc hcell hS hr hm))
    · have e:false=decide (ps.map (T1.field w)≠ps.map (T1.field w)):=by simp
      refine EvT.as ?_ e.symm
      refine EvT.cmp R0 ((EvN.comp D.s (ps.map (T1.field w)) (fun _=>true) D.s [] R0 (by rfl) (Ev.name 7 rfl rfl) Src.lst (by rw [List.length_map];lia) (fun X' L' p hp'=>⟨EvIfs.nil,fun _=>?_⟩)).ev.as (d':=pathD (ps.map (T1.field w))) (by rw [filter_yes])) (Ev.name 7 rfl rfl) (Cmp.neL Kd.s (by decide) _ _)
      exact Ev.call (ds:=[.s p]) R1 (Ev.glob g9 rfl) (by show keepIn C.K _=true;rw [hK];rfl) (EvL.cons (Ev.name 0 rfl rfl) EvL.nil) (Fn.of_M (fn_xfrm H (.s p)))
    · have e:false=decide ((([],[]):List Nat × List Nat)≠([],[])):=by simp
      rw [e]
      exact EvTM.cmp R0 (EvM.own0 (μ₀:=[(r,.acc 151 dr [])]) (μ₁:=[(r,.acc 151 dr [])]) [] [(m,.inst 67 dm)] R2 (Ev.name 14 rfl rfl) (.head _) rfl O MO (by decide) pop0 rfl) (Ev.tup (EvL.cons (Ev.str (x:="")) (EvL.cons (Ev.str (x:="")) EvL.nil)) two) (Cmp.neP Kd.s Kd.s (by decide) ([],[]) ([],[]))
  · intro _ _ h;exact h.elim
end Mine
end
section
open PySem PySem.Calls PySem.W PyProof.Rows PySem.Builtin.Int
namespace Mine
namespace T1
theorem walk_low (texts:List Pc) (homes:List Int):∀ n gone waits f0 f1,gone.length+n=5→∀ e∈walk texts homes n gone waits f0 f1,e.1≤f0+5*n∧e.2.1≤f1+5*n∧e.2.2=true
  | 0,gone,waits,f0,f1,_,e,he=>by
    rw [List.mem_singleton.mp he];exact ⟨Nat.le_refl _,Nat.le_refl _,rfl⟩
  | n+1,gone,waits,f0,f1,hg,e,he=>by
    obtain ⟨x,_,hx⟩:=List.mem_flatMap.mp he
    split at hx
    · have:=walk_low texts homes n (gone++[x]) _ _ _ (by rw [List.length_append,List.length_singleton];lia) e hx
      refine ⟨Nat.le_trans this.1 ?_,Nat.le_trans this.2.1 ?_,this.2.2⟩
      · split <;> lia
      · split <;> lia
    · cases hx
theorem worth_bits:∀ (l:List Nat),(∀ k∈l,k≤100)→intBits (worth l)≤1001+l.length
  | [],_=>by show intBits 0≤_;exact Nat.le_trans (by decide:intBits 0≤1) (by lia)
  | k::l,h=>by
    have h1:=worth_bits l fun x hx=>h x (.tail _ hx)
    have h2:=bitsPow k
    have h3:=h k (.head _)
    have:=intBits_add_le (x:=(1000:Int) ^ k) (y:=worth l) (m:=1001) (Nat.le_trans h2 (by lia)) h1
    show intBits ((1000:Int) ^ k+worth l)≤_
    rw [List.length_cons]
    refine Nat.le_trans this ?_
    rw [Nat.max_eq_right (by lia)];lia
end T1
section
variable {g:G} {S:List Addr} {ρ:List (Option D)} {μ μ':List (Addr × Mut)} {rest:List Stmt} {Φ:Flow→Shared→Prop}
theorem Ex.assignT2 (i1 i2 : Nat) {x1 x2 : Str} {q1 q2 p pos : Pos} {k : Nat} {e : Expr} {a b : D} (R : Room g.A 0) (h1 : g.ns[i1]? = some x1 ∧ Stored g S x1) (h2 : g.ns[i2]? = some x2 ∧ Stored g S x2) (hS : ∀ a ∈ S, a ∈ g.X) (hμ : ∀ a ∈ doms μ, a ∈ S)
    (he:EvM g ρ μ e (.tup [a,b]) μ') (kk:Ex g S ((ρ.set i1 (some a)).set i2 (some b)) μ' rest Φ)
    (hs:swapsWithSole [.Tuple [.Name x1 q1,.Name x2 q2] k p] e pos.line g.env=pure false:=by rfl) (hw:swappedStores [.Tuple [.Name x1 q1,.Name x2 q2] k p] e g.env=pure none:=by rfl) :
    Ex g S ρ μ (.Assign [.Tuple [.Name x1 q1,.Name x2 q2] k p] e pos::rest) Φ :=
  Ex.assignT [(i1,x1,q1),(i2,x2,q2)] R rfl (fun t ht=>by
    simp only [List.mem_cons,List.not_mem_nil,or_false] at ht
    rcases ht with rfl | rfl
    · exact h1
    · exact h2) hS hμ he rfl kk hs hw
end
theorem Ev.revN {g : G} {ρ : List (Option D)} {μ : List (Addr × Mut)} {v st : Expr} {p pos : Pos} {l : List Nat} (R : Room g.A 0) (hv : Ev g ρ μ v (D.ns l)) (hst : Ev g ρ μ st (.int (-1))) (hz : l.length ≤ sizeLine) :
    Ev g ρ μ (.Subscript v (.Slice Option.none Option.none (Option.some st) p) pos) (D.ns l.reverse):=by
  have:=Ev.revL (p:=p) (pos:=pos) R hv hst (by rwa [List.length_map])
  rwa [← List.map_reverse] at this
noncomputable abbrev endD (es:List (Nat × Nat × Bool)):D:=.lst (es.map T1.D.e3)
noncomputable abbrev codeD (ps:List (List Nat)):D:=.lst (ps.map D.ns)
noncomputable abbrev readD (ps:List (List Nat)):D:=.lst [codeD ps,codeD (ps.map List.reverse)]
theorem read_at (ps:List (List Nat)) {k:Nat} (h:k < 2):[codeD ps,codeD (ps.map List.reverse)][((k:Nat):Int).toNat]?=some (codeD (ps.map (T1.code k))):=by
  match k,h with
  | 0,_=>show some (codeD ps)=some (codeD (ps.map fun p=>p));rw [List.map_id']
  | 1,_=>rfl
noncomputable def fallsOf (k:Nat) (e:Nat × Nat × Bool):Nat:=if k=0 then e.1 else e.2.1
theorem e3_at (e:Nat × Nat × Bool) {k:Nat} (h:k < 2):[D.n e.1,D.n e.2.1,D.bool e.2.2][((k:Nat):Int).toNat]?=some (D.n (fallsOf k e)):=by
  match k,h with
  | 0,_=>rfl
  | 1,_=>rfl
theorem law_c1 {C : Cx} (H : Is1 C) {A : Around} (R : Room A 5) {X₁ S : List Addr} {L : Addr} {μ : List (Addr × Mut)} {fs : List (List (List Nat))} {ps : List (List Nat)} {es : List (Nat × Nat × Bool)} {d0 d1 d4 d5 d6 d7 d8 d9 d10 d11 d12 d13 d14 d16 d17 d18 d19 d20 d21 d22 d23 d24 d25 d26 d27 : Option D} {Φ : Flow → Shared → Prop}
    (hloc:(lE L).locals∈S) (hcell:∀ b∈(lE L).cells.map (·.2),b∈S) (hS:∀ b∈S,b∈X₁) (hμ:∀ b∈doms μ,b∈S) (f5:fs.length=5) (p5:ps.length=5) (few:∀ f∈fs,f.length≤5) (hp:∀ p∈ps,p.length≤100)
    (par:∀ x,x < 5→1 < (fs.getD x []).length→(fs.getD x []).dropLast∈fs) (el:es.length≤3125) (ee:∀ e∈es,e.1≤100∧e.2.1≤100∧e.2.2=true)
    (prod:∀ k,k < 2→T1.worth (es.map (fallsOf k))*T1.leftP fs 5=T1.rightP fs (ps.map (T1.code k)) 5)
    (kk:∀ o18 o19 o20 s,St ⟨C,A,X₁,lE L,lns⟩ [d0,d1,some (foldD fs),some (pathD ps),d4,d5,d6,d7,d8,d9,d10,d11,d12,d13,d14,some (endD es),some (codeD ps),some (readD ps),o18,o19,o20,d21,d22,d23,d24,d25,d26,d27] μ s→Φ .next s) :
    Ex ⟨C,A,X₁,lE L,lns⟩ S [d0,d1,some (foldD fs),some (pathD ps),d4,d5,d6,d7,d8,d9,d10,d11,d12,d13,d14,some (endD es),d16,d17,d18,d19,d20,d21,d22,d23,d24,d25,d26,d27] μ ((lawB.drop 15).take 4) Φ:=by
  obtain ⟨P,hK⟩:=H.K
  have sz:sizeLine=16777216:=rfl
  have two:2≤sizeLine:=by decide
  have R0:Room A 0:=R.zero
  have R1:Room A 1:=R.less (by lia)
  have g1:C.mg "range"=none:=H.noGlob fun P=>by rfl
  have g2:C.mg "ord"=none:=H.noGlob fun P=>by rfl
  have g3:C.mg "sum"=none:=H.noGlob fun P=>by rfl
  have g4:C.mg "_law_product"=some (.ref 200):=H.glob fun P=>by rfl
  refine Ex.assign 16 (d:=codeD ps) rfl (.c rfl rfl hcell) ((EvN.comp D.s ps (fun _=>true) D.ns [] R0 (by rfl) (Ev.name 3 rfl rfl) Src.lst (by lia) (fun X' L' p hp'=>⟨EvIfs.nil,fun _=>?_⟩)).ev.as (by rw [filter_yes])) ?_
  · have:=hp p hp'
    exact (EvN.comp (fun c:Nat=>D.s [c]) p (fun _=>true) (fun c=>D.n c) [] R0 (by rfl) (Ev.name 0 rfl rfl) Src.s (by lia) (fun X'' L'' c hc'=>⟨EvIfs.nil,fun _=>Ev.callB (ds:=[.s [c]]) R0 (Ev.bltn g2 rfl rfl) (EvL.cons (Ev.name 0 rfl rfl) EvL.nil) Bi.ord⟩)).ev.as (by rw [filter_yes])
  refine Ex.assign 17 (d:=readD ps) rfl (.l rfl hloc) (Ev.lst (EvL.cons (Ev.name 16 rfl rfl) (EvL.cons ((EvN.comp D.ns ps (fun _=>true) (fun p=>D.ns p.reverse) [] R0 (by rfl) (Ev.name 16 rfl rfl) Src.lst (by lia) (fun X' L' p hp'=>⟨EvIfs.nil,fun _=>Ev.revN R0 (Ev.name 0 rfl rfl) (Ev.neg (Ev.int (i:=1))) (by have:=hp p hp';lia)⟩)).ev.as (d':=codeD (ps.map List.reverse)) (by rw [filter_yes,codeD,List.map_map];rfl)) EvL.nil)) two) ?_
  refine Ex.forN 18 (d:=.rng 0 ((2:Nat):Int) 1) (ds:=(List.range 2).map D.n) R0 rfl (.c rfl rfl hcell) hS (Ev.callB (ds:=[D.n 2]) R0 (Ev.bltn g1 rfl rfl) (EvL.cons (Ev.int (i:=2)) EvL.nil) Bi.range1) (upto _ (by lia))
    (fun _ ρ μ'=>∃ o18 o19 o20,ρ=[d0,d1,some (foldD fs),some (pathD ps),d4,d5,d6,d7,d8,d9,d10,d11,d12,d13,d14,some (endD es),some (codeD ps),some (readD ps),o18,o19,o20,d21,d22,d23,d24,d25,d26,d27]∧μ'=μ) (fun _ _=>False) ?_ ?_ ⟨_,_,_,rfl,rfl⟩ ?_ ?_ ?_
  · rintro i ρ μ' ⟨_,_,_,_,rfl⟩;rfl
  · intro _ _ h;exact h.elim
  · rintro wr k d ρ μ' hd ⟨o18,o19,o20,rfl,rfl⟩
    obtain ⟨hk,rfl⟩:=range_at hd
    have hpr:=prod k hk
    have hS':∀ b∈S,b∈wr++X₁:=fun b hb=>List.mem_append_right _ (hS b hb)
    have fp:=fn_product H fs (ps.map (T1.code k)) f5 (by rw [List.length_map];exact p5) few (fun c hc=>by
      obtain ⟨p,hp',rfl⟩:=List.mem_map.mp hc
      have:=hp p hp'
      unfold T1.code;split
      · lia
      · rw [List.length_reverse];lia) par
    refine Ex.assignT2 19 20 R0 ⟨rfl,.l rfl hloc⟩ ⟨rfl,.l rfl hloc⟩ hS' hμ (Ev.M (Ev.call (ds:=[foldD fs,codeD (ps.map (T1.code k))]) R1 (Ev.glob g4 rfl) (by show keepIn C.K _=true;rw [hK];rfl) (EvL.cons (Ev.name 2 rfl rfl) (EvL.cons (Ev.itemL (k:=((k:Nat):Int)) R0 (Ev.name 17 rfl rfl) (Ev.name 18 rfl rfl) (by lia) (read_at ps hk) two) EvL.nil)) (Fn.of_M fp))) ?_
    have hb:intBits (T1.worth (es.map (fallsOf k)))≤5000:=by
      have:=T1.worth_bits (es.map (fallsOf k)) (fun x hx=>by
        obtain ⟨e,he,rfl⟩:=List.mem_map.mp hx
        have:=ee e he
        unfold fallsOf;split
        · exact this.1
        · exact this.2.1)
      rw [List.length_map] at this
      lia
    have hlb:=T1.left_bits fs f5 5
    refine Ex.ite (c:=false) ?_ (fun h=>nomatch h) (fun _=>Ex.go (Ex.nil fun s z=>⟨_,_,⟨_,_,_,rfl,rfl⟩,z⟩))
    have e:false=(T1.worth (es.map (fallsOf k))*T1.leftP fs 5 != T1.rightP fs (ps.map (T1.code k)) 5):=by rw [hpr];simp
    refine EvT.as ?_ e.symm
    refine EvT.cmp R0 (Ev.bin R0 (Ev.callB (ds:=[.lst (((es.map (fallsOf k)).map fun n=>(1000:Int) ^ n).map D.int)]) R0 (Ev.bltn g3 rfl rfl) (EvL.cons ((EvN.comp T1.D.e3 es (fun _=>true) (fun e=>D.int (1000 ^ fallsOf k e)) [(18,"way")] R0 (by rfl) (Ev.name 15 rfl rfl) Src.lst (by lia) (fun X' L' e he=>⟨EvIfs.nil,fun _=>?_⟩)).ev.as (d':=.lst (((es.map (fallsOf k)).map fun n=>(1000:Int) ^ n).map D.int)) (by rw [filter_yes,List.map_map,List.map_map];rfl)) EvL.nil) Bi.sum) (Ev.name 19 rfl rfl) (Bin.mul (IntMulOk.of_le hb hlb (by lia)))) (Ev.name 20 rfl rfl) Cmp.ne
    have hle:fallsOf k e≤100:=by
      have:=ee e he
      unfold fallsOf;split
      · exact this.1
      · exact this.2.1
    exact Ev.bin R0 (Ev.int (i:=1000)) (Ev.itemT (ds:=[D.n e.1,D.n e.2.1,D.bool e.2.2]) (k:=((k:Nat):Int)) R0 (Ev.name 0 rfl rfl) (Ev.name 1 rfl rfl) (by lia) (e3_at e hk) (by show 3≤_;decide)) (Bin.pow1000 _ hle)
  · rintro ρ μ' ⟨o18,o19,o20,rfl,rfl⟩
    refine Ex.ite (c:=false) ?_ (fun h=>nomatch h) (fun _=>Ex.go (Ex.nil fun s z=>kk _ _ _ s z))
    have hf:es.filter (fun e=>!e.2.2)=[]:=by
      rw [List.filter_eq_nil_iff]
      intro e he
      rw [(ee e he).2.2];decide
    have e:false=decide (([]:List Nat)≠[]):=rfl
    refine EvT.as ?_ e.symm
    refine EvT.cmp R0 ((EvN.comp T1.D.e3 es (fun e=>!e.2.2) T1.D.e3 [] R0 (by rfl) (Ev.name 15 rfl rfl) Src.lst (by lia) (fun X' L' e he=>⟨EvIfs.one (EvT.not (EvT.val R0 (Ev.itemT (ds:=[D.n e.1,D.n e.2.1,D.bool e.2.2]) (k:=2) (d:=D.bool e.2.2) R0 (Ev.name 0 rfl rfl) Ev.int (by decide) rfl (by show 3≤_;decide)) (Tru.bool _))),fun _=>Ev.name 0 rfl rfl⟩)).ev.as (d':=D.ns []) (by rw [hf];rfl)) (Ev.lst (ds:=[]) EvL.nil) (Cmp.neL Kd.nat (by decide) [] [])
  · intro _ _ h;exact h.elim
end Mine
end
section
open PySem PySem.Calls PySem.W PyProof.Rows PySem.Builtin.Int
namespace Mine
theorem law_c {C : Cx} (H : Is1 C) {A : Around} (R : Room A 9) {X₁ Y S : List Addr} {L r dr m dm e : Addr} {fs : List (List (List Nat))} {w : Nat} {sb : Nat → Nat} {hs : List Int} (Q : T1.Facts fs w sb hs) {d0 d1 d11 d12 d16 d17 d18 d19 d20 d21 d22 d23 d24 d25 d26 d27 : Option D}
    (hloc:(lE L).locals∈S) (hcell:∀ b∈(lE L).cells.map (·.2),b∈S) (hS:∀ b∈S,b∈X₁) (he:e∉S) (heX:e∈X₁) (hr:r∈S∧dr∈S) (hm:m∈S∧dm∈S) (hw:w≤50) (hp:∀ p∈fs.map T1.path,p.length≤50∧∀ c∈p,c < 256) :
    ExS ⟨C,A,X₁,lE L,lns⟩ (e::S) [d0,d1,some (foldD fs),some (pathD (fs.map T1.path)),some (D.n w),some (.b ((fs.map T1.path).map (T1.padp w)).flatten),some (.b ((fs.map T1.path).map (T1.field w)).flatten),some (pathD ((fs.map T1.path).map (T1.field w))),some (slD sb),some (.val (.ref m)),some (toldD (fs.map T1.path) sb),d11,d12,some (D.is hs),some (.val (.ref r)),some (.val (.ref e)),d16,d17,d18,d19,d20,d21,d22,d23,d24,d25,d26,d27]
      [(e,.lst []),(r,.acc 151 dr []),(m,.inst 67 dm)] (lawB.drop 14) (RetAs Y (D.bool true) []):=by
  obtain ⟨P,hK⟩:=H.K
  have sz:sizeLine=16777216:=rfl
  have two:2≤sizeLine:=by decide
  have R0:Room A 0:=R.zero
  have R1:Room A 1:=R.less (by lia)
  have R5:Room A 5:=R.less (by lia)
  have g1:C.mg "range"=none:=H.noGlob fun P=>by rfl
  have g3:C.mg "isinstance"=none:=H.noGlob fun P=>by rfl
  have g4:C.mg "_law_walk"=some (.ref 195):=H.glob fun P=>by rfl
  have g5:C.mg "_byteswap"=some (.ref 176):=H.glob fun P=>by rfl
  have g6:C.mg "bytes"=none:=H.noGlob fun P=>by rfl
  have hseX:∀ b∈e::S,b∈X₁:=fun b hb=>(List.mem_cons.mp hb).elim (fun h=>h ▸ heX) (hS b)
  have p5:(fs.map T1.path).length=5:=by rw [List.length_map];exact Q.five
  have hcell':∀ b∈(lE L).cells.map (·.2),b∈e::S:=fun b hb=>.tail _ (hcell b hb)
  have pg:∀ x,x < 5→(fs.map T1.path).getD x []∈fs.map T1.path:=fun x hx=>by
    rw [List.getD_eq_getElem?_getD,List.getElem?_eq_getElem (by lia)];exact List.getElem_mem _
  have fl:∀ p∈fs.map T1.path,(T1.field w p).length=w:=fun p h=>by
    have:=Q.wmax p h
    unfold T1.field
    rw [List.length_append,List.length_reverse,List.length_replicate];lia
  have T:T1.Txt (T1.texts w (fs.map T1.path)) hs:=by
    refine ⟨by simp [T1.texts],fun p hp'=>?_,Q.hlen,fun h hh=>?_⟩
    · obtain ⟨x,hx,rfl⟩:=List.mem_map.mp hp'
      have hx:=List.mem_range.mp hx
      have h1:=fl _ (pg x hx)
      have h2:=(hp _ (pg x hx)).1
      exact ⟨by show (T1.field w _).length≤100;lia,by show ((fs.map T1.path).getD x []).length≤100;lia⟩
    · obtain ⟨y,hy,rfl⟩:=List.getElem_of_mem hh
      have h5:=Q.hlen
      have:=Q.hmem y (by lia)
      rw [List.getD_eq_getElem?_getD,List.getElem?_eq_getElem hy,Option.getD_some] at this
      rcases List.mem_cons.mp this with e | h
      · rw [e];decide
      · obtain ⟨x,hx,e⟩:=List.mem_map.mp h
        have:=List.mem_range.mp (List.mem_filter.mp hx).1
        lia
  have fw:=fn_walk H (T1.texts w (fs.map T1.path)) hs T r dr e 5 [] (T1.waits hs) 0 0 [] rfl (fun x h=>nomatch h) (by simp [T1.waits]) (by decide)
  have ee:([]:List (Nat × Nat × Bool))++T1.walk (T1.texts w (fs.map T1.path)) hs 5 [] (T1.waits hs) 0 0=T1.ends w (fs.map T1.path) hs:=List.nil_append _
  rw [ee] at fw
  refine ExS.perm (μ':=[(r,.acc 151 dr []),(e,.lst []),(m,.inst 67 dm)]) (.swap _ _ _) ?_
  have hd3:∀ (es:List D),∀ b∈doms [(r,Mut.acc 151 dr []),(e,Mut.lst es),(m,Mut.inst 67 dm)],b∈e::S:=fun es b hb=>by
    have:b=r∨b=dr∨b=e∨b=m∨b=dm:=by simpa [doms,Mut.more] using hb
    rcases this with rfl | rfl | rfl | rfl | rfl
    · exact .tail _ hr.1
    · exact .tail _ hr.2
    · exact .head _
    · exact .tail _ hm.1
    · exact .tail _ hm.2
  refine ExS.split 1 ?_
  refine Ex.exprM (μ':=[(r,.acc 151 dr []),(e,.lst ((T1.ends w (fs.map T1.path) hs).map T1.D.e3)),(m,.inst 67 dm)]) (EvM.call (ds:=[.val (.ref r),.lst ((T1.texts w (fs.map T1.path)).map D.ss),D.is hs,D.ns [],D.is (T1.waits hs),D.ns [0,0],.val (.ref e)]) (μ₀:=[(r,.acc 151 dr []),(e,.lst [])]) (μ₁:=[(r,.acc 151 dr []),(e,.lst ((T1.ends w (fs.map T1.path) hs).map T1.D.e3))]) [] [(m,.inst 67 dm)] R (Ev.glob g4 rfl) (by show keepIn C.K _=true;rw [hK];rfl) ?_ fw rfl) (hd3 []) ?_
  · refine EvL.cons (Ev.name 14 rfl rfl) (EvL.cons ?_ (EvL.cons (Ev.name 13 rfl rfl) (EvL.cons (Ev.lst EvL.nil) (EvL.cons ?_ (EvL.cons (Ev.lst (EvL.cons Ev.int (EvL.cons Ev.int EvL.nil)) two) (EvL.cons (Ev.name 15 rfl rfl) EvL.nil))))))
    · refine (EvN.comp D.n (List.range 5) (fun _=>true) (fun x=>D.ss (T1.field w ((fs.map T1.path).getD x []),(fs.map T1.path).getD x [])) [(7,"fields"),(3,"paths")] R0 (by rfl) (Ev.callB (ds:=[D.n 5]) R0 (Ev.bltn g1 rfl rfl) (EvL.cons (Ev.int (i:=5)) EvL.nil) Bi.range1) (upto _ (by lia)) (by simp;lia) (fun X' L' x hx=>⟨EvIfs.nil,fun _=>?_⟩)).ev.as (by rw [filter_yes,T1.texts,List.map_map];rfl)
      have hx:=List.mem_range.mp hx
      exact Ev.tup (EvL.cons ((Ev.itemL (k:=((x:Nat):Int)) R0 (Ev.name 1 rfl rfl) (Ev.name 0 rfl rfl) (by lia) (getDm ((fs.map T1.path).map (T1.field w)) D.s [] (by rw [List.length_map];lia)) (by rw [List.length_map,List.length_map];lia)).as (d':=.s (T1.field w ((fs.map T1.path).getD x []))) (by
        congr 1
        rw [List.getD_eq_getElem?_getD,List.getElem?_map,List.getD_eq_getElem?_getD,List.getElem?_eq_getElem (by lia)];rfl)) (EvL.cons (Ev.itemL (k:=((x:Nat):Int)) R0 (Ev.name 2 rfl rfl) (Ev.name 0 rfl rfl) (by lia) (getDm (fs.map T1.path) D.s [] (by lia)) (by rw [List.length_map];lia)) EvL.nil)) two
    · refine (EvN.comp D.n (List.range 5) (fun _=>true) (fun x=>D.int ((hs.count (x:Int):Nat):Int)) [(13,"homes")] R0 (by rfl) (Ev.callB (ds:=[D.n 5]) R0 (Ev.bltn g1 rfl rfl) (EvL.cons (Ev.int (i:=5)) EvL.nil) Bi.range1) (upto _ (by lia)) (by simp;lia) (fun X' L' x hx=>⟨EvIfs.nil,fun _=>?_⟩)).ev.as (by rw [filter_yes,D.is,T1.waits,List.map_map];rfl)
      exact Ev.meth (d₀:=D.is hs) (ds:=[D.n x]) R0 F.plainAttrs_list F.slot_list_count F.type_list_count (Ev.name 1 rfl rfl) isLst (EvL.cons (Ev.name 0 rfl rfl) EvL.nil) (Bi.count Kd.int (by decide))
  refine Ex.onS ?_
  refine (show ExS ⟨C, A, X₁, lE L, lns⟩ (e :: S) [d0, d1, some (foldD fs), some (pathD (fs.map T1.path)), some (D.n w), some (.b ((fs.map T1.path).map (T1.padp w)).flatten), some (.b ((fs.map T1.path).map (T1.field w)).flatten), some (pathD ((fs.map T1.path).map (T1.field w))), some (slD sb), some (.val (.ref m)), some (toldD (fs.map T1.path) sb), d11, d12, some (D.is hs), some (.val (.ref r)), some (.val (.ref e)), d16, d17, d18, d19, d20, d21, d22, d23, d24, d25, d26, d27]
      ([(r,.acc 151 dr [])]++((e,.lst ((T1.ends w (fs.map T1.path) hs).map T1.D.e3))::[(m,.inst 67 dm)])) (lawB.drop 15) (RetAs Y (D.bool true) []) from ?_)
  refine ExS.freezeS 15 rfl he hS fun X' hX1 hX2=>?_
  have hdm:∀ b∈doms ([(r,Mut.acc 151 dr [])]++[(m,Mut.inst 67 dm)]),b∈S:=fun b hb=>by
    have:b=r∨b=dr∨b=m∨b=dm:=by simpa [doms,Mut.more] using hb
    rcases this with rfl | rfl | rfl | rfl
    · exact hr.1
    · exact hr.2
    · exact hm.1
    · exact hm.2
  refine ExS.split 4 ?_
  refine law_c1 H R5 (fs:=fs) (ps:=fs.map T1.path) (es:=T1.ends w (fs.map T1.path) hs) hloc hcell hX1 hdm Q.five p5 Q.few (fun p h=>Nat.le_trans (hp p h).1 (by decide)) Q.par (T1.walk_len ..) (fun e he=>?_) (fun k hk=>?_) (fun o18 o19 o20 s z=>?_)
  · have:=T1.walk_low _ _ 5 [] _ 0 0 rfl e he
    exact ⟨by lia,by lia,this.2.2⟩
  · match k,hk with
    | 0,_=>exact Q.prod0
    | 1,_=>exact Q.prod1
  refine (show ExS ⟨C, A, X', lE L, lns⟩ S [d0, d1, some (foldD fs), some (pathD (fs.map T1.path)), some (D.n w), some (.b ((fs.map T1.path).map (T1.padp w)).flatten), some (.b ((fs.map T1.path).map (T1.field w)).flatten), some (pathD ((fs.map T1.path).map (T1.field w))), some (slD sb), some (.val (.ref m)), some (toldD (fs.map T1.path) sb), d11, d12, some (D.is hs), some (.val (.ref r)), some (endD (T1.ends w (fs.map T1.path) hs)), some (codeD (fs.map T1.path)), some (readD (fs.map T1.path)), o18, o19, o20, d21, d22, d23, d24, d25, d26, d27]
      [(r,.acc 151 dr []),(m,.inst 67 dm)] (lawB.drop 19) (RetAs Y (D.bool true) []) from ?_) s z
  clear z s
  have flat_len:∀ (l:List (List Nat)),(∀ x∈l,x.length=w)→l.flatten.length=l.length*w:=fun l hl=>by
    induction l with
    | nil=>simp
    | cons a t ih =>
      rw [List.flatten_cons,List.length_append,ih fun x hx=>hl x (.tail _ hx),hl a (.head _),List.length_cons,Nat.succ_mul,Nat.add_comm]
  have tl:((fs.map T1.path).map (T1.field w)).flatten.length=5*w:=by
    rw [flat_len _ (fun x hx=>by obtain ⟨p,h,rfl⟩:=List.mem_map.mp hx;exact fl p h),List.length_map,p5]
  have fb:=fn_swap H ((fs.map T1.path).map (T1.field w)).flatten w 5 tl Q.wpos (by decide) (fun c hc=>by
    obtain ⟨l,hl,hc⟩:=List.mem_flatten.mp hc
    obtain ⟨p,h,rfl⟩:=List.mem_map.mp hl
    rcases List.mem_append.mp hc with hc | hc
    · exact (hp p h).2 c (List.mem_reverse.mp hc)
    · rw [List.eq_of_mem_replicate hc];decide) (by lia)
  rw [Q.back] at fb
  refine ExS.ite (c:=false) (EvTS.or (EvOrS.cons (a:=false) (EvT.not (b:=true) (EvT.val R0 (Ev.callB (ds:=[.b ((fs.map T1.path).map (T1.field w)).flatten,.val (.type "bytes")]) R0 (Ev.bltn g3 rfl rfl) (EvL.cons (Ev.name 6 rfl rfl) (EvL.cons (Ev.bltn g6 rfl rfl) EvL.nil)) Bi.isiBytes) (Tru.bool _))).toS (fun _=>EvOrS.cons (a:=false) ?_ fun _=>EvOrS.nil))) (fun h=>nomatch h) (fun _=>ExS.go (Ex.toS (law_d H R5 hloc hcell hX1 hr hm Q.five p5 Q.few Q.wmax (by lia) Q.tell Q.host Q.coll Q.coll0 Q.strange Q.same Q.ahead Q.srt)))
  have e:false=decide (bl ((fs.map T1.path).map (T1.padp w)).flatten≠bl ((fs.map T1.path).map (T1.padp w)).flatten):=by simp
  rw [e]
  exact EvTS.cmp R0 (EvS.call (ds:=[.b ((fs.map T1.path).map (T1.field w)).flatten,D.n w]) R1 (Ev.glob g5 rfl) (by show keepIn C.K _=true;rw [hK];rfl) (EvL.cons (Ev.name 6 rfl rfl) (EvL.cons (Ev.name 4 rfl rfl) EvL.nil)) fb) (Ev.name 5 rfl rfl) Cmp.neB
end Mine
end
section
open PySem PySem.Calls PySem.W PyProof.Rows PySem.Builtin.Int
namespace Mine
namespace T1
noncomputable def sbOf (c2:Int) (k:Nat):Nat:=(c2 / 2 ^ k % 2).toNat
theorem getD_list (hs:List Int) (h:hs.length=5):(List.range 5).map (fun y=>D.int (hs.getD y 0))=hs.map D.int:=by
  refine List.ext_getElem (by simp [h]) fun k h1 h2=>?_
  simp only [List.getElem_map,List.getElem_range]
  rw [List.getD_eq_getElem?_getD,List.getElem?_eq_getElem (by simpa using h2)];rfl
theorem cut_field (w:Nat):∀ (ls:List (List Nat)),(∀ l∈ls,l.length=w)→∀ k,k < ls.length→cut ls.flatten (some ((k*w:Nat):Int)) (some (((k+1)*w:Nat):Int))=ls.getD k []:=by
  intro ls hl k hk
  have tot:∀ (l:List (List Nat)),(∀ x∈l,x.length=w)→l.flatten.length=l.length*w:=fun l hl=>by
    induction l with
    | nil=>simp
    | cons a t ih=>rw [List.flatten_cons,List.length_append,ih fun x hx=>hl x (.tail _ hx),hl a (.head _),List.length_cons,Nat.succ_mul,Nat.add_comm]
  have hlen:=tot ls hl
  have h1:(k+1)*w≤ls.length*w:=Nat.mul_le_mul_right w hk
  have e1:clipN ls.flatten.length ((k*w:Nat):Int)=k*w:=by
    rw [clipN_nat,Nat.min_eq_left];rw [hlen];exact Nat.mul_le_mul_right w (Nat.le_of_lt hk)
  have e2:clipN ls.flatten.length (((k+1)*w:Nat):Int)=(k+1)*w:=by rw [clipN_nat,Nat.min_eq_left];rw [hlen];exact h1
  unfold cut
  simp only [Option.elim_some,e1,e2]
  have e3:(k+1)*w - k*w=w:=by rw [Nat.succ_mul];lia
  rw [e3]
  clear e1 e2 e3 h1 hlen
  induction ls generalizing k with
  | nil=>cases hk
  | cons a t ih =>
    have ha:=hl a (.head _)
    cases k with
    | zero=>rw [Nat.zero_mul,List.drop_zero,List.flatten_cons,List.take_left' ha];rfl
    | succ k =>
      have:(k+1)*w=a.length+k*w:=by rw [ha,Nat.succ_mul,Nat.add_comm]
      rw [this,List.flatten_cons,List.drop_append,List.drop_eq_nil_of_le (by lia),List.nil_append,Nat.add_sub_cancel_left]
      exact ih (fun l h=>hl l (.tail _ h)) k (Nat.lt_of_succ_lt_succ hk)
end T1
theorem map_snoc (f:Nat→D) (k:Nat):(List.range k).map f++[f k]=(List.range (k+1)).map f:=by rw [List.range_succ,List.map_append];rfl
noncomputable abbrev rowD (ps:List (List Nat)) (sb:Nat→Nat) (x:Nat):D:=.lst ((List.range 5).map fun y=>D.bool (T1.told ps sb x y))
theorem flat_one (l:List Nat):(l.map fun c=>[c]).flatten=l:=by
  induction l with
  | nil=>rfl
  | cons a t ih=>rw [List.map_cons,List.flatten_cons,ih];rfl
theorem law_b {C : Cx} (H : Is1 C) {A : Around} (R : Room A 9) {X₁ Y S : List Addr} {L : Addr} {fs : List (List (List Nat))} {w : Nat} {c0 c1 c2 : Int} {hs : List Int} (Q : T1.Facts fs w (T1.sbOf c2) hs) {d0 d8 d9 d10 d11 d12 d13 d14 d15 d16 d17 d18 d19 d20 d21 d22 d23 d24 d25 d26 d27 : Option D}
    (hloc:(lE L).locals∈S) (hcell:∀ b∈(lE L).cells.map (·.2),b∈S) (hS:∀ b∈S,b∈X₁) (hw:w≤50) (hp:∀ p∈fs.map T1.path,p.length≤50∧∀ c∈p,c < 256) :
    ExS ⟨C,A,X₁,lE L,lns⟩ S [d0,some (D.is [c0,c1,c2]),some (foldD fs),some (pathD (fs.map T1.path)),some (D.n w),some (.b ((fs.map T1.path).map (T1.padp w)).flatten),some (.b ((fs.map T1.path).map (T1.field w)).flatten),none,d8,d9,d10,d11,d12,d13,d14,d15,d16,d17,d18,d19,d20,d21,d22,d23,d24,d25,d26,d27]
      [] (lawB.drop 6) (RetAs Y (D.bool true) []):=by
  obtain ⟨P,hK⟩:=H.K
  have sz:sizeLine=16777216:=rfl
  have two:2≤sizeLine:=by decide
  have R0:Room A 0:=R.zero
  have R1:Room A 1:=R.less (by lia)
  have R2:Room A 2:=R.less (by lia)
  have g1:C.mg "range"=none:=H.noGlob fun P=>by rfl
  have g2:C.mg "chr"=none:=H.noGlob fun P=>by rfl
  have g3:C.mg "max"=none:=H.noGlob fun P=>by rfl
  have g4:C.mg "HTTPPasswordMgr"=some (.ref 67):=H.glob fun P=>by rfl
  have g5:C.mg "_Accumulator"=some (.ref 151):=H.glob fun P=>by rfl
  have p5:(fs.map T1.path).length=5:=by rw [List.length_map];exact Q.five
  have fl:∀ p∈fs.map T1.path,(T1.field w p).length=w:=fun p h=>by
    have:=Q.wmax p h
    unfold T1.field
    rw [List.length_append,List.length_reverse,List.length_replicate];lia
  have fl':∀ l∈(fs.map T1.path).map (T1.field w),l.length=w∧∀ c∈l,c < 256:=fun l hl=>by
    obtain ⟨p,h,rfl⟩:=List.mem_map.mp hl
    refine ⟨fl p h,fun c hc=>?_⟩
    rcases List.mem_append.mp hc with hc | hc
    · exact (hp p h).2 c (List.mem_reverse.mp hc)
    · rw [List.eq_of_mem_replicate hc];decide
  have F5:((fs.map T1.path).map (T1.field w)).length=5:=by rw [List.length_map];exact p5
  have tl:((fs.map T1.path).map (T1.field w)).flatten.length≤250:=by
    have:∀ (l:List (List Nat)),(∀ x∈l,x.length=w∧∀ c∈x,c < 256)→l.flatten.length=l.length*w:=fun l hl=>by
      induction l with
      | nil=>simp
      | cons a t ih=>rw [List.flatten_cons,List.length_append,ih fun x hx=>hl x (.tail _ hx),(hl a (.head _)).1,List.length_cons,Nat.succ_mul,Nat.add_comm]
    rw [this _ fl',F5];lia
  have hpd:∀ k,((fs.map T1.path).getD k []).length≤50:=fun k=>by
    rw [List.getD_eq_getElem?_getD]
    cases e:(fs.map T1.path)[k]? with
    | none=>exact Nat.zero_le _
    | some f=>exact (hp f (List.mem_of_getElem? e)).1
  generalize hFF:(fs.map T1.path).map (T1.field w)=FF at *
  refine ExS.split 2 ?_
  refine Ex.assign 7 (d:=pathD FF) rfl (.c rfl rfl hcell) ((EvN.comp D.n (List.range 5) (fun _=>true) (fun k=>D.s (FF.getD k [])) [(6,"turned"),(4,"width")] R0 (by rfl) (Ev.callB (ds:=[D.n 5]) R0 (Ev.bltn g1 rfl rfl) (EvL.cons (Ev.int (i:=5)) EvL.nil) Bi.range1) (upto _ (by lia)) (by simp;lia) (fun X' L' k hk=>⟨EvIfs.nil,fun _=>?_⟩)).ev.as ?_) ?_
  · have hk:=List.mem_range.mp hk
    have hF:∀ l∈FF,l.length=w:=fun l h=>(fl' l h).1
    have hm:FF.getD k []∈FF:=by rw [List.getD_eq_getElem?_getD,List.getElem?_eq_getElem (by lia)];exact List.getElem_mem _
    have hfl:=fl' _ hm
    have hc:=T1.cut_field w FF hF k (by lia)
    have hsl : ∀ {g : G} {ρ' : List (Option D)} {μ' : List (Addr × Mut)} {a b c d e : Expr} {p1 p2 p3 p4 p5 p6 : Pos} {j : Nat}, Room g.A 0 → Ev g ρ' μ' a (.b FF.flatten) → Ev g ρ' μ' b (D.n k) → Ev g ρ' μ' c (D.n w) → Ev g ρ' μ' d (D.n k) → Ev g ρ' μ' e (D.n w) →
        Ev g ρ' μ' (.Subscript a (.Slice (some (.BinOp b .Mult c p1)) (some (.BinOp (.BinOp d .Add (.Constant (.int 1) j p2) p3) .Mult e p4)) none p5) p6) (.b (FF.getD k [])):=fun R ha hb hc' hd he=>(Ev.sliceB (i:=some ((k*w:Nat):Int)) (j:=some (((k+1)*w:Nat):Int)) R ha (EvP.some (Ev.bin R hb hc' (Bin.mulN (by lia)))) (EvP.some (Ev.bin R (Ev.bin R hd (Ev.int (i:=1)) (Bin.addN (b:=1))) he (Bin.mulN (by lia)))) (by lia)).as (by rw [hc])
    generalize FF.getD k []=l at *
    exact ((EvB.join (ls:=l.map fun c=>[c]) R0 ((EvN.comp D.n l (fun _=>true) (fun c=>D.s [c]) [] R0 (by rfl) (hsl R0 (Ev.name 1 rfl rfl) (Ev.name 0 rfl rfl) (Ev.name 2 rfl rfl) (Ev.name 0 rfl rfl) (Ev.name 2 rfl rfl)) (Src.b hfl.2) (by lia) (fun X'' L'' c hc'=>⟨EvIfs.nil,fun _=>(Ev.callB (ds:=[D.n c]) R0 (Ev.bltn g2 rfl rfl) (EvL.cons (Ev.name 0 rfl rfl) EvL.nil) (Bi.chr (by lia) (by have:=hfl.2 c hc';lia))).as (by rw [Int.toNat_natCast])⟩)).ev.as (by rw [filter_yes,List.map_map];rfl)) (by rw [flat_one,List.length_map];lia)).as (by rw [flat_one])).h
  · rw [filter_yes,pathD]
    congr 1
    refine List.ext_getElem (by simp [F5]) fun k h1 h2=>?_
    simp only [List.getElem_map,List.getElem_range]
    rw [List.getD_eq_getElem?_getD,List.getElem?_eq_getElem (by simpa using h2)];rfl
  refine Ex.assign 8 (d:=slD (T1.sbOf c2)) rfl (.c rfl rfl hcell) ((EvN.comp D.n (List.range 25) (fun _=>true) (fun k=>D.n (T1.sbOf c2 k)) [(1,"cells")] R0 (by rfl) (Ev.callB (ds:=[D.n 25]) R0 (Ev.bltn g1 rfl rfl) (EvL.cons (Ev.int (i:=25)) EvL.nil) Bi.range1) (upto _ (by lia)) (by simp;lia) (fun X' L' k hk=>⟨EvIfs.nil,fun _=>?_⟩)).ev.as (by rw [filter_yes])) ?_
  · have hk:=List.mem_range.mp hk
    have hpw:(2:Int) ^ k < 2 ^ 64:=by
      have:(2:Nat) ^ k < 2 ^ 64:=Nat.pow_lt_pow_right (by decide) (by lia)
      exact_mod_cast this
    have hp0:(0:Int) < 2 ^ k:=Int.pow_pos (by decide)
    have pw:Bin .Pow (.int 2) (D.n k) (.int (2 ^ k)):=by
      have:=Bin.pow (a:=2) (b:=(k:Int)) (by decide) (by decide) (by lia) (by lia)
      rwa [Int.toNat_natCast] at this
    refine (Ev.bin R0 (Ev.bin R0 (Ev.itemL (ds:=[D.int c0,D.int c1,D.int c2]) (k:=2) (d:=D.int c2) R0 (Ev.name 1 rfl rfl) Ev.int (by decide) rfl (by show 3≤_;decide)) (Ev.bin R0 (Ev.int (i:=2)) (Ev.name 0 rfl rfl) pw) (Bin.div hp0 hpw)) (Ev.int (i:=2)) (Bin.mod (by decide))).as ?_
    unfold T1.sbOf D.n
    rw [Int.toNat_of_nonneg (Int.emod_nonneg _ (by decide))]
  refine Ex.onS ?_
  show ExS _ _ _ _ _ _
  refine ExS.assignNew 9 (m:=fun dx=>.inst 67 dx) rfl (.c rfl rfl hcell) (EvNew.inst R2 (Ev.glob g4 rfl) (by show keepIn C.K _=true;rw [hK];rfl) (by show makesIn C.K _=true;rw [hK];rfl) (by show findIn C.K _ _=_;rw [hK];rfl) (by show typeIn C.K _=_;rw [hK];rfl) (fun x dx=>fn_mgr H x dx)) (fun m dm hmX hmS hdX=>?_) hS
  have hS1:∀ b∈m::dm::S,b∈m::dm::X₁:=fun b hb=>by
    rcases List.mem_cons.mp hb with rfl | hb
    · exact .head _
    rcases List.mem_cons.mp hb with rfl | hb
    · exact .tail _ (.head _)
    exact .tail _ (.tail _ (hS b hb))
  refine ExS.assignN 10 (ds:=[]) rfl (.c rfl rfl (fun b hb=>.tail _ (.tail _ (hcell b hb)))) (EvN.lst EvL.nil) (fun t htX htS=>?_) hS1
  have hS2:∀ b∈t::m::dm::S,b∈t::m::dm::X₁:=fun b hb=>(List.mem_cons.mp hb).elim (fun h=>h ▸ .head _) fun h=>.tail _ (hS1 b h)
  have hdt:∀ (es:List D),∀ b∈doms [(t,Mut.lst es),(m,Mut.inst 67 dm)],b∈t::m::dm::S:=fun es b hb=>by
    have:b=t∨b=m∨b=dm:=by simpa [doms,Mut.more] using hb
    rcases this with rfl | rfl | rfl
    · exact .head _
    · exact .tail _ (.head _)
    · exact .tail _ (.tail _ (.head _))
  have hcell2:∀ b∈(lE L).cells.map (·.2),b∈t::m::dm::S:=fun b hb=>.tail _ (.tail _ (.tail _ (hcell b hb)))
  refine ExS.split 1 ?_
  refine Ex.forN 11 (d:=.rng 0 ((5:Nat):Int) 1) (ds:=(List.range 5).map D.n) R0 rfl (.c rfl rfl hcell2) hS2 (Ev.callB (ds:=[D.n 5]) R0 (Ev.bltn g1 rfl rfl) (EvL.cons (Ev.int (i:=5)) EvL.nil) Bi.range1) (upto _ (by lia))
    (fun k ρ μ=>∃ o11,ρ=[d0,some (D.is [c0,c1,c2]),some (foldD fs),some (pathD (fs.map T1.path)),some (D.n w),some (.b ((fs.map T1.path).map (T1.padp w)).flatten),some (.b FF.flatten),some (pathD FF),some (slD (T1.sbOf c2)),some (.val (.ref m)),some (.val (.ref t)),o11,d12,d13,d14,d15,d16,d17,d18,d19,d20,d21,d22,d23,d24,d25,d26,d27]∧μ=[(t,.lst ((List.range k).map (rowD (fs.map T1.path) (T1.sbOf c2)))),(m,.inst 67 dm)]) (fun _ _=>False) ?_ ?_ ⟨_,rfl,rfl⟩ ?_ ?_ ?_
  · rintro i ρ μ ⟨_,_,rfl⟩;rfl
  · intro _ _ h;exact h.elim
  · rintro wr x d ρ μ hd ⟨o11,rfl,rfl⟩
    obtain ⟨hx,rfl⟩:=range_at hd
    refine Ex.append 10 0 (d:=rowD (fs.map T1.path) (T1.sbOf c2) x) (Ev.name 10 rfl rfl) rfl (hdt _) ?_ (by rw [List.length_map,List.length_range];lia) (Ex.nil fun s z=>⟨_,_,⟨_,rfl,rfl⟩,by rw [← map_snoc];exact z⟩)
    refine (EvN.comp D.n (List.range 5) (fun _=>true) (fun y=>D.bool (T1.told (fs.map T1.path) (T1.sbOf c2) x y)) [(9,"manager"),(3,"paths"),(8,"slashes"),(11,"x")] R0 (by rfl) (Ev.callB (ds:=[D.n 5]) R0 (Ev.bltn g1 rfl rfl) (EvL.cons (Ev.int (i:=5)) EvL.nil) Bi.range1) (upto _ (by lia)) (by simp;lia) (fun X' L' y hy=>⟨EvIfs.nil,fun _=>?_⟩)).ev.as (by rw [filter_yes])
    have hy:=List.mem_range.mp hy
    have hbit:=Q.bit (5*x+y)
    have h1:=hpd x
    have h2:=hpd y
    have hrl:(List.replicate (T1.sbOf c2 (5*x+y)) 47).length≤1:=by rw [List.length_replicate];exact hbit
    have ms:Bin .Mult (.s [47]) (D.n (T1.sbOf c2 (5*x+y))) (.s (List.replicate (T1.sbOf c2 (5*x+y)) 47)):=by
      have:=Bin.mulS (a:=[47]) (n:=((T1.sbOf c2 (5*x+y):Nat):Int)) (by lia) (by lia) (by decide)
      rwa [rep_one,Int.toNat_natCast] at this
    exact Ev.own (m:=.inst 67 dm) R1 (Ev.name 1 rfl rfl) (.tail _ (.head _)) rfl (by show ClsOk C.K _;rw [hK];exact mgrOk P) (by show MethOk C.K _ _ _;rw [hK];exact mSub P) (by decide) (EvL.cons (Ev.tup (EvL.cons (Ev.str (x:="h")) (EvL.cons (Ev.bin R0 (Ev.itemL (k:=((x:Nat):Int)) R0 (Ev.name 2 rfl rfl) (Ev.name 4 rfl rfl) (by lia) (getDm (fs.map T1.path) D.s [] (by lia)) (by rw [List.length_map];lia)) (Ev.bin R0 (Ev.str (x:="/")) (Ev.itemL (k:=(((5*x+y:Nat)):Int)) R0 (Ev.name 3 rfl rfl) (Ev.bin R0 (Ev.bin R0 (Ev.int (i:=5)) (Ev.name 4 rfl rfl) (Bin.mulN (a:=5) (by decide))) (Ev.name 0 rfl rfl) Bin.addN) (by lia) (atR _ (by lia)) (by simp;lia)) ms) (Bin.addS (by lia))) EvL.nil)) two) (EvL.cons (Ev.tup (EvL.cons (Ev.str (x:="h")) (EvL.cons (Ev.itemL (k:=((y:Nat):Int)) R0 (Ev.name 2 rfl rfl) (Ev.name 0 rfl rfl) (by lia) (getDm (fs.map T1.path) D.s [] (by lia)) (by rw [List.length_map];lia)) EvL.nil)) two) EvL.nil)) (fn_sub H (.ref m) ([104],(fs.map T1.path).getD x []++List.replicate (T1.sbOf c2 (5*x+y)) 47) ([104],(fs.map T1.path).getD y []) (by show ((fs.map T1.path).getD x []++List.replicate (T1.sbOf c2 (5*x+y)) 47).length≤_;rw [List.length_append];lia) (by show 1≤_;decide) (by show ((fs.map T1.path).getD y []).length≤_;lia))
  · rintro ρ μ ⟨o11,rfl,rfl⟩
    have hl:((List.range 5).map D.n).length=5:=by simp
    rw [hl]
    refine Ex.onS ?_
    refine (show ExS ⟨C,A,t::m::dm::X₁,lE L,lns⟩ (t::m::dm::S) [d0,some (D.is [c0,c1,c2]),some (foldD fs),some (pathD (fs.map T1.path)),some (D.n w),some (.b ((fs.map T1.path).map (T1.padp w)).flatten),some (.b FF.flatten),some (pathD FF),some (slD (T1.sbOf c2)),some (.val (.ref m)),some (.val (.ref t)),o11,d12,d13,d14,d15,d16,d17,d18,d19,d20,d21,d22,d23,d24,d25,d26,d27]
      ([]++((t,.lst ((List.range 5).map (rowD (fs.map T1.path) (T1.sbOf c2))))::[(m,.inst 67 dm)])) (lawB.drop 11) (RetAs Y (D.bool true) []) from ?_)
    refine ExS.freezeS 10 rfl htS (fun b hb=>.tail _ (hS1 b hb)) fun X' hX1 hX2=>?_
    refine ExS.split 1 ?_
    refine Ex.assign 13 (d:=D.is hs) rfl (.c rfl rfl (fun b hb=>.tail _ (.tail _ (hcell b hb)))) ((EvN.comp D.n (List.range 5) (fun _=>true) (fun y=>D.int (hs.getD y 0)) [(10,"told")] R0 (by rfl) (Ev.callB (ds:=[D.n 5]) R0 (Ev.bltn g1 rfl rfl) (EvL.cons (Ev.int (i:=5)) EvL.nil) Bi.range1) (upto _ (by lia)) (by simp;lia) (fun X'' L' y hy=>⟨EvIfs.nil,fun _=>?_⟩)).ev.as (by rw [filter_yes,T1.getD_list hs Q.hlen])) ?_
    · have hy:=List.mem_range.mp hy
      have hM:=Q.hmem y hy
      have hX:=Q.hmax y hy
      generalize hs.getD y 0=M at *
      have hne:0 < ((-1:Int)::(T1.inner (fs.map T1.path) (T1.sbOf c2) y).map fun x:Nat=>(x:Int)).length:=Nat.succ_pos _
      have hil:(T1.inner (fs.map T1.path) (T1.sbOf c2) y).length≤5:=Nat.le_trans (List.length_filter_le _ _) (by simp)
      have bm:=Bi.max hne M hM hX
      refine Ev.callB R0 (Ev.bltn g3 rfl rfl) (EvL.cons ?_ EvL.nil) bm
      refine (Ev.bin (a:=.lst [D.int (-1)]) (b:=D.ns (T1.inner (fs.map T1.path) (T1.sbOf c2) y)) R0 (Ev.lst (EvL.cons (Ev.neg (Ev.int (i:=1))) EvL.nil) (by show 1≤_;decide)) ((EvN.comp D.n (List.range 5) (fun x=>decide (x≠y) && (T1.told (fs.map T1.path) (T1.sbOf c2) x y && true)) D.n [(0,"y"),(1,"told")] R0 (by rfl) (Ev.callB (ds:=[D.n 5]) R0 (Ev.bltn g1 rfl rfl) (EvL.cons (Ev.int (i:=5)) EvL.nil) Bi.range1) (upto _ (by lia)) (by simp;lia) (fun X3 L3 x hx=>⟨EvIfs.one ?_,fun _=>Ev.name 0 rfl rfl⟩)).ev.as rfl) (Bin.addL (by rw [List.length_map];show 1+_≤_;lia))).as ?_
      · have hx:=List.mem_range.mp hx
        refine EvT.and (EvAnd.cons (EvT.as (EvT.cmp R0 (Ev.name 0 rfl rfl) (Ev.name 1 rfl rfl) Cmp.ne) ?_) fun _=>EvAnd.cons (EvT.val R0 (Ev.itemL (k:=((y:Nat):Int)) R0 (Ev.itemL (k:=((x:Nat):Int)) R0 (Ev.name 2 rfl rfl) (Ev.name 0 rfl rfl) (by lia) (atR _ hx) (by simp;lia)) (Ev.name 1 rfl rfl) (by lia) (atR _ hy) (by simp;lia)) (Tru.bool _)) fun _=>EvAnd.nil)
        rw [Bool.eq_iff_iff,bne_iff_ne,decide_eq_true_eq]
        exact ⟨fun h e=>h (by rw [e]),fun h e=>h (by lia)⟩
      · rw [List.map_cons,List.map_map];rfl
    refine Ex.onS ?_
    show ExS _ _ _ _ _ _
    refine ExS.assignNew 14 (m:=fun dx=>.acc 151 dx []) rfl (.l rfl (.tail _ (.tail _ hloc))) (EvNew.acc R2 (Ev.glob g5 rfl) (by show keepIn C.K _=true;rw [hK];rfl) (by show makesLIn C.K _=true;rw [hK];rfl) (by show findIn C.K _ _=_;rw [hK];rfl) (by show typeIn C.K _=_;rw [hK];rfl) (fun x dx=>fn_init H x dx)) (fun r dr hrX hrS hdrX=>?_) hX1
    have hS3:∀ b∈r::dr::m::dm::S,b∈r::dr::X':=fun b hb=>by
      rcases List.mem_cons.mp hb with rfl | hb
      · exact .head _
      rcases List.mem_cons.mp hb with rfl | hb
      · exact .tail _ (.head _)
      exact .tail _ (.tail _ (hX1 b hb))
    refine ExS.assignN 15 (ds:=[]) rfl (.l rfl (.tail _ (.tail _ (.tail _ (.tail _ hloc))))) (EvN.lst EvL.nil) (fun e heX heS=>?_) hS3
    subst hFF
    exact law_c H R Q (.tail _ (.tail _ (.tail _ (.tail _ hloc)))) (fun b hb=>.tail _ (.tail _ (.tail _ (.tail _ (hcell b hb))))) (fun b hb=>.tail _ (hS3 b hb)) heS (.head _) ⟨.head _,.tail _ (.head _)⟩ ⟨.tail _ (.tail _ (.head _)),.tail _ (.tail _ (.tail _ (.head _)))⟩ hw hp
  · intro _ _ h;exact h.elim
end Mine
end
section
open PySem PySem.Calls PySem.W PyProof.Rows PySem.Builtin.Int
namespace Mine
theorem Bi.bytesN {l:List Nat} (h:∀ c∈l,c < 256) (hz:l.length≤sizeLine):Bi (.type "bytes") [D.ns l] (.b l):=by
  have:=Bi.bytes (ns:=l.map fun k:Nat=>(k:Int)) (fun n hn=>by
    obtain ⟨k,hk,rfl⟩:=List.mem_map.mp hn
    have:=h k hk
    lia) (by rwa [List.length_map])
  rw [List.map_map] at this
  have e:byteArr (l.map fun k:Nat=>(k:Int))=bl l:=by
    unfold byteArr bl
    rw [List.map_map];rfl
  rw [e] at this
  exact this
namespace T1
theorem path_len (f:List (List Nat)) (h:∀ n∈f,n.length≤5):(path f).length≤6*f.length:=by
  unfold path
  induction f with
  | nil=>simp
  | cons a t ih =>
    have:=ih fun n hn=>h n (.tail _ hn)
    have h1:=h a (.head _)
    rw [List.map_cons,List.flatten_cons,List.length_append,List.length_cons]
    have:(slash a).length=a.length+1:=by simp [slash]
    lia
theorem path_byte (f:List (List Nat)) (h:∀ n∈f,∀ c∈n,c < 256):∀ c∈path f,c < 256:=fun c hc=>by
  obtain ⟨l,hl,hc⟩:=List.mem_flatten.mp hc
  obtain ⟨n,hn,rfl⟩:=List.mem_map.mp hl
  rcases List.mem_cons.mp hc with rfl | hc
  · decide
  · exact h n hn c hc
theorem Facts.path {fs:List (List (List Nat))} {w:Nat} {sb:Nat→Nat} {hs:List Int} (Q:Facts fs w sb hs):∀ p∈fs.map T1.path,p.length≤50∧∀ c∈p,c < 256:=fun p hp=>by
  obtain ⟨f,hf,rfl⟩:=List.mem_map.mp hp
  have h1:=path_len f (Q.small f hf)
  have h2:=Q.few f hf
  exact ⟨by lia,path_byte f (Q.byte f hf)⟩
theorem Facts.wle {fs:List (List (List Nat))} {w:Nat} {sb:Nat→Nat} {hs:List Int} (Q:Facts fs w sb hs):w≤50:=by
  obtain ⟨p,hp,rfl⟩:=List.mem_map.mp Q.wmem
  exact (Q.path p hp).1
end T1
theorem fn_law {C:Cx} (H:Is1 C) (sc:List Int) (hz:sc.length≤1048576) (hQ:∀ c0 c1 c2:Int,∃ w hs,T1.Facts (T1.fol (T1.nm c1) (T1.hm c0) 5) w (T1.sbOf c2) hs):FnS C 10 (.ref 205) [D.is sc] (D.bool true):=by
  obtain ⟨c0,c1,c2,fc⟩:=fn_cells H sc hz
  have ff:=fn_folders H c0 c1 c2
  obtain ⟨w,hs,Q⟩:=hQ c0 c1 c2
  generalize T1.fol (T1.nm c1) (T1.hm c0) 5=fs at *
  have hp:=Q.path
  have hw:=Q.wle
  obtain ⟨P,hK⟩:=H.K
  obtain ⟨occ,od,osl,ho⟩:=fLaw.2 P
  have sz:sizeLine=16777216:=rfl
  have f5:=Q.five
  have p5:(fs.map T1.path).length=5:=by rw [List.length_map];exact Q.five
  have g1:C.mg "len"=none:=H.noGlob fun P=>by rfl
  have g2:C.mg "bytes"=none:=H.noGlob fun P=>by rfl
  have g3:C.mg "max"=none:=H.noGlob fun P=>by rfl
  have g4:C.mg "_law_cells"=some (.ref 183):=H.glob fun P=>by rfl
  have g5:C.mg "_law_folders"=some (.ref 190):=H.glob fun P=>by rfl
  have g6:C.mg "_byteswap"=some (.ref 176):=H.glob fun P=>by rfl
  have g7:C.mg "ord"=none:=H.noGlob fun P=>by rfl
  refine FnS.intro (fd:=fLaw.1) ["script"] ["cells","folders","paths","width","page","turned","fields","slashes","manager","told","x","y","homes","row","ends","codes","readings","way","left","right","ranks","here","inside","strange","below","stands","deeds"] 27 (by rw [hK];exact ho) (by rw [hK];rfl) rfl rfl rfl rfl (fun vals hv=>?_) rfl (by decide) (fun n x hx=>?_) (by decide) (fun A X L R=>?_)
  · obtain ⟨v,rfl⟩:=len1 hv;rfl
  · simp only [List.mem_cons,List.not_mem_nil,or_false] at hx
    subst hx;exact .inl rfl
  have R0:Room A 0:=R.zero
  have R1:Room A 1:=R.less (by lia)
  have hloc:(lE L).locals∈ownS (lE L):=.head _
  have hcell:∀ b∈(lE L).cells.map (·.2),b∈ownS (lE L):=fun b hb=>.tail _ hb
  have hS:∀ b∈ownS (lE L),b∈ownS (lE L)++X:=fun b hb=>List.mem_append_left _ hb
  refine ExS.split 5 ?_
  refine Ex.assign 1 (d:=D.is [c0,c1,c2]) rfl (.c rfl rfl hcell) (Ev.call (ds:=[D.is sc]) R1 (Ev.glob g4 rfl) (by show keepIn C.K _=true;rw [hK];rfl) (EvL.cons (Ev.name 0 rfl rfl) EvL.nil) (Fn.of_M fc)) ?_
  refine Ex.assign 2 (d:=foldD fs) rfl (.l rfl hloc) (Ev.call (ds:=[D.is [c0,c1,c2]]) R1 (Ev.glob g5 rfl) (by show keepIn C.K _=true;rw [hK];rfl) (EvL.cons (Ev.name 1 rfl rfl) EvL.nil) (Fn.of_M ff)) ?_
  refine Ex.assign 3 (d:=pathD (fs.map T1.path)) rfl (.c rfl rfl hcell) ((EvN.comp D.fd fs (fun _=>true) (fun f=>D.s (T1.path f)) [] R0 (by rfl) (Ev.name 2 rfl rfl) Src.lst (by lia) (fun X' L' f hf=>⟨EvIfs.nil,fun _=>?_⟩)).ev.as (by rw [filter_yes,pathD,List.map_map];rfl)) ?_
  · have h1:=Q.few f hf
    have h2:=Q.small f hf
    have h3:(f.map T1.slash).flatten.length≤6*f.length:=T1.path_len f h2
    exact (EvB.join (ls:=f.map T1.slash) R0 ((EvN.comp D.s f (fun _=>true) (fun n=>D.s (T1.slash n)) [] R0 (by rfl) (Ev.name 0 rfl rfl) Src.lst (by lia) (fun X'' L'' n hn=>⟨EvIfs.nil,fun _=>Ev.bin R0 (Ev.str (x:="/")) (Ev.name 0 rfl rfl) (Bin.addS (a:=[47]) (by have:=h2 n hn;simp;lia))⟩)).ev.as (by rw [filter_yes,List.map_map];rfl)) (by rw [List.length_map];lia)).h
  refine Ex.assign 4 (d:=D.n w) rfl (.c rfl rfl hcell) (Ev.callB (ds:=[.lst ((((fs.map T1.path).map List.length).map fun k:Nat=>(k:Int)).map D.int)]) R0 (Ev.bltn g3 rfl rfl) (EvL.cons ((EvN.comp D.s (fs.map T1.path) (fun _=>true) (fun p=>D.n p.length) [] R0 (by rfl) (Ev.name 3 rfl rfl) Src.lst (by lia) (fun X' L' p hp'=>⟨EvIfs.nil,fun _=>Ev.callB (ds:=[.s p]) R0 (Ev.bltn g1 rfl rfl) (EvL.cons (Ev.name 0 rfl rfl) EvL.nil) (Bi.lenS (by have:=(hp p hp').1;lia))⟩)).ev.as (by rw [filter_yes];simp only [List.map_map];rfl)) EvL.nil) (Bi.max (by rw [List.length_map,List.length_map];lia) (w:Int) (List.mem_map.mpr ⟨w,Q.wmem,rfl⟩) (fun a ha=>by
    obtain ⟨k,hk,rfl⟩:=List.mem_map.mp ha
    obtain ⟨p,hp',rfl⟩:=List.mem_map.mp hk
    have:=Q.wmax p hp'
    lia))) ?_
  have pl:∀ p∈fs.map T1.path,(T1.padp w p).length=w:=fun p h=>by
    have:=Q.wmax p h
    unfold T1.padp
    rw [List.length_append,List.length_replicate];lia
  have pb:∀ c∈((fs.map T1.path).map (T1.padp w)).flatten,c < 256:=fun c hc=>by
    obtain ⟨l,hl,hc⟩:=List.mem_flatten.mp hc
    obtain ⟨p,h,rfl⟩:=List.mem_map.mp hl
    rcases List.mem_append.mp hc with hc | hc
    · rw [List.eq_of_mem_replicate hc];decide
    · exact (hp p h).2 c hc
  have flat_len:∀ (l:List (List Nat)),(∀ x∈l,x.length=w)→l.flatten.length=l.length*w:=fun l hl=>by
    induction l with
    | nil=>simp
    | cons a t ih =>
      rw [List.flatten_cons,List.length_append,ih fun x hx=>hl x (.tail _ hx),hl a (.head _),List.length_cons,Nat.succ_mul,Nat.add_comm]
  have tl:((fs.map T1.path).map (T1.padp w)).flatten.length=5*w:=by
    rw [flat_len _ (fun x hx=>by obtain ⟨p,h,rfl⟩:=List.mem_map.mp hx;exact pl p h),List.length_map,p5]
  refine Ex.assign 5 (d:=.b ((fs.map T1.path).map (T1.padp w)).flatten) rfl (.l rfl hloc) (Ev.callB (ds:=[D.ns ((fs.map T1.path).map (T1.padp w)).flatten]) R0 (Ev.bltn g2 rfl rfl) (EvL.cons ((EvN.comp2 D.s (fs.map T1.path) (fun p=>D.s (T1.padp w p)) (fun c:Nat=>D.s [c]) (T1.padp w) (fun _ c=>D.n c) 100 [(4,"width")] R0 (by rfl) (Ev.name 3 rfl rfl) Src.lst (by rw [p5];lia) (fun p h=>by rw [pl p h];lia) (fun p h=>Src.s) (fun X' L' p hp'=>⟨fun o=>?_,fun c hc=>?_⟩)).ev.as (by
    rw [List.flatMap_def,D.ns,List.map_flatten,List.map_map,List.map_map,List.map_map];rfl)) EvL.nil) (Bi.bytesN pb (by lia))) ?_
  · have h1:=Q.wmax p hp'
    have h2:p.length≤sizeLine:=by lia
    exact Ev.bin R0 (pad_ev R0 (Ev.name 2 rfl rfl) (Ev.callB (ds:=[.s p]) R0 (Ev.bltn g1 rfl rfl) (EvL.cons (Ev.name 0 rfl rfl) EvL.nil) (Bi.lenS h2)) h1 (by lia)) (Ev.name 0 rfl rfl) (Bin.addS (by rw [List.length_replicate];lia))
  · exact Ev.callB (ds:=[.s [c]]) R0 (Ev.bltn g7 rfl rfl) (EvL.cons (Ev.name 1 rfl rfl) EvL.nil) Bi.ord
  have fb:=fn_swap H ((fs.map T1.path).map (T1.padp w)).flatten w 5 tl Q.wpos (by decide) pb (by lia)
  rw [Q.turn] at fb
  refine Ex.onS ?_
  show ExS _ _ _ _ _ _
  refine ExS.assign 6 (d:=.b ((fs.map T1.path).map (T1.field w)).flatten) rfl (.c rfl rfl hcell) (EvS.call (ds:=[.b ((fs.map T1.path).map (T1.padp w)).flatten,D.n w]) R1 (Ev.glob g6 rfl) (by show keepIn C.K _=true;rw [hK];rfl) (EvL.cons (Ev.name 5 rfl rfl) (EvL.cons (Ev.name 4 rfl rfl) EvL.nil)) fb) ?_
  exact law_b H R Q hloc hcell hS hw hp
end Mine
end
section
open PySem PySem.Calls PySem.W PyProof.Rows
namespace Mine
theorem ints_of:∀ {xs:List WData},WShape.hasItems R xs .int=true→∃ ns:List Int,xs=ns.map WData.int
  | [],_=>⟨[],rfl⟩
  | x::r,h=>by
    have h':WShape.has R x .int=true∧WShape.hasItems R r .int=true:=by simpa [WShape.hasItems] using h
    obtain ⟨i,rfl⟩:=hasW_int h'.1
    obtain ⟨ns,rfl⟩:=ints_of h'.2
    exact ⟨i::ns,rfl⟩
theorem repL_ints {P:Params} {h:Heap} {X:List Addr}:∀ {vs:List Value} {ns:List Int},WellAll P h vs (ns.map WData.int)→RepL X h vs (ns.map D.int)
  | vs,[],w=>by cases w;exact .nil
  | vs,n::ns,w=>by
    cases w with
    | cons a b=>cases a;exact .cons (.int ..) (repL_ints b)
theorem OldK.of_ext {C:Cx} {s s':Shared} (e:Ext C [] s s') (hb:C.hb=s.heap) (t0:∀ p∈C.P,Tab C s.heap p):OldK s.heap s'.heap:=by
  refine ⟨fun b o h=>?_,e.occ⟩
  by_cases hP:b∈C.P
  · obtain ⟨c,ps₀,more,hc,x,y,i⟩:=e.tab t0 b hP
    rw [hb] at x
    have:=x.2
    rw [h] at this
    cases this
    exact .inr (.inl ⟨x.isCodeTable,rfl,ps₀,more,rfl,y.2⟩)
  · exact .inl (e.keep b o (fun h=>nomatch h) hP h)
theorem law_top (hQ:∀ c0 c1 c2:Int,∃ w hs,T1.Facts (T1.fol (T1.nm c1) (T1.hm c0) 5) w (T1.sbOf c2) hs):PySem.Challenge.rw_wv0010_01.Holds:=hd fun w s₀ s₁ mg mb G Y a o pm cd doc dV kV ho hdd hcd hD hmg hg args vals as hpre hlay hrd hwl hlo hT=>by
  have KX:(hd.heap_1 w.params).In s₁.heap:=kIn_of Y
  have hsh:=(pre_splitW hpre).1
  obtain ⟨d,r,rfl,h1,h2⟩:=hasAllW_cons hsh
  obtain rfl:=hasAllW_nil h2
  obtain ⟨xs,rfl,h3⟩:=hasW_list h1
  obtain ⟨ns,rfl⟩:=ints_of h3
  have hlen:=length_le_of_layableW (layableW_arg hlay _ (.head _))
  rw [List.length_map] at hlen
  have hT0:∀ P∈[113,120],s₁.heap.get? P=some tabO0:=hT
  have hnoP:∀ (b:Addr) (o':Obj),s₁.heap.get? b=some o'→o'.cls≠.none→b∉([113,120]:List Addr):=fun b o' hb hc hm=>by
    rw [hT0 b hm] at hb;cases hb;exact hc rfl
  let C:Cx:=⟨PySem.Challenge.rw_wv0010_01.row.toRowW.prog,w,hd.heap_1 w.params,s₁.heap,[113,120],mg,mb,s₁.os⟩
  have hbase:Base C:=⟨G.T.g,G.T.b,G.T.nolimit,G.T.builtins,KX,(by decide:mainGlobals∉([113,120]:List Addr)),(by decide:builtinsNs∉([113,120]:List Addr)),(by decide:cStatics∉([113,120]:List Addr)),fun b o' hb hm=>by
    have hm':b∈([113,120]:List Addr):=hm
    have:b=113∨b=120:=by simpa using hm'
    rcases this with rfl | rfl
    · exact absurd hb (by show (hd.heap_1 w.params).lookup 113≠_;rw [show (hd.heap_1 w.params).lookup 113=none from by rfl];exact fun h=>nomatch h)
    · exact absurd hb (by show (hd.heap_1 w.params).lookup 120≠_;rw [show (hd.heap_1 w.params).lookup 120=none from by rfl];exact fun h=>nomatch h)⟩
  have H:Is1 C:=⟨⟨_,rfl⟩,rfl,rfl,hbase,by
    obtain ⟨bm,ob,b1,b2,b3,b4,b5,b6⟩:=G.T.bmain
    exact ⟨bm,ob,⟨G.T.g,b1,b2,b3,b4,b5,b6⟩,hnoP bm ob b3 (by rw [b4];exact fun h=>nomatch h)⟩⟩
  have tab:∀ p∈C.P,Tab C s₁.heap p:=fun p hp=>by
    have hp':p∈([113,120]:List Addr):=hp
    have:p=113∨p=120:=by simpa using hp'
    rcases this with rfl | rfl
    · have c:=codeHd_of_K (c:=117) (P:=113) KX (by rfl)
      exact ⟨117,#[],#[],(by decide:(117:Addr)∉([113,120]:List Addr)),c.tab (hT0 113 hp),c.tab (hT0 113 hp),c.code (hT0 113 hp) trivial⟩
    · have c:=codeHd_of_K (c:=124) (P:=120) KX (by rfl)
      exact ⟨124,#[],#[],(by decide:(124:Addr)∉([113,120]:List Addr)),c.tab (hT0 120 hp),c.tab (hT0 120 hp),c.code (hT0 120 hp) trivial⟩
  have inv:Inv C [113,120] s₁:=⟨hbase,fun _ _ _ e=>e,tab,rfl,by rw [hg];exact AllBare.empty,fun p hp=>hp,fun a ha hP=>absurd ha hP,fun a ha=>⟨_,hT0 a ha⟩⟩
  obtain rfl:a=205:=by
    have e:mg "law"=some (.ref 205):=H.glob fun P=>by rfl
    have:=hmg.symm.trans e
    injection this with h;injection h
  have hvals:∃ v,vals=[v]∧Rep [113,120] s₁.heap v (D.is ns):=by
    cases hwl with
    | cons x y =>
      cases y
      cases x with
      | list ha wa=>exact ⟨_,rfl,.lst (hnoP _ _ ha (fun h=>nomatch h)) ha (repL_ints wa)⟩
  obtain ⟨v,rfl,rv⟩:=hvals
  have hcode:=fn_law H ns hlen hQ callerA [113,120] s₁ [v] ⟨rfl,by decide,by decide,rfl⟩ inv (.cons rv .nil)
  refine wpS_call (codeS_mono hcode fun r s' q=>?_)
  obtain ⟨v',rfl,e,r'⟩:=q
  cases r'
  refine ⟨.inl ⟨_,.bool true,[],rfl,fun _=>rfl,.bool true,?_,fun _=>⟨List.nodup_nil,fun _ h=>nomatch h⟩⟩,OldK.of_ext e rfl tab,e.os,e.gens inv.gens⟩
  exact postW_of (by wrow_shape) (by wtm_val) (by w_fin)
end Mine
end
section
namespace Mine
namespace T1
noncomputable def lin (homes:List Int):Nat→List Nat→List Int→List (List Nat)
  | 0,_,_=>[[]]
  | n+1,gone,waits=>(List.range 5).flatMap fun x=>if able gone waits x=true then (lin homes n (gone++[x]) (still homes waits x)).map (x::·) else []
noncomputable def maj (gt:Nat→Nat→Bool):Nat→Nat→List Nat→Nat
  | _,_,[]=>0
  | p,l,x::r=>(if (decide (0 < p) && gt l x)=true then p else 0)+maj gt (p+1) x r
noncomputable def gtr (r:List Nat) (a b:Nat):Bool:=Nat.blt (r.getD b 0) (r.getD a 0)
noncomputable def hms (a b c:Nat):List Int:=[-1,0,(a:Int) - 1,(b:Int) - 1,(c:Int) - 1]
noncomputable def wts (hs:List Int):List Int:=(List.range 5).map fun x:Nat=>((hs.count (x:Int):Nat):Int)
noncomputable def afol (h:Nat→Nat):Nat→List (List Nat)
  | 0=>[]
  | n+1=>afol h n++[if h n=0 then [n] else (afol h n).getD (h n - 1) []++[n]]
noncomputable def hh (a b c:Nat) (k:Nat):Nat:=[0,1,a,b,c].getD k 0
noncomputable def heldA (A:List (List Nat)) (x:Nat):Nat:=(A.filter fun o=>decide (o.take (A.getD x []).length=A.getD x [])).length
noncomputable def leftA (A:List (List Nat)):Nat→Nat
  | 0=>1
  | x+1=>leftA A x*(1000 ^ heldA A x - 1)
noncomputable def rightA (A:List (List Nat)) (h:Nat→Nat) (gt:Nat→Nat→Bool):Nat→Nat
  | 0=>1
  | x+1=>if (decide (0 < h x) && gt x (h x - 1))=true then rightA A h gt x*(1000 ^ (x+1) - 1)*1000 ^ heldA A x else rightA A h gt x*(1000 ^ (x+1) - 1)
noncomputable def ins (x:Nat):List Nat→List (List Nat)
  | []=>[[x]]
  | y::l=>(x::y::l)::(ins x l).map (y::·)
noncomputable def perms:List Nat→List (List Nat)
  | []=>[[]]
  | x::l=>(perms l).flatMap (ins x)
noncomputable def chk (L:List (List Nat)) (A:List (List Nat)) (h:Nat→Nat) (r:List Nat):Bool :=
  Nat.beq ((L.map fun π=>1000 ^ maj (gtr r) 0 0 π).sum*leftA A 5) (rightA A h (gtr r) 5)
noncomputable def chkF (a b c:Nat):Bool:=(perms [0,1,2,3,4]).all fun r=>chk (lin (hms a b c) 5 [] (wts (hms a b c))) (afol (hh a b c) 5) (hh a b c) r
end T1
end Mine
end
section
open PySem PySem.Calls PySem.W PyProof.Rows
namespace Mine
namespace T1
noncomputable def gt0 (texts:List Pc) (a x:Nat):Bool:=Mine.coll (tx texts a).2 (tx texts x).2 == 1
noncomputable def gt1 (texts:List Pc) (a x:Nat):Bool:=decide ((tx texts x).1 < (tx texts a).1)
theorem top_last (texts:List Pc) (gone:List Nat) (h:0 < gone.length):top (pile texts gone)=tx texts (gone.getLast?.getD 0):=by
  unfold top pile
  rw [List.getLast?_map]
  cases e:gone.getLast? with
  | none=>rw [List.getLast?_eq_none_iff] at e;rw [e] at h;cases h
  | some k=>rfl
theorem down0_eq (texts:List Pc) (gone:List Nat) (x:Nat):down0 gone.length (top (pile texts gone)) (tx texts x)=(decide (0 < gone.length) && gt0 texts (gone.getLast?.getD 0) x):=by
  unfold down0 gt0
  by_cases h:0 < gone.length
  · rw [top_last texts gone h,Bool.and_true]
  · rw [decide_eq_false h];rfl
theorem down1_eq (texts:List Pc) (gone:List Nat) (x:Nat):down1 gone.length (top (pile texts gone)) (tx texts x)=(decide (0 < gone.length) && gt1 texts (gone.getLast?.getD 0) x):=by
  unfold down1 gt1
  by_cases h:0 < gone.length
  · rw [top_last texts gone h,Bool.and_true]
  · rw [decide_eq_false h];rfl
theorem add_ite (b:Bool) (f p m:Nat):(if b=true then f+p else f)+m=f+((if b=true then p else 0)+m):=by cases b <;> simp <;> lia
theorem walk_lin (texts:List Pc) (homes:List Int):∀ n gone waits f0 f1,walk texts homes n gone waits f0 f1=(lin homes n gone waits).map fun π=>(f0+maj (gt0 texts) gone.length (gone.getLast?.getD 0) π,f1+maj (gt1 texts) gone.length (gone.getLast?.getD 0) π,true)
  | 0,gone,waits,f0,f1=>rfl
  | n+1,gone,waits,f0,f1=>by
    unfold walk lin
    rw [List.map_flatMap]
    congr 1
    funext x
    by_cases h:able gone waits x=true
    · rw [if_pos h,if_pos h,walk_lin texts homes n,List.map_map]
      congr 1
      funext π
      have hl:(gone++[x]).getLast?.getD 0=x:=by simp
      have hn:(gone++[x]).length=gone.length+1:=by simp
      simp only [Function.comp,maj,hl,hn,down0_eq,down1_eq,add_ite]
    · rw [if_neg h,if_neg h];rfl
theorem lin_low (homes:List Int):∀ n gone waits,∀ π∈lin homes n gone waits,∀ x∈π,x < 5
  | 0,_,_,π,h,x,hx=>by rw [List.mem_singleton.mp h] at hx;cases hx
  | n+1,gone,waits,π,h,x,hx=>by
    obtain ⟨y,hy,h⟩:=List.mem_flatMap.mp h
    split at h
    · obtain ⟨ρ,hρ,rfl⟩:=List.mem_map.mp h
      rcases List.mem_cons.mp hx with rfl | hx
      · exact List.mem_range.mp hy
      · exact lin_low homes n _ _ ρ hρ x hx
    · cases h
theorem maj_congr {g g':Nat→Nat→Bool} (h:∀ a x,a < 5→x < 5→g a x=g' a x):∀ π p l,l < 5→(∀ x∈π,x < 5)→maj g p l π=maj g' p l π
  | [],_,_,_,_=>rfl
  | x::r,p,l,hl,hx=>by
    have h1:=hx x (.head _)
    unfold maj
    rw [h l x hl h1,maj_congr h r (p+1) x h1 fun y hy=>hx y (.tail _ hy)]
theorem worth_cast:∀ l:List Nat,worth l=((l.map fun k=>1000 ^ k).sum:Nat)
  | []=>rfl
  | k::l=>by
    have:=worth_cast l
    unfold worth at this ⊢
    rw [List.map_cons,List.sum_cons,List.map_cons,List.sum_cons,Int.natCast_add,this,Int.natCast_pow];rfl
theorem worth_ends (texts : List Pc) (homes : List Int) (waits : List Int) {g g' : Nat → Nat → Bool} (h : ∀ a x, a < 5 → x < 5 → gt0 texts a x = g a x) (h' : ∀ a x, a < 5 → x < 5 → gt1 texts a x = g' a x) :
    worth ((walk texts homes 5 [] waits 0 0).map fun e=>e.1)=(((lin homes 5 [] waits).map fun π=>1000 ^ maj g 0 0 π).sum:Nat)∧worth ((walk texts homes 5 [] waits 0 0).map fun e=>e.2.1)=(((lin homes 5 [] waits).map fun π=>1000 ^ maj g' 0 0 π).sum:Nat):=by
  rw [walk_lin,worth_cast,worth_cast]
  simp only [List.map_map]
  refine ⟨congrArg (fun l:List Nat=>((l.sum:Nat):Int)) (List.map_congr_left fun π hπ=>?_),congrArg (fun l:List Nat=>((l.sum:Nat):Int)) (List.map_congr_left fun π hπ=>?_)⟩
  · show 1000 ^ (0+maj (gt0 texts) 0 0 π)=_
    rw [Nat.zero_add,maj_congr h π 0 0 (by decide) (lin_low _ _ _ _ π hπ)]
  · show 1000 ^ (0+maj (gt1 texts) 0 0 π)=_
    rw [Nat.zero_add,maj_congr h' π 0 0 (by decide) (lin_low _ _ _ _ π hπ)]
end T1
end Mine
end
section
open PySem PySem.Calls PySem.W PyProof.Rows
namespace Mine
namespace T1
theorem fol_afol (nm:Nat→List Nat) (h:Nat→Nat):∀ n,fol nm h n=(afol h n).map (List.map nm)
  | 0=>rfl
  | n+1=>by
    unfold fol afol
    rw [fol_afol nm h n,List.map_append]
    congr 1
    by_cases q:h n=0
    · rw [if_pos q,if_pos q];rfl
    · rw [if_neg q,if_neg q,List.map_singleton,List.map_append,List.getD_eq_getElem?_getD,List.getElem?_map,List.getD_eq_getElem?_getD]
      cases (afol h n)[h n - 1]? <;> rfl
theorem afol_congr {h h':Nat→Nat}:∀ n,(∀ k,k < n→h k=h' k)→afol h n=afol h' n
  | 0,_=>rfl
  | n+1,e=>by
    unfold afol
    rw [afol_congr n fun k hk=>e k (Nat.lt_succ_of_lt hk),e n (Nat.lt_succ_self n)]
noncomputable def okA (h:Nat→Nat) (hs:List Int) (A:List (List Nat)):Bool :=
  (List.range 5).all fun x=>decide ((A.getD x []).length≤5) && (A.getD x []).all (fun k=>decide (k < 5)) && decide (1 < (A.getD x []).length↔0 < h x) && (decide (h x=0) || (decide ((A.getD x []).dropLast=A.getD (h x - 1) []) && decide (h x - 1 < 5))) && decide ((A.getD x []).getLast?=some x) &&
    decide ((A.getD x []).isPrefixOf (0::A.getD x [])=decide (x=0)) &&
    (let i:=(List.range 5).filter fun y=>decide (y≠x) && ((A.getD x []).take (A.getD y []).length == A.getD y [])
     let l:List Int:=(-1:Int)::i.map fun y:Nat=>(y:Int)
     decide (hs.getD x 0∈l) && l.all fun m=>decide (m≤hs.getD x 0))
noncomputable def okF (a b c:Nat):Bool:=okA (hh a b c) (hms a b c) (afol (hh a b c) 5) && decide ((afol (hh a b c) 5).length=5) && decide ((afol (hh a b c) 5).Nodup)
theorem okF_all:∀ a,a < 3→∀ b,b < 4→∀ c,c < 5→okF a b c=true:=by
  have h:((List.range 3).all fun a=>(List.range 4).all fun b=>(List.range 5).all fun c=>okF a b c)=true:=by decide +kernel
  intro a ha b hb c hc
  have:=List.all_eq_true.mp h a (List.mem_range.mpr ha)
  have:=List.all_eq_true.mp this b (List.mem_range.mpr hb)
  exact List.all_eq_true.mp this c (List.mem_range.mpr hc)
theorem chk_row (a b:Nat) (h:((List.range 5).all fun c=>chkF a b c)=true):∀ c,c < 5→chkF a b c=true:=fun c hc=>List.all_eq_true.mp h c (List.mem_range.mpr hc)
theorem chk00:((List.range 5).all fun c=>chkF 0 0 c)=true:=by decide +kernel
theorem chk01:((List.range 5).all fun c=>chkF 0 1 c)=true:=by decide +kernel
theorem chk02:((List.range 5).all fun c=>chkF 0 2 c)=true:=by decide +kernel
theorem chk03:((List.range 5).all fun c=>chkF 0 3 c)=true:=by decide +kernel
theorem chk10:((List.range 5).all fun c=>chkF 1 0 c)=true:=by decide +kernel
theorem chk11:((List.range 5).all fun c=>chkF 1 1 c)=true:=by decide +kernel
theorem chk12:((List.range 5).all fun c=>chkF 1 2 c)=true:=by decide +kernel
theorem chk13:((List.range 5).all fun c=>chkF 1 3 c)=true:=by decide +kernel
theorem chk20:((List.range 5).all fun c=>chkF 2 0 c)=true:=by decide +kernel
theorem chk21:((List.range 5).all fun c=>chkF 2 1 c)=true:=by decide +kernel
theorem chk22:((List.range 5).all fun c=>chkF 2 2 c)=true:=by decide +kernel
theorem chk23:((List.range 5).all fun c=>chkF 2 3 c)=true:=by decide +kernel
theorem chk_all:∀ a,a < 3→∀ b,b < 4→∀ c,c < 5→chkF a b c=true
  | 0,_,0,_=>chk_row _ _ chk00
  | 0,_,1,_=>chk_row _ _ chk01
  | 0,_,2,_=>chk_row _ _ chk02
  | 0,_,3,_=>chk_row _ _ chk03
  | 1,_,0,_=>chk_row _ _ chk10
  | 1,_,1,_=>chk_row _ _ chk11
  | 1,_,2,_=>chk_row _ _ chk12
  | 1,_,3,_=>chk_row _ _ chk13
  | 2,_,0,_=>chk_row _ _ chk20
  | 2,_,1,_=>chk_row _ _ chk21
  | 2,_,2,_=>chk_row _ _ chk22
  | 2,_,3,_=>chk_row _ _ chk23
  | a+3,ha,_,_=>absurd ha (by lia)
  | _,_,b+4,hb=>absurd hb (by lia)
end T1
end Mine
end
section
open PySem PySem.Calls PySem.W PyProof.Rows
namespace Mine
namespace Srt
structure Ord (n:Nat) (lt:Nat→Nat→Bool):Prop where
  tr:∀ a b c,a < n→b < n→c < n→lt a b=true→lt b c=true→lt a c=true
  tot:∀ a b,a < n→b < n→a≠b→lt a b=true∨lt b a=true
  asym:∀ a b,a < n→b < n→lt a b=true→lt b a=false
structure Prm (n:Nat) (p:Array Nat):Prop where
  pm:p.toList.Perm (List.range n)
  sz:p.size=n
  low:∀ i,i < n→p.getD i 0 < n
  inj:∀ i j,i < n→j < n→p.getD i 0=p.getD j 0→i=j
noncomputable def UpTo (lt:Nat→Nat→Bool) (p:Array Nat) (k:Nat):Prop:=∀ i j,i < j→j < k→lt (p.getD i 0) (p.getD j 0)=true
section
variable {n:Nat} {lt:Nat→Nat→Bool} {p:Array Nat}
theorem getD_of {q:Array Nat} {i:Nat}:q.getD i 0=(q[i]?).getD 0:=by rw [Array.getD_eq_getD_getElem?]
theorem Prm.range (n:Nat):Prm n (List.toArray (List.range n)):=by
  have e:∀ i,i < n→(List.toArray (List.range n)).getD i 0=i:=fun i hi=>by rw [getD_of];simp [hi]
  exact ⟨by simp,by simp,fun i hi=>by rw [e i hi];exact hi,fun i j hi hj h=>by rw [e i hi,e j hj] at h;exact h⟩
theorem Prm.move {q:Array Nat} (h:Prm n p) (hpm:q.Perm p) (hq:q.size=n) (σ:Nat→Nat) (hσ:∀ i,i < n→σ i < n) (inj:∀ i j,i < n→j < n→σ i=σ j→i=j) (hg:∀ i,i < n→q[i]?=p[σ i]?):Prm n q:=by
  have e:∀ i,i < n→q.getD i 0=p.getD (σ i) 0:=fun i hi=>by rw [getD_of,getD_of,hg i hi]
  exact ⟨(Array.perm_iff_toList_perm.mp hpm).trans h.pm,hq,fun i hi=>by rw [e i hi];exact h.low _ (hσ i hi),fun i j hi hj hh=>inj i j hi hj (h.inj _ _ (hσ i hi) (hσ j hj) (by rw [← e i hi,← e j hj];exact hh))⟩
theorem UpTo.of_step (O:Ord n lt) (h:Prm n p) {k:Nat} (hk:k≤n) (st:∀ i,0 < i→i < k→lt (p.getD (i - 1) 0) (p.getD i 0)=true):UpTo lt p k:=by
  intro i j hij hj
  induction j with
  | zero=>lia
  | succ j ih =>
    have h1:=st (j+1) (by lia) hj
    by_cases c:i=j
    · subst c;exact h1
    · exact O.tr _ _ _ (h.low _ (by lia)) (h.low _ (by lia)) (h.low _ (by lia)) (ih (by lia) (by lia)) h1
theorem asc_spec (p:Array Nat):∀ f k,k≤evalT lt (kas_asc p f k)∧evalT lt (kas_asc p f k)≤k+f∧(∀ i,k≤i→i < evalT lt (kas_asc p f k)→lt (p.getD i 0) (p.getD (i - 1) 0)=false)∧(evalT lt (kas_asc p f k) < k+f→lt (p.getD (evalT lt (kas_asc p f k)) 0) (p.getD (evalT lt (kas_asc p f k) - 1) 0)=true)
  | 0,k=>⟨Nat.le_refl _,Nat.le_refl _,fun i h1 h2=>by have:i < k:=h2;lia,fun h=>absurd h (Nat.lt_irrefl _)⟩
  | f+1,k=>by
    cases c:lt (p.getD k 0) (p.getD (k - 1) 0) with
    | true =>
      have e:evalT lt (kas_asc p (f+1) k)=k:=by
        show evalT lt (if lt (p.getD k 0) (p.getD (k - 1) 0)=true then KasT.ret k else _)=k
        rw [if_pos c];rfl
      rw [e]
      exact ⟨Nat.le_refl _,by lia,fun i h1 h2=>by lia,fun _=>c⟩
    | false =>
      have e:evalT lt (kas_asc p (f+1) k)=evalT lt (kas_asc p f (k+1)):=by
        show evalT lt (if lt (p.getD k 0) (p.getD (k - 1) 0)=true then KasT.ret k else _)=_
        rw [if_neg (by rw [c];decide)]
      rw [e]
      obtain ⟨a1,a2,a3,a4⟩:=asc_spec p f (k+1)
      refine ⟨by lia,by lia,fun i h1 h2=>?_,fun h=>a4 (by lia)⟩
      by_cases q:i=k
      · subst q;exact c
      · exact a3 i (by lia) h2
theorem desc_spec (O:Ord n lt) (h:Prm n p):∀ f k,0 < k→k+f≤n→∃ k',evalT lt (kas_desc f p k 0)=(p,k',0)∧k≤k'∧k'≤k+f∧∀ i,k≤i→i < k'→lt (p.getD i 0) (p.getD (i - 1) 0)=true
  | 0,k,_,_=>⟨k,rfl,Nat.le_refl _,Nat.le_refl _,fun i h1 h2=>by lia⟩
  | f+1,k,h0,hk=>by
    cases c:lt (p.getD k 0) (p.getD (k - 1) 0) with
    | true =>
      have e:evalT lt (kas_desc (f+1) p k 0)=evalT lt (kas_desc f p (k+1) 0):=by
        show evalT lt (if lt (p.getD k 0) (p.getD (k - 1) 0)=true then (if 0 > 0 then _ else _) else _)=_
        rw [if_pos c,if_neg (by lia)]
      obtain ⟨k',a1,a2,a3,a4⟩:=desc_spec O h f (k+1) (by lia) (by lia)
      refine ⟨k',e.trans a1,by lia,by lia,fun i h1 h2=>?_⟩
      by_cases q:i=k
      · subst q;exact c
      · exact a4 i (by lia) h2
    | false =>
      have hne:p.getD k 0≠p.getD (k - 1) 0:=fun q=>by have:=h.inj k (k - 1) (by lia) (by lia) q;lia
      have c2:lt (p.getD (k - 1) 0) (p.getD k 0)=true:=by
        rcases O.tot _ _ (h.low k (by lia)) (h.low (k - 1) (by lia)) hne with q | q
        · rw [c] at q;cases q
        · exact q
      refine ⟨k,?_,Nat.le_refl _,by lia,fun i h1 h2=>by lia⟩
      show evalT lt (if lt (p.getD k 0) (p.getD (k - 1) 0)=true then _ else KasT.ask _ _ _)=_
      rw [if_neg (by rw [c];decide)]
      show evalT lt (if lt (p.getD (k - 1) 0) (p.getD k 0)=true then KasT.ret (p,k,0) else _)=_
      rw [if_pos c2];rfl
theorem evalT_bind {α β:Type} {f:α→KasT β}:∀ (t:KasT α),evalT lt (t.bind f)=evalT lt (f (evalT lt t))
  | .ret _=>rfl
  | .ask i j k=>by
    show evalT lt (((k (lt i j))).bind f)=evalT lt (f (evalT lt (k (lt i j))))
    exact evalT_bind (k (lt i j))
theorem rev_spec (h:Prm n p) {k:Nat} (hk:k≤n):Prm n (kas_rev p 0 k)∧∀ i,i < n→(kas_rev p 0 k).getD i 0=p.getD (if i < k then k - 1 - i else i) 0:=by
  have g:∀ i,i < n→(kas_rev p 0 k)[i]?=p[if i < k then k - 1 - i else i]?:=fun i hi=>by
    unfold kas_rev
    rw [getElem?_mirror_all (by rw [h.sz];exact hk)]
    by_cases c:i < k
    · rw [if_pos ⟨Nat.zero_le _,c⟩,if_pos c,Nat.zero_add]
    · rw [if_neg (fun q=>c q.2),if_neg c]
  refine ⟨h.move (by unfold kas_rev;exact mirror_perm ..) (by unfold kas_rev;rw [mirror_size,h.sz]) (fun i=>if i < k then k - 1 - i else i) (fun i hi=>?_) (fun i j hi hj hh=>?_) g,fun i hi=>by rw [getD_of,getD_of,g i hi]⟩
  · by_cases c:i < k
    · rw [if_pos c];exact Nat.lt_of_le_of_lt (Nat.sub_le (k - 1) i) (Nat.lt_of_lt_of_le (Nat.sub_lt (Nat.lt_of_le_of_lt (Nat.zero_le i) c) Nat.one_pos) hk)
    · rw [if_neg c];exact hi
  · by_cases c:i < k <;> by_cases d:j < k
    · rw [if_pos c,if_pos d] at hh;lia
    · rw [if_pos c,if_neg d] at hh;lia
    · rw [if_neg c,if_pos d] at hh;lia
    · rwa [if_neg c,if_neg d] at hh
theorem count_spec (O:Ord n lt) (hn:2≤n):∃ m q,evalT lt (kas_count n (List.toArray (List.range n)))=(m,q)∧1≤m∧m≤n∧Prm n q∧UpTo lt q m:=by
  have hp:=Prm.range n
  generalize List.toArray (List.range n)=p at *
  obtain ⟨a1,a2,a3,a4⟩:=asc_spec (lt:=lt) p (n - 1) 1
  have turn:∀ {q:Array Nat},Prm n q→∀ i,0 < i→i < n→lt (q.getD i 0) (q.getD (i - 1) 0)=false→lt (q.getD (i - 1) 0) (q.getD i 0)=true:=fun {q} hq i h0 hi hf=>by
    have hne:q.getD i 0≠q.getD (i - 1) 0:=fun z=>by have:=hq.inj i (i - 1) hi (by lia) z;lia
    rcases O.tot _ _ (hq.low i hi) (hq.low (i - 1) (by lia)) hne with z | z
    · rw [hf] at z;cases z
    · exact z
  unfold kas_count
  rw [evalT_bind]
  generalize hm:evalT lt (kas_asc p (n - 1) 1)=m at *
  have hup:UpTo lt p m:=.of_step O hp (by lia) fun i h0 hi=>turn hp i h0 (by lia) (a3 i (by lia) hi)
  by_cases c1:(m == n)=true
  · rw [if_pos c1]
    exact ⟨m,p,rfl,by lia,by lia,hp,hup⟩
  rw [if_neg c1]
  have c1':m≠n:=by simpa using c1
  by_cases c2:m > 1
  · rw [if_pos c2]
    have c3:lt (p.getD 0 0) (p.getD (m - 1) 0)=true:=hup 0 (m - 1) (by lia) (by lia)
    refine ⟨m,p,?_,by lia,by lia,hp,hup⟩
    show evalT lt (if lt (p.getD 0 0) (p.getD (m - 1) 0)=true then KasT.ret (m,p) else _)=_
    rw [if_pos c3];rfl
  · rw [if_neg c2]
    have hm1:m=1:=by lia
    subst hm1
    have c3:=a4 (by lia)
    obtain ⟨k,d1,d2,d3,d4⟩:=desc_spec O hp (n - (1+1)) (1+1) (by lia) (by lia)
    unfold kas_descPart
    rw [evalT_bind,d1]
    show ∃ m q,evalT lt (if 0 > 0 then _ else kas_tail3 k n p)=_∧_
    rw [if_neg (by lia)]
    unfold kas_tail3
    rw [evalT_bind]
    obtain ⟨hq,hg⟩:=rev_spec hp (k:=k) (by lia)
    generalize kas_rev p 0 k=q at *
    obtain ⟨b1,b2,b3,b4⟩:=asc_spec (lt:=lt) q (n - k) k
    generalize evalT lt (kas_asc q (n - k) k)=m at *
    refine ⟨m,q,rfl,by lia,by lia,hq,.of_step O hq (by lia) fun i h0 hi=>?_⟩
    by_cases c:i < k
    · rw [hg (i - 1) (by lia),hg i (by lia),if_pos (by lia),if_pos c]
      have h2:lt (p.getD (k - 1 - (i - 1)) 0) (p.getD (k - 1 - (i - 1) - 1) 0)=true:=by
        by_cases q1:k - 1 - (i - 1)=1
        · rw [q1];exact c3
        · exact d4 _ (by lia) (by lia)
      rw [show k - 1 - (i - 1) - 1=k - 1 - i by lia] at h2
      exact h2
    · exact turn hq i h0 (by lia) (b3 i (by lia) hi)
theorem place_spec (O : Ord n lt) (h : Prm n p) {k : Nat} (hk : k < n) (hup : UpTo lt p k) : ∀ f l r, l ≤ r → r ≤ k → r - l ≤ f → (∀ i, i < l → lt (p.getD k 0) (p.getD i 0) = false) → (∀ i, r ≤ i → i < k → lt (p.getD k 0) (p.getD i 0) = true) →
    evalT lt (kas_place p k f l r)≤k∧(∀ i,i < evalT lt (kas_place p k f l r)→lt (p.getD k 0) (p.getD i 0)=false)∧(∀ i,evalT lt (kas_place p k f l r)≤i→i < k→lt (p.getD k 0) (p.getD i 0)=true)
  | 0,l,r,h1,h2,h3,h4,h5=>by
    have:l=r:=by lia
    subst this
    exact ⟨h2,h4,h5⟩
  | f+1,l,r,h1,h2,h3,h4,h5=>by
    by_cases c:l≥r
    · have e:evalT lt (kas_place p k (f+1) l r)=l:=by
        show evalT lt (if l≥r then KasT.ret l else _)=_
        rw [if_pos c];rfl
      rw [e]
      have:l=r:=by lia
      subst this
      exact ⟨h2,h4,h5⟩
    · have e:evalT lt (kas_place p k (f+1) l r)=evalT lt (if lt (p.getD k 0) (p.getD ((l+r) / 2) 0)=true then kas_place p k f l ((l+r) / 2) else kas_place p k f ((l+r) / 2+1) r):=by
        show evalT lt (if l≥r then KasT.ret l else _)=_
        rw [if_neg c];rfl
      rw [e]
      have m1:l≤(l+r) / 2:=by lia
      have m2:(l+r) / 2 < r:=by lia
      clear e c
      generalize (l+r) / 2=m at *
      cases q:lt (p.getD k 0) (p.getD m 0) with
      | true =>
        rw [if_pos rfl]
        refine place_spec O h hk hup f l m (by lia) (by lia) (by lia) h4 fun i i1 i2=>?_
        by_cases ci:i=m
        · subst ci;exact q
        · exact O.tr _ _ _ (h.low k hk) (h.low _ (by lia)) (h.low i (by lia)) q (hup _ i (by lia) i2)
      | false =>
        rw [if_neg (by decide)]
        refine place_spec O h hk hup f (m+1) r (by lia) h2 (by lia) (fun i hi=>?_) h5
        by_cases ci:i=m
        · subst ci;exact q
        · cases z:lt (p.getD k 0) (p.getD i 0) with
          | false=>rfl
          | true =>
            have:=O.tr _ _ _ (h.low k hk) (h.low i (by lia)) (h.low m (by lia)) z (hup i _ (by lia) (by lia))
            rw [q] at this;cases this
theorem bin_spec (O:Ord n lt):∀ f (p:Array Nat) k,Prm n p→k+f=n→UpTo lt p k→Prm n (evalT lt (kas_bin f p k))∧UpTo lt (evalT lt (kas_bin f p k)) n
  | 0,p,k,h,hk,hup=>by
    have:k=n:=by lia
    subst this
    exact ⟨h,hup⟩
  | f+1,p,k,h,hk,hup=>by
    show Prm n (evalT lt ((kas_place p k k 0 k).bind fun l=>kas_bin f (bubble p k (k - l)) (k+1)))∧UpTo lt (evalT lt ((kas_place p k k 0 k).bind fun l=>kas_bin f (bubble p k (k - l)) (k+1))) n
    rw [evalT_bind]
    obtain ⟨l1,l2,l3⟩:=place_spec O h (k:=k) (by lia) hup k 0 k (by lia) (Nat.le_refl _) (by lia) (fun i hi=>by lia) (fun i i1 i2=>by lia)
    generalize evalT lt (kas_place p k k 0 k)=l at *
    have g:∀ i,i < n→(bubble p k (k - l))[i]?=p[if i=l then k else if l < i∧i≤k then i - 1 else i]?:=fun i hi=>by
      rw [getElem?_bubble (by rw [h.sz];lia) _ (by lia),show k - (k - l)=l by lia]
      split
      · rfl
      · split <;> rfl
    have hq:Prm n (bubble p k (k - l)):=h.move (bubble_perm ..) (by rw [bubble_size,h.sz]) (fun i=>if i=l then k else if l < i∧i≤k then i - 1 else i) (fun i hi=>by (try dsimp only);split <;> (try split) <;> lia) (fun i j hi hj hh=>by
      try dsimp only at hh
      split at hh <;> (try split at hh) <;> (try split at hh) <;> (try split at hh) <;> lia) g
    have gd:∀ i,i < n→(bubble p k (k - l)).getD i 0=p.getD (if i=l then k else if l < i∧i≤k then i - 1 else i) 0:=fun i hi=>by rw [getD_of,getD_of,g i hi]
    refine bin_spec O f _ (k+1) hq (by lia) fun i j hij hj=>?_
    rw [gd i (by lia),gd j (by lia)]
    by_cases c1:j=l
    · rw [if_pos c1,if_neg (by lia),if_neg (by lia)]
      have hne:p.getD k 0≠p.getD i 0:=fun z=>by have:=h.inj k i (by lia) (by lia) z;lia
      rcases O.tot _ _ (h.low k (by lia)) (h.low i (by lia)) hne with z | z
      · rw [l2 i (by lia)] at z;cases z
      · exact z
    · rw [if_neg c1]
      by_cases c2:i=l
      · rw [if_pos c2,if_pos (by lia)]
        exact l3 (j - 1) (by lia) (by lia)
      · rw [if_neg c2]
        by_cases c3:l < j∧j≤k
        · rw [if_pos c3]
          by_cases c4:l < i∧i≤k
          · rw [if_pos c4];exact hup _ _ (by lia) (by lia)
          · rw [if_neg c4];exact hup _ _ (by lia) (by lia)
        · rw [if_neg c3,if_neg (by lia)]
          exact hup _ _ (by lia) (by lia)
theorem sort_spec (O:Ord n lt) (hn:2≤n):Prm n (evalT lt (kas_sort n))∧UpTo lt (evalT lt (kas_sort n)) n:=by
  obtain ⟨m,q,h1,h2,h3,h4,h5⟩:=count_spec O hn
  unfold kas_sort
  rw [evalT_bind,h1]
  dsimp only
  by_cases c:m < n
  · rw [if_pos c,Nat.max_eq_left h2]
    exact bin_spec O _ _ _ h4 (by lia) h5
  · rw [if_neg c]
    have:m=n:=by lia
    subst this
    exact ⟨h4,h5⟩
end
structure Tot {α:Type} (lt:α→α→Bool) (l:List α):Prop where
  tr:∀ a b c,a∈l→b∈l→c∈l→lt a b=true→lt b c=true→lt a c=true
  tot:∀ a b,a∈l→b∈l→a≠b→lt a b=true∨lt b a=true
  asym:∀ a b,a∈l→b∈l→lt a b=true→lt b a=false
theorem sorted_ok {α:Type} (d:α) (lt:α→α→Bool) (l:List α) (nd:l.Nodup) (T:Tot lt l):(pysort d lt l).Perm l∧(pysort d lt l).Pairwise fun a b=>lt a b=true:=by
  unfold pysort sortIx
  have hmap:(List.range l.length).map (fun i=>l.getD i d)=l:=by
    refine List.ext_getElem (by simp) fun i h1 h2=>?_
    simp [List.getD_eq_getElem?_getD,List.getElem?_eq_getElem h2]
  by_cases h:l.length < 2
  · rw [if_pos h,hmap]
    refine ⟨List.Perm.refl _,?_⟩
    cases l with
    | nil=>exact List.Pairwise.nil
    | cons a l=>rw [List.eq_nil_of_length_eq_zero (Nat.lt_one_iff.mp (Nat.lt_of_succ_lt_succ h))];exact List.pairwise_singleton _ _
  rw [if_neg h]
  have gd:∀ i,(hi:i < l.length)→l.getD i d=l[i]:=fun i hi=>by rw [List.getD_eq_getElem?_getD,List.getElem?_eq_getElem hi];rfl
  have O:Ord l.length (ltAt d lt l):=by
    refine ⟨fun a b c ha hb hc=>?_,fun a b ha hb hne=>?_,fun a b ha hb=>?_⟩
    · unfold ltAt;rw [gd a ha,gd b hb,gd c hc]
      exact T.tr _ _ _ (List.getElem_mem _) (List.getElem_mem _) (List.getElem_mem _)
    · unfold ltAt;rw [gd a ha,gd b hb]
      exact T.tot _ _ (List.getElem_mem _) (List.getElem_mem _) fun e=>hne ((List.getElem_inj nd).mp e)
    · unfold ltAt;rw [gd a ha,gd b hb]
      exact T.asym _ _ (List.getElem_mem _) (List.getElem_mem _)
  obtain ⟨hp,hu⟩:=sort_spec O (by lia)
  generalize evalT (ltAt d lt l) (kas_sort l.length)=q at *
  refine ⟨?_,?_⟩
  · have:=hp.pm.map (fun i=>l.getD i d)
    rw [hmap] at this
    exact this
  · rw [List.pairwise_map,List.pairwise_iff_getElem]
    intro i j hi hj hij
    have hj':j < l.length:=by have:=hp.sz;simp at hj;lia
    have:=hu i j hij hj'
    have e:∀ k,(hk:k < q.toList.length)→q.getD k 0=q.toList[k]:=fun k hk=>by
      rw [getD_of]
      simp at hk
      simp [hk]
    rw [e i hi,e j hj] at this
    exact this
theorem sorted_same {α:Type} (d:α) (lt:α→α→Bool) {l l':List α} (nd:l.Nodup) (nd':l'.Nodup) (T:Tot lt l) (h:∀ a,a∈l↔a∈l'):pysort d lt l=pysort d lt l':=by
  have T':Tot lt l':=⟨fun a b c ha hb hc=>T.tr a b c ((h a).mpr ha) ((h b).mpr hb) ((h c).mpr hc),fun a b ha hb=>T.tot a b ((h a).mpr ha) ((h b).mpr hb),fun a b ha hb=>T.asym a b ((h a).mpr ha) ((h b).mpr hb)⟩
  obtain ⟨p1,s1⟩:=sorted_ok d lt l nd T
  obtain ⟨p2,s2⟩:=sorted_ok d lt l' nd' T'
  have pp:l.Perm l':=(List.perm_ext_iff_of_nodup nd nd').mpr h
  refine List.Perm.eq_of_pairwise (le:=fun a b=>lt a b=true) (fun a b ha hb h1 h2=>?_) s1 s2 ((p1.trans pp).trans p2.symm)
  have:=T.asym a b (p1.mem_iff.mp ha) ((h b).mpr (p2.mem_iff.mp hb)) h1
  rw [h2] at this;cases this
noncomputable def lt3 (x y:Nat × Nat × Nat):Bool:=ltT (x.1,x.2.1,x.2.2) (y.1,y.2.1,y.2.2)
theorem lt_step {a b:Nat} {p:Bool} {as bs:List Nat} (h:p=true↔as < bs):(if (a:Int)=(b:Int) then p else decide ((a:Int) < (b:Int)))=true↔a::as < b::bs:=by
  rw [List.cons_lt_cons_iff]
  by_cases q:a=b
  · subst q
    rw [if_pos rfl,h]
    exact ⟨fun z=>.inr ⟨rfl,z⟩,fun z=>z.elim (fun z=>absurd z (Nat.lt_irrefl _)) And.right⟩
  · rw [if_neg (fun e:(a:Int)=b=>q (Int.ofNat.inj e)),decide_eq_true_iff]
    exact ⟨fun z=>.inl (Int.ofNat_lt.mp z),fun z=>z.elim Int.ofNat_lt.mpr fun z=>absurd z.1 q⟩
theorem lt3_lst (x y:Nat × Nat × Nat):lt3 x y=true↔[x.1,x.2.1,x.2.2] < [y.1,y.2.1,y.2.2] :=
  lt_step (lt_step (lt_step ⟨fun h=>(Bool.false_ne_true h).elim,fun h=>absurd h (List.lt_irrefl _)⟩))
theorem tot3 (l:List (Nat × Nat × Nat)):Tot lt3 l:=by
  refine ⟨fun a b c _ _ _ h1 h2=>(lt3_lst a c).mpr (List.lt_trans ((lt3_lst a b).mp h1) ((lt3_lst b c).mp h2)),fun a b _ _ hne=>?_,fun a b _ _ h=>?_⟩
  · rw [lt3_lst,lt3_lst]
    by_cases h:[a.1,a.2.1,a.2.2] < [b.1,b.2.1,b.2.2]
    · exact .inl h
    · refine .inr (Classical.byContradiction fun h2=>hne ?_)
      have e:=List.le_antisymm (List.not_lt.mp h2) (List.not_lt.mp h)
      injection e with e1 e;injection e with e2 e;injection e with e3
      exact Prod.ext e1 (Prod.ext e2 e3)
  · exact Bool.eq_false_iff.mpr fun q=>List.lt_asymm ((lt3_lst a b).mp h) ((lt3_lst b a).mp q)
end Srt
end Mine
end
section
open PySem PySem.Calls PySem.W PyProof.Rows
namespace Mine
namespace T1
theorem ordN_lt:∀ a b:List Nat,ordN .Lt a b=true↔a < b
  | [],[]=>⟨fun h=>(Bool.false_ne_true h).elim,fun h=>absurd h (List.lt_irrefl _)⟩
  | [],b::bs=>⟨fun _=>List.nil_lt_cons b bs,fun _=>rfl⟩
  | a::as,[]=>⟨fun h=>(Bool.false_ne_true h).elim,fun h=>absurd h (List.not_lt_nil _)⟩
  | a::as,b::bs=>Srt.lt_step (ordN_lt as bs)
theorem ordN_gt:∀ a b:List Nat,ordN .Gt a b=true↔b < a
  | [],[]=>⟨fun h=>(Bool.false_ne_true h).elim,fun h=>absurd h (List.lt_irrefl _)⟩
  | [],b::bs=>⟨fun h=>(Bool.false_ne_true h).elim,fun h=>absurd h (List.not_lt_nil _)⟩
  | a::as,[]=>⟨fun _=>List.nil_lt_cons a as,fun _=>rfl⟩
  | a::as,b::bs=>by
    show (if (a:Int)=(b:Int) then ordN .Gt as bs else decide ((a:Int) > (b:Int)))=true↔_
    rw [List.cons_lt_cons_iff]
    by_cases q:a=b
    · subst q
      rw [if_pos rfl,ordN_gt as bs]
      exact ⟨fun z=>.inr ⟨rfl,z⟩,fun z=>z.elim (fun z=>absurd z (Nat.lt_irrefl _)) And.right⟩
    · rw [if_neg (fun e:(a:Int)=b=>q (Int.ofNat.inj e)),decide_eq_true_iff]
      exact ⟨fun z=>.inl (Int.ofNat_lt.mp z),fun z=>z.elim Int.ofNat_lt.mpr fun z=>absurd z.1.symm q⟩
theorem bool_iff {p q:Bool} (h:p=true↔q=true):p=q:=Bool.eq_iff_iff.mpr h
theorem list_tot (a b:List Nat) (h:a≠b):a < b∨b < a:=by
  by_cases q:a < b
  · exact .inl q
  · exact .inr (Classical.byContradiction fun z=>h (List.le_antisymm (List.not_lt.mp z) (List.not_lt.mp q)))
theorem list_asym {a b:List Nat} (h:a < b):¬ b < a:=fun z=>List.lt_irrefl _ (List.lt_trans h z)
theorem coll_one (a b:List Nat):(Mine.coll a b == 1)=decide (b < a):=by
  unfold Mine.coll
  by_cases h:b < a
  · rw [decide_eq_true h,decide_eq_false (list_asym h)];rfl
  · rw [decide_eq_false h]
    cases decide (a < b) <;> rfl
noncomputable def rk (ks:Nat→List Nat) (x:Nat):Nat:=((List.range 5).filter fun y=>decide (ks y < ks x)).length
theorem filter_le {p q:Nat→Bool} (h:∀ x,p x=true→q x=true):∀ l:List Nat,(l.filter p).length≤(l.filter q).length
  | []=>Nat.le_refl _
  | a::l=>by
    have ih:=filter_le h l
    rw [List.filter_cons,List.filter_cons]
    by_cases hp:p a=true
    · rw [if_pos hp,if_pos (h a hp),List.length_cons,List.length_cons];lia
    · rw [if_neg hp]
      split
      · rw [List.length_cons];lia
      · exact ih
theorem filter_lt {p q:Nat→Bool} (h:∀ x,p x=true→q x=true) {k:Nat} (hq:q k=true) (hp:p k=false):∀ l:List Nat,k∈l→(l.filter p).length < (l.filter q).length
  | [],hk=>nomatch hk
  | a::l,hk=>by
    rw [List.filter_cons,List.filter_cons]
    rcases List.mem_cons.mp hk with rfl | hk
    · rw [if_neg (by rw [hp];decide),if_pos hq,List.length_cons]
      exact Nat.lt_succ_of_le (filter_le h l)
    · have ih:=filter_lt h hq hp l hk
      by_cases hp':p a=true
      · rw [if_pos hp',if_pos (h a hp'),List.length_cons,List.length_cons];lia
      · rw [if_neg hp']
        split
        · rw [List.length_cons];lia
        · exact ih
theorem rk_lt {ks:Nat→List Nat} {x y:Nat} (hx:x < 5) (h:ks x < ks y):rk ks x < rk ks y :=
  filter_lt (fun z hz=>decide_eq_true (List.lt_trans (of_decide_eq_true hz) h)) (decide_eq_true h) (decide_eq_false (List.lt_irrefl _)) _ (List.mem_range.mpr hx)
theorem rk_iff {ks:Nat→List Nat} (inj:∀ x y,x < 5→y < 5→ks x=ks y→x=y) {x y:Nat} (hx:x < 5) (hy:y < 5):rk ks x < rk ks y↔ks x < ks y:=by
  refine ⟨fun h=>?_,rk_lt hx⟩
  by_cases e:x=y
  · rw [e] at h;exact absurd h (Nat.lt_irrefl _)
  · rcases list_tot (ks x) (ks y) fun z=>e (inj x y hx hy z) with q | q
    · exact q
    · exact absurd (rk_lt hy q) (Nat.not_lt.mpr (Nat.le_of_lt h))
theorem rk_low {ks:Nat→List Nat} {x:Nat} (hx:x < 5):rk ks x < 5:=by
  have h:rk ks x < ((List.range 5).filter fun _=>true).length:=filter_lt (fun _ _=>rfl) rfl (decide_eq_false (List.lt_irrefl (ks x))) _ (List.mem_range.mpr hx)
  exact h
noncomputable def rks (ks:Nat→List Nat):List Nat:=(List.range 5).map (rk ks)
theorem rks_at (ks:Nat→List Nat) {x:Nat} (hx:x < 5):(rks ks).getD x 0=rk ks x:=by
  unfold rks
  rw [List.getD_eq_getElem?_getD,List.getElem?_map,List.getElem?_range hx];rfl
theorem gtr_rks {ks:Nat→List Nat} (inj:∀ x y,x < 5→y < 5→ks x=ks y→x=y) {a x:Nat} (ha:a < 5) (hx:x < 5):gtr (rks ks) a x=decide (ks x < ks a):=by
  unfold gtr
  rw [rks_at ks ha,rks_at ks hx]
  refine bool_iff ?_
  rw [Nat.blt_eq,decide_eq_true_iff,rk_iff inj hx ha]
noncomputable def words:Nat→List (List Nat)
  | 0=>[[]]
  | n+1=>(words n).flatMap fun l=>(List.range 5).map (·::l)
theorem mem_words:∀ (l:List Nat),(∀ x∈l,x < 5)→l∈words l.length
  | [],_=>.head _
  | x::l,h=>List.mem_flatMap.mpr ⟨l,mem_words l fun y hy=>h y (.tail _ hy),List.mem_map.mpr ⟨x,List.mem_range.mpr (h x (.head _)),rfl⟩⟩
theorem perm_words:((words 5).all fun r=>!decide r.Nodup || (perms [0,1,2,3,4]).contains r)=true:=by decide +kernel
theorem rks_perm {ks:Nat→List Nat} (inj:∀ x y,x < 5→y < 5→ks x=ks y→x=y):rks ks∈perms [0,1,2,3,4]:=by
  have hl:(rks ks).length=5:=by simp [rks]
  have h1:=mem_words (rks ks) fun x hx=>by
    obtain ⟨k,hk,rfl⟩:=List.mem_map.mp hx
    exact rk_low (List.mem_range.mp hk)
  rw [hl] at h1
  have h2:=List.all_eq_true.mp perm_words _ h1
  have nd:(rks ks).Nodup:=by
    unfold rks
    rw [List.nodup_iff_pairwise_ne,List.pairwise_map]
    refine List.Pairwise.imp_of_mem ?_ (List.nodup_range (n:=5))
    intro a b ha hb hne e
    have ha:=List.mem_range.mp ha
    have hb:=List.mem_range.mp hb
    rcases list_tot (ks a) (ks b) fun z=>hne (inj a b ha hb z) with q | q
    · exact absurd (rk_lt ha q) (by rw [e];exact Nat.lt_irrefl _)
    · exact absurd (rk_lt hb q) (by rw [e];exact Nat.lt_irrefl _)
  rw [decide_eq_true nd] at h2
  simpa using h2
end T1
end Mine
end
section
open PySem PySem.Calls PySem.W PyProof.Rows
namespace Mine
namespace T1
theorem map_inj {α β:Type} {f:α→β} (inj:∀ i j,f i=f j→i=j):∀ l l':List α,l.map f=l'.map f→l=l'
  | [],[],_=>rfl
  | [],_::_,h=>nomatch h
  | _::_,[],h=>nomatch h
  | a::l,b::l',h=>by
    injection h with h1 h2
    rw [inj a b h1,map_inj inj l l' h2]
theorem ix_at {α:Type} [DecidableEq α] {l:List α} (nd:l.Nodup) {i:Nat} (hi:i < l.length):ixOf l[i] l=i:=nd.idxOf_getElem i hi
structure FA (h:Nat→Nat) (hs:List Int) (A:List (List Nat)):Prop where
  five:A.length=5
  nd:A.Nodup
  few:∀ x,x < 5→(A.getD x []).length≤5
  low:∀ x,x < 5→∀ k∈A.getD x [],k < 5
  deep:∀ x,x < 5→(1 < (A.getD x []).length↔0 < h x)
  home:∀ x,x < 5→0 < h x→(A.getD x []).dropLast=A.getD (h x - 1) []∧h x - 1 < 5
  last:∀ x,x < 5→(A.getD x []).getLast?=some x
  ahead:∀ x,x < 5→(A.getD x []).isPrefixOf (0::A.getD x [])=decide (x=0)
  hmem:∀ y,y < 5→hs.getD y 0∈(-1:Int)::((List.range 5).filter fun x=>decide (x≠y) && ((A.getD y []).take (A.getD x []).length == A.getD x [])).map fun x:Nat=>(x:Int)
  hmax:∀ y,y < 5→∀ m∈(-1:Int)::((List.range 5).filter fun x=>decide (x≠y) && ((A.getD y []).take (A.getD x []).length == A.getD x [])).map (fun x:Nat=>(x:Int)),m≤hs.getD y 0
theorem fa_of {a b c:Nat} (h:okF a b c=true):FA (hh a b c) (hms a b c) (afol (hh a b c) 5):=by
  unfold okF at h
  generalize afol (hh a b c) 5=A at *
  generalize hh a b c=hq at *
  generalize hms a b c=hs at *
  simp only [Bool.and_eq_true,decide_eq_true_eq] at h
  obtain ⟨⟨h1,h2⟩,h3⟩:=h
  have g:∀ x,x < 5→_:=fun x hx=>List.all_eq_true.mp h1 x (List.mem_range.mpr hx)
  simp only [Bool.and_eq_true,decide_eq_true_eq,Bool.or_eq_true,List.all_eq_true] at g
  refine ⟨h2,h3,fun x hx=>(g x hx).1.1.1.1.1.1,fun x hx=>(g x hx).1.1.1.1.1.2,fun x hx=>(g x hx).1.1.1.1.2,fun x hx h0=>(g x hx).1.1.1.2.resolve_left (by lia),fun x hx=>(g x hx).1.1.2,fun x hx=>(g x hx).1.2,fun y hy=>(g y hy).2.1,fun y hy=>(g y hy).2.2⟩
section
variable {nm:Nat→List Nat} (inj:∀ i j,nm i=nm j→i=j) {A:List (List Nat)}
theorem fs_at (nm:Nat→List Nat) (A:List (List Nat)) (x:Nat):(A.map (List.map nm)).getD x []=(A.getD x []).map nm:=by
  rw [List.getD_eq_getElem?_getD,List.getElem?_map,List.getD_eq_getElem?_getD]
  cases A[x]? <;> rfl
include inj
theorem take_iff (o p:List Nat):((o.map nm).take (p.map nm).length=p.map nm)↔o.take p.length=p:=by
  rw [List.length_map,← List.map_take]
  exact ⟨map_inj inj _ _,fun e=>by rw [e]⟩
theorem held_eq (x:Nat):held (A.map (List.map nm)) x=heldA A x:=by
  unfold held heldA
  rw [fs_at,List.filter_map,List.length_map]
  congr 2
  funext o
  exact decide_eq_decide.mpr (take_iff inj o _)
theorem left_eq:∀ n,leftP (A.map (List.map nm)) n=((leftA A n:Nat):Int)
  | 0=>rfl
  | n+1=>by
    unfold leftP leftA
    rw [left_eq n,held_eq inj,Int.natCast_mul,Int.natCast_sub (Nat.pow_pos (by decide)),Int.natCast_pow];rfl
theorem behind_eq {h:Nat→Nat} {hs:List Int} (F:FA h hs A) (cs:List (List Nat)) {x:Nat} (hx:x < 5):behindHome (A.map (List.map nm)) cs x=(decide (0 < h x) && ordN .Gt (cs.getD x []) (cs.getD (h x - 1) [])):=by
  unfold behindHome
  rw [fs_at,List.length_map,Bool.and_true]
  by_cases h0:0 < h x
  · rw [decide_eq_true h0,decide_eq_true ((F.deep x hx).mpr h0)]
    obtain ⟨h1,h2⟩:=F.home x hx h0
    have e:((A.getD x []).map nm).dropLast=(A.map (List.map nm)).getD (h x - 1) []:=by rw [fs_at,← h1,List.map_dropLast]
    have hl:h x - 1 < (A.map (List.map nm)).length:=by rw [List.length_map,F.five];exact h2
    have nd:(A.map (List.map nm)).Nodup:=by
      rw [List.nodup_iff_pairwise_ne,List.pairwise_map]
      exact List.Pairwise.imp (fun hne e=>hne (map_inj inj _ _ e)) F.nd
    have ei:ixOf ((A.getD x []).map nm).dropLast (A.map (List.map nm))=h x - 1:=by
      rw [e,List.getD_eq_getElem?_getD,List.getElem?_eq_getElem hl]
      exact ix_at nd hl
    rw [ei]
  · rw [decide_eq_false h0,decide_eq_false fun z=>h0 ((F.deep x hx).mp z)];rfl
theorem right_eq {h:Nat→Nat} {hs:List Int} (F:FA h hs A) (cs:List (List Nat)) {gt:Nat→Nat→Bool} (hg:∀ x y,x < 5→y < 5→ordN .Gt (cs.getD x []) (cs.getD y [])=gt x y):∀ n,n≤5→rightP (A.map (List.map nm)) cs n=((rightA A h gt n:Nat):Int)
  | 0,_=>rfl
  | n+1,hn=>by
    have hx:n < 5:=hn
    have e:(decide (0 < h n) && ordN .Gt (cs.getD n []) (cs.getD (h n - 1) []))=(decide (0 < h n) && gt n (h n - 1)):=by
      by_cases h0:0 < h n
      · rw [hg n (h n - 1) hx (F.home n hx h0).2]
      · rw [decide_eq_false h0];rfl
    unfold rightP rightA
    rw [right_eq F cs hg n (Nat.le_of_lt hx),behind_eq inj F cs hx,e,held_eq inj]
    have c1:(((1000 ^ (n+1) - 1:Nat)):Int)=1000 ^ (n+1) - 1:=by rw [Int.natCast_sub (Nat.pow_pos (by decide)),Int.natCast_pow];rfl
    split
    · rw [Int.natCast_mul,Int.natCast_mul,c1,Int.natCast_pow];rfl
    · rw [Int.natCast_mul,c1]
end
end T1
end Mine
end
section
open PySem PySem.Calls PySem.W PyProof.Rows
namespace Mine
namespace T1
theorem sep:∀ (n m:List Nat),47∉n→47∉m→∀ u v,(n++47::u) <+: (m++47::v)↔n=m∧u <+: v
  | [],[],_,_,u,v=>by rw [List.nil_append,List.nil_append,List.cons_prefix_cons];exact ⟨fun h=>⟨rfl,h.2⟩,fun h=>⟨rfl,h.2⟩⟩
  | [],b::m,_,hm,u,v=>by
    rw [List.nil_append,List.cons_append,List.cons_prefix_cons]
    exact ⟨fun h=>absurd (h.1 ▸ List.Mem.head _) hm,fun h=>nomatch h.1⟩
  | a::n,[],hn,_,u,v=>by
    rw [List.nil_append,List.cons_append,List.cons_prefix_cons]
    exact ⟨fun h=>absurd (h.1 ▸ List.Mem.head _) hn,fun h=>nomatch h.1⟩
  | a::n,b::m,hn,hm,u,v=>by
    rw [List.cons_append,List.cons_append,List.cons_prefix_cons,sep n m (fun h=>hn (.tail _ h)) (fun h=>hm (.tail _ h)),List.cons.injEq,and_assoc]
noncomputable def tl:List (List Nat)→List Nat
  | []=>[]
  | n::f=>n++47::tl f
theorem path_tl:∀ f,path f++[47]=47::tl f
  | []=>rfl
  | n::f=>by
    show (47::n++path f)++[47]=_
    rw [List.append_assoc,path_tl f];rfl
noncomputable def Good (f:List (List Nat)):Prop:=∀ n∈f,47∉n∧n≠[]
theorem tl_pre:∀ f g,Good f→Good g→(tl f <+: tl g↔f <+: g)
  | [],g,_,_=>⟨fun _=>List.nil_prefix,fun _=>List.nil_prefix⟩
  | n :: f, [], _, _ => ⟨fun h => by
      have:=List.prefix_nil.mp h
      exact absurd this (by unfold tl;simp),fun h=>absurd (List.prefix_nil.mp h) (by simp)⟩
  | n::f,m::g,hf,hg=>by
    unfold tl
    rw [sep n m (hf n (.head _)).1 (hg m (.head _)).1,tl_pre f g (fun x hx=>hf x (.tail _ hx)) (fun x hx=>hg x (.tail _ hx)),List.cons_prefix_cons]
theorem path_pre {f g:List (List Nat)} (hf:Good f) (hg:Good g):(path f++[47]) <+: (path g++[47])↔f <+: g:=by
  rw [path_tl,path_tl,List.cons_prefix_cons,tl_pre f g hf hg]
  exact ⟨And.right,fun h=>⟨rfl,h⟩⟩
theorem pre_antisymm {α:Type} {f g:List α} (h:f <+: g) (k:g <+: f):f=g:=h.eq_of_length (Nat.le_antisymm h.length_le k.length_le)
theorem path_inj {f g:List (List Nat)} (hf:Good f) (hg:Good g) (h:path f=path g):f=g :=
  pre_antisymm ((path_pre hf hg).mp (by rw [h];exact List.prefix_refl _)) ((path_pre hg hf).mp (by rw [h];exact List.prefix_refl _))
theorem path_in {f g:List (List Nat)} (hf:Good f) (hg:Good g):(path f++[47]) <+: path g↔f <+: g∧f≠g:=by
  constructor
  · intro h
    refine ⟨(path_pre hf hg).mp (h.trans (List.prefix_append _ _)),fun e=>?_⟩
    have:=h.length_le
    rw [e,List.length_append,List.length_singleton] at this
    lia
  · rintro ⟨h,hne⟩
    have h1:=(path_pre hf hg).mpr h
    by_cases hl:(path f++[47]).length≤(path g).length
    · exact List.prefix_of_prefix_length_le h1 (List.prefix_append _ _) hl
    · have h2:=h1.length_le
      rw [List.length_append,List.length_append,List.length_singleton] at h2
      rw [List.length_append,List.length_singleton] at hl
      have:=h1.eq_of_length (by rw [List.length_append,List.length_append];simp;lia)
      exact absurd (path_inj hf hg (List.append_cancel_right this)) hne
theorem slashed_last (p:List Nat) (c:Nat):slashed (p++[c])=if c=47 then p++[c] else p++[c]++[47]:=by
  have e:cut (p++[c]) (some (-1)) none=[c]:=by
    have h1:clipN (p++[c]).length (-1)=p.length:=by unfold clipN;rw [if_pos (by decide)];simp;lia
    unfold cut
    simp only [Option.elim_some,Option.elim_none,h1]
    rw [List.drop_left' rfl];simp
  unfold slashed
  rw [e]
  by_cases h:c=47
  · rw [if_pos h,if_neg (by rw [h];decide)]
  · rw [if_neg h,if_pos (by intro q;exact h (by injection q))]
theorem path_last:∀ (f:List (List Nat)),f≠[]→Good f→∃ p c,path f=p++[c]∧c≠47
  | [],h,_=>absurd rfl h
  | [n],_,hf=>by
    obtain ⟨h1,h2⟩:=hf n (.head _)
    refine ⟨47::n.dropLast,n.getLast h2,?_,fun e=>h1 (e ▸ List.getLast_mem h2)⟩
    show (47::n)++[]=47::n.dropLast++[n.getLast h2]
    rw [List.append_nil,List.cons_append,List.dropLast_concat_getLast]
  | n::m::f,_,hf=>by
    obtain ⟨p,c,e,hc⟩:=path_last (m::f) (by simp) fun x hx=>hf x (.tail _ hx)
    refine ⟨slash n++p,c,?_,hc⟩
    show slash n++path (m::f)=_
    rw [e,List.append_assoc]
theorem slashed_path {f:List (List Nat)} (h:f≠[]) (hf:Good f):slashed (path f)=path f++[47]:=by
  obtain ⟨p,c,e,hc⟩:=path_last f h hf
  rw [e,slashed_last,if_neg hc]
theorem slashed_more (p:List Nat):slashed (p++[47])=p++[47]:=by rw [slashed_last,if_pos rfl]
theorem suburi_same {p q:List Nat}:suburi ([104],p) ([104],q)=(decide (p=q) || (slashed p).isPrefixOf q):=by
  unfold suburi
  by_cases h:p=q
  · rw [h,if_pos rfl,decide_eq_true rfl];rfl
  · rw [if_neg (fun e=>h (Prod.mk.inj e).2),if_neg (by simp),decide_eq_false h,Bool.false_or]
theorem suburi_other {a b:List Nat} (h:a≠b) (p q:List Nat):suburi (a,p) (b,q)=false:=by
  unfold suburi
  rw [if_neg (fun e=>h (Prod.mk.inj e).1),if_pos h]
theorem told_path {f g:List (List Nat)} (h:f≠[]) (h':g≠[]) (hf:Good f) (hg:Good g) (s:Nat) (hs:s≤1):suburi ([104],path f++List.replicate s 47) ([104],path g)=(decide (g.take f.length=f) && (decide (f≠g) || decide (s=0))):=by
  have hp:(path f++[47]).isPrefixOf (path g)=decide (g.take f.length=f∧f≠g):=by
    refine Bool.eq_iff_iff.mpr ?_
    rw [List.isPrefixOf_iff_prefix,path_in hf hg,decide_eq_true_iff,List.prefix_iff_eq_take]
    exact and_congr_left fun _=>⟨Eq.symm,Eq.symm⟩
  have h0:s=0∨s=1:=by lia
  rcases h0 with rfl | rfl
  · rw [List.replicate_zero,List.append_nil,suburi_same,slashed_path h hf,hp]
    by_cases e:f=g
    · subst e
      rw [List.take_length];simp
    · have:path f≠path g:=fun z=>e (path_inj hf hg z)
      rw [decide_eq_false this];simp [e]
  · show suburi ([104],path f++[47]) ([104],path g)=_
    rw [suburi_same,slashed_more,hp]
    have:path f++[47]≠path g:=fun z=>by
      obtain ⟨p,c,e,hc⟩:=path_last g h' hg
      rw [e] at z
      have:=List.append_inj_right' z rfl
      exact hc (List.cons.inj this).1.symm
    rw [decide_eq_false this];simp
end T1
end Mine
end
section
open PySem PySem.Calls PySem.W PyProof.Rows
namespace Mine
namespace T1
theorem rev_range (b:List Nat):(List.range b.length).map (fun p=>b.getD (b.length - 1 - p) 0)=b.reverse:=by
  refine List.ext_getElem (by simp) fun k h1 h2=>?_
  simp only [List.getElem_map,List.getElem_range,List.getElem_reverse]
  rw [List.getD_eq_getElem?_getD,List.getElem?_eq_getElem (by simp at h1;lia)];rfl
theorem swp_flat {w:Nat} (hw:0 < w):∀ (ls:List (List Nat)),(∀ l∈ls,l.length=w)→swp w ls.length ls.flatten=(ls.map List.reverse).flatten
  | [],_=>by unfold swp;rw [List.length_nil,Nat.zero_mul];rfl
  | b::t,h=>by
    have hb:=h b (.head _)
    have ih:=swp_flat hw t fun l hl=>h l (.tail _ hl)
    unfold swp at ih ⊢
    rw [List.length_cons,Nat.succ_mul,Nat.add_comm,List.range_add,List.map_append,List.map_cons,List.flatten_cons,List.flatten_cons,← ih]
    congr 1
    · rw [← rev_range b,hb]
      refine List.map_congr_left fun p hp=>?_
      have hp:=List.mem_range.mp hp
      rw [Nat.div_eq_of_lt hp,Nat.mod_eq_of_lt hp,Nat.zero_mul,Nat.zero_add,List.getD_eq_getElem?_getD,List.getD_eq_getElem?_getD,List.getElem?_append_left (by lia)]
    · rw [List.map_map]
      refine List.map_congr_left fun p hp=>?_
      show (b++t.flatten).getD ((w+p) / w*w+(w - 1 - (w+p) % w)) 0=_
      have e1:(w+p) / w=p / w+1:=Nat.add_div_left p hw
      have e2:(w+p) % w=p % w:=Nat.add_mod_left w p
      rw [e1,e2,Nat.succ_mul,List.getD_eq_getElem?_getD,List.getD_eq_getElem?_getD]
      have e3:p / w*w+w+(w - 1 - p % w)=b.length+(p / w*w+(w - 1 - p % w)):=by lia
      rw [e3,List.getElem?_append_right (by lia),Nat.add_sub_cancel_left]
theorem padp_rev (w:Nat) (p:List Nat):(padp w p).reverse=field w p:=by unfold padp field;rw [List.reverse_append,List.reverse_replicate]
theorem field_rev (w:Nat) (p:List Nat):(field w p).reverse=padp w p:=by rw [← padp_rev,List.reverse_reverse]
theorem pad_lt:∀ (a b:List Nat),(∀ c∈a,32 < c)→(∀ c∈b,32 < c)→∀ k j,a.length+k=b.length+j→((a++List.replicate k 32) < (b++List.replicate j 32)↔a < b)
  | [],[],_,_,k,j,h=>by
    have:k=j:=by simpa using h
    rw [this]
    exact ⟨fun z=>absurd z (List.lt_irrefl _),fun z=>absurd z (List.lt_irrefl _)⟩
  | [],d::b,_,hb,k,j,h=>by
    obtain ⟨k',rfl⟩:∃ k',k=k'+1:=⟨b.length+j,by simp at h;lia⟩
    refine ⟨fun _=>List.nil_lt_cons _ _,fun _=>?_⟩
    rw [List.nil_append,List.replicate_succ,List.cons_append,List.cons_lt_cons_iff]
    exact .inl (hb d (.head _))
  | c::a,[],ha,_,k,j,h=>by
    obtain ⟨j',rfl⟩:∃ j',j=j'+1:=⟨a.length+k,by simp at h;lia⟩
    refine ⟨fun z=>?_,fun z=>absurd z (List.not_lt_nil _)⟩
    rw [List.nil_append,List.replicate_succ,List.cons_append,List.cons_lt_cons_iff] at z
    have:=ha c (.head _)
    rcases z with z | z
    · lia
    · lia
  | c::a,d::b,ha,hb,k,j,h=>by
    rw [List.cons_append,List.cons_append,List.cons_lt_cons_iff,List.cons_lt_cons_iff,pad_lt a b (fun x hx=>ha x (.tail _ hx)) (fun x hx=>hb x (.tail _ hx)) k j (by simp at h;lia)]
theorem field_lt {w:Nat} {p q:List Nat} (hp:∀ c∈p,32 < c) (hq:∀ c∈q,32 < c) (h1:p.length≤w) (h2:q.length≤w):field w p < field w q↔p.reverse < q.reverse :=
  pad_lt _ _ (fun c hc=>hp c (List.mem_reverse.mp hc)) (fun c hc=>hq c (List.mem_reverse.mp hc)) _ _ (by rw [List.length_reverse,List.length_reverse];lia)
theorem most (l:List Nat) (h:0 < l.length):∃ w∈l,∀ x∈l,x≤w:=by
  induction l with
  | nil=>cases h
  | cons a t ih =>
    by_cases ht:0 < t.length
    · obtain ⟨w,hw,hm⟩:=ih ht
      by_cases q:a≤w
      · exact ⟨w,.tail _ hw,fun x hx=>(List.mem_cons.mp hx).elim (fun e=>e ▸ q) (hm x)⟩
      · exact ⟨a,.head _,fun x hx=>(List.mem_cons.mp hx).elim (fun e=>Nat.le_of_eq e) fun hx=>by have:=hm x hx;lia⟩
    · have:t=[]:=List.eq_nil_of_length_eq_zero (by lia)
      subst this
      exact ⟨a,.head _,fun x hx=>by rw [List.mem_singleton.mp hx];exact Nat.le_refl _⟩
theorem ix_get {α:Type} [DecidableEq α] {x:α} {l:List α} (h:ixOf x l < l.length):l[ixOf x l]=x:=List.getElem_idxOf h
theorem rank_facts {ps:List (List Nat)} (p5:ps.length=5) (nd:ps.Nodup):(pysort [] ltN ps).Perm ps∧∀ x,x < 5→∀ y,y < 5→ps.getD x [] < ps.getD y []→rank ps x < rank ps y:=by
  have T:Srt.Tot ltN ps:=⟨fun a b c _ _ _ h1 h2=>(ordN_lt a c).mpr (List.lt_trans ((ordN_lt a b).mp h1) ((ordN_lt b c).mp h2)),fun a b _ _ hne=>(list_tot a b hne).imp (ordN_lt a b).mpr (ordN_lt b a).mpr,fun a b _ _ h=>by
    cases e:ltN b a with
    | false=>rfl
    | true=>exact absurd ((ordN_lt b a).mp e) (list_asym ((ordN_lt a b).mp h))⟩
  obtain ⟨P,W⟩:=Srt.sorted_ok [] ltN ps nd T
  refine ⟨P,fun x hx y hy h=>?_⟩
  have mem:∀ k,k < 5→ps.getD k []∈pysort [] ltN ps:=fun k hk=>P.mem_iff.mpr (by rw [List.getD_eq_getElem?_getD,List.getElem?_eq_getElem (by lia)];exact List.getElem_mem _)
  have lx:rank ps x < (pysort [] ltN ps).length:=ixOf_lt (mem x hx)
  have ly:rank ps y < (pysort [] ltN ps).length:=ixOf_lt (mem y hy)
  have at_:∀ k,k < 5→∀ h:rank ps k < (pysort [] ltN ps).length,(pysort [] ltN ps)[rank ps k]=ps.getD k []:=fun k hk h=>ix_get h
  refine Nat.lt_of_not_le fun hle=>?_
  rcases Nat.lt_or_eq_of_le hle with q | q
  · have:=List.pairwise_iff_getElem.mp W _ _ ly lx q
    rw [at_ x hx lx,at_ y hy ly] at this
    exact list_asym h ((ordN_lt _ _).mp this)
  · have e1:=at_ x hx lx
    have e2:=at_ y hy ly
    simp only [q] at e2
    rw [e1] at e2
    rw [e2] at h
    exact List.lt_irrefl _ h
theorem coll_rank {a b:List Nat} {r s:Nat} (h1:a < b→r < s) (h2:b < a→s < r) (h3:a=b→r=s):Mine.coll a b*(((r:Int) - s).natAbs:Int)=(r:Int) - s:=by
  unfold Mine.coll
  by_cases h:a=b
  · rw [h3 h];simp
  · rcases list_tot a b h with q | q
    · have:=h1 q
      rw [decide_eq_false (list_asym q),decide_eq_true q]
      show (-1:Int)*_=_
      lia
    · have:=h2 q
      rw [decide_eq_true q,decide_eq_false (list_asym q)]
      show (1:Int)*_=_
      lia
end T1
end Mine
end
section
open PySem PySem.Calls PySem.W PyProof.Rows
set_option maxRecDepth 10000
namespace Mine
namespace T1
theorem sgn_mem (c1:Int) (k:Nat):sgn c1 k∈[45,46,48,66,98,126]:=by
  unfold sgn
  have h1:=Int.emod_lt_of_pos (c1 / 6 ^ (k - 1)) (b:=6) (by decide)
  have h2:=Int.emod_nonneg (c1 / 6 ^ (k - 1)) (b:=6) (by decide)
  have:(c1 / 6 ^ (k - 1) % 6).toNat < 6:=by lia
  rw [List.getD_eq_getElem?_getD,List.getElem?_eq_getElem (by exact this)]
  exact List.getElem_mem _
theorem nm_len (c1:Int) (k:Nat):(nm c1 k).length=k+1:=by simp [nm]
theorem nm_inj (c1:Int) (i j:Nat) (h:nm c1 i=nm c1 j):i=j:=by
  have:=congrArg List.length h
  rw [nm_len,nm_len] at this
  lia
theorem nm_sign (c1:Int) (k c:Nat) (h:c∈nm c1 k):c=97∨c∈[45,46,48,66,98,126]:=by
  rcases List.mem_cons.mp h with h | h
  · exact .inl h
  · rw [List.eq_of_mem_replicate h];exact .inr (sgn_mem c1 k)
theorem sign_ok {c:Nat} (h:c=97∨c∈[45,46,48,66,98,126]):32 < c∧c < 256∧c≠47:=by
  simp only [List.mem_cons,List.not_mem_nil,or_false] at h
  lia
theorem good_map (c1:Int) (l:List Nat):Good (l.map (nm c1)):=fun n hn=>by
  obtain ⟨k,_,rfl⟩:=List.mem_map.mp hn
  exact ⟨fun h=>(sign_ok (nm_sign c1 k 47 h)).2.2 rfl,by simp [nm]⟩
theorem path_at (fs:List (List (List Nat))) (x:Nat):(fs.map path).getD x []=path (fs.getD x []):=by
  rw [List.getD_eq_getElem?_getD,List.getElem?_map,List.getD_eq_getElem?_getD]
  cases fs[x]? <;> rfl
theorem path_sign (c1:Int) (l:List Nat):∀ c∈path (l.map (nm c1)),32 < c:=fun c hc=>by
  obtain ⟨n,hn,hc⟩:=List.mem_flatten.mp hc
  obtain ⟨m,hm,rfl⟩:=List.mem_map.mp hn
  obtain ⟨k,_,rfl⟩:=List.mem_map.mp hm
  rcases List.mem_cons.mp hc with rfl | hc
  · decide
  · exact (sign_ok (nm_sign c1 k c hc)).1
theorem path_head (c1:Int) {l:List Nat} (h:l≠[]):∃ r,path (l.map (nm c1))=47::97::r:=by
  cases l with
  | nil=>exact absurd rfl h
  | cons k t=>exact ⟨_,rfl⟩
theorem suburi_ahead {f:List (List Nat)} (h:f≠[]) (hf:Good f):suburi ([104],path f) ([104],[47,97]++path f++[47])=f.isPrefixOf ([97]::f):=by
  rw [suburi_same,slashed_path h hf]
  have hne:path f≠[47,97]++path f++[47]:=fun e=>by
    have:=congrArg List.length e
    simp at this;lia
  rw [decide_eq_false hne,Bool.false_or]
  refine Bool.eq_iff_iff.mpr ?_
  rw [List.isPrefixOf_iff_prefix,List.isPrefixOf_iff_prefix]
  exact path_pre (g:=[97]::f) hf fun n hn=>(List.mem_cons.mp hn).elim (fun e=>e ▸ by decide) (hf n)
theorem prefix_map {α β:Type} {f:α→β} (inj:∀ i j,f i=f j→i=j) (l l':List α):l.map f <+: l'.map f↔l <+: l':=by
  rw [List.prefix_iff_eq_take,List.prefix_iff_eq_take,List.length_map,← List.map_take]
  exact ⟨map_inj inj _ _,fun e=>by rw [← e]⟩
end T1
end Mine
end
section
open PySem PySem.Calls PySem.W PyProof.Rows
set_option maxRecDepth 10000
set_option maxHeartbeats 4000000
namespace Mine
namespace T1
theorem mem_at {α:Type} {l:List α} {a:α} (d:α) (h:a∈l):∃ k,k < l.length∧l.getD k d=a:=by
  obtain ⟨k,hk,e⟩:=List.getElem_of_mem h
  exact ⟨k,hk,by rw [List.getD_eq_getElem?_getD,List.getElem?_eq_getElem hk,← e];rfl⟩
theorem all_facts (c0 c1 c2:Int):∃ w hs,Facts (fol (nm c1) (hm c0) 5) w (sbOf c2) hs:=by
  have ha:=hm_le c0 2
  have hb:=hm_le c0 3
  have hc:=hm_le c0 4
  have F:=fa_of (okF_all (hm c0 2) (by lia) (hm c0 3) (by lia) (hm c0 4) (by lia))
  have CK:=chk_all (hm c0 2) (by lia) (hm c0 3) (by lia) (hm c0 4) (by lia)
  have eh:∀ k,k < 5→hm c0 k=hh (hm c0 2) (hm c0 3) (hm c0 4) k:=fun k hk=>by
    match k,hk with
    | 0,_=>rfl
    | 1,_=>rfl
    | 2,_=>rfl
    | 3,_=>rfl
    | 4,_=>rfl
  rw [fol_afol,afol_congr 5 eh]
  unfold chkF at CK
  have hl0:(hms (hm c0 2) (hm c0 3) (hm c0 4)).length=5:=rfl
  generalize hms (hm c0 2) (hm c0 3) (hm c0 4)=hs at *
  generalize hh (hm c0 2) (hm c0 3) (hm c0 4)=h at *
  generalize afol h 5=A at *
  clear ha hb hc eh
  have inj:=nm_inj c1
  have fx:=fs_at (nm c1) A
  have gd:∀ x,Good ((A.getD x []).map (nm c1)):=fun x=>good_map c1 _
  have ne:∀ x,x < 5→A.getD x []≠[]:=fun x hx e=>by have:=F.last x hx;rw [e] at this;cases this
  have nf:∀ x,x < 5→(A.getD x []).map (nm c1)≠[]:=fun x hx e=>ne x hx (List.map_eq_nil_iff.mp e)
  have ix:∀ x y,x < 5→y < 5→A.getD x []=A.getD y []→x=y:=fun x y hx hy e=>by
    have h1:=F.last x hx
    rw [e,F.last y hy] at h1
    injection h1 with h1;exact h1.symm
  have f5:(A.map (List.map (nm c1))).length=5:=by rw [List.length_map];exact F.five
  generalize hfs:A.map (List.map (nm c1))=fs at *
  have px:∀ x,(fs.map path).getD x []=path ((A.getD x []).map (nm c1)):=fun x=>by rw [path_at,fx]
  have p5:(fs.map path).length=5:=by rw [List.length_map];exact f5
  have mem:∀ f∈fs,∃ x,x < 5∧f=(A.getD x []).map (nm c1):=fun f hf=>by
    obtain ⟨k,hk,e⟩:=mem_at [] hf
    exact ⟨k,by lia,by rw [← e,fx]⟩
  have memp:∀ p∈fs.map path,∃ x,x < 5∧p=path ((A.getD x []).map (nm c1)):=fun p hp=>by
    obtain ⟨f,hf,rfl⟩:=List.mem_map.mp hp
    obtain ⟨x,hx,rfl⟩:=mem f hf
    exact ⟨x,hx,rfl⟩
  have pinj:∀ x y,x < 5→y < 5→(fs.map path).getD x []=(fs.map path).getD y []→x=y:=fun x y hx hy e=>by
    rw [px,px] at e
    exact ix x y hx hy (map_inj inj _ _ (path_inj (gd x) (gd y) e))
  have sgnp:∀ x,∀ c∈(fs.map path).getD x [],32 < c:=fun x=>by rw [px];exact path_sign c1 _
  obtain ⟨w,hwm,hwx⟩:=most ((fs.map path).map List.length) (by rw [List.length_map,p5];decide)
  have wmax:∀ p∈fs.map path,p.length≤w:=fun p hp=>hwx _ (List.mem_map.mpr ⟨p,hp,rfl⟩)
  have mp:∀ x,x < 5→(fs.map path).getD x []∈fs.map path:=fun x hx=>by rw [List.getD_eq_getElem?_getD,List.getElem?_eq_getElem (by lia)];exact List.getElem_mem _
  have pl:∀ x,x < 5→((fs.map path).getD x []).length≤w:=fun x hx=>wmax _ (mp x hx)
  have hd:∀ x,x < 5→∃ r,(fs.map path).getD x []=47::97::r:=fun x hx=>by rw [px];exact path_head c1 (ne x hx)
  have wpos:0 < w:=by
    obtain ⟨r,e⟩:=hd 0 (by decide)
    have:=pl 0 (by decide)
    rw [e] at this
    exact Nat.lt_of_lt_of_le (Nat.succ_pos _) this
  have bit:∀ k,sbOf c2 k≤1:=fun k=>by
    unfold sbOf
    have:=Int.emod_lt_of_pos (c2 / 2 ^ k) (b:=2) (by decide)
    lia
  have tellA:∀ x,x < 5→∀ y,y < 5→told (fs.map path) (sbOf c2) x y=(decide ((A.getD y []).take (A.getD x []).length=A.getD x []) && (decide (x≠y) || decide (sbOf c2 (5*x+y)=0))):=fun x hx y hy=>by
    unfold told
    rw [px,px,told_path (nf x hx) (nf y hy) (gd x) (gd y) _ (bit _)]
    have e1:decide (((A.getD y []).map (nm c1)).take ((A.getD x []).map (nm c1)).length=(A.getD x []).map (nm c1))=decide ((A.getD y []).take (A.getD x []).length=A.getD x []):=decide_eq_decide.mpr (take_iff inj _ _)
    have e2:decide ((A.getD x []).map (nm c1)≠(A.getD y []).map (nm c1))=decide (x≠y):=decide_eq_decide.mpr ⟨fun h e=>h (by rw [e]),fun h e=>h (ix x y hx hy (map_inj inj _ _ e))⟩
    rw [e1,e2]
  have inn:∀ y,y < 5→inner (fs.map path) (sbOf c2) y=(List.range 5).filter fun x=>decide (x≠y) && ((A.getD y []).take (A.getD x []).length == A.getD x []):=fun y hy=>by
    unfold inner
    refine List.filter_congr fun x hx=>?_
    have hx:=List.mem_range.mp hx
    rw [tellA x hx y hy]
    by_cases e:x=y
    · rw [decide_eq_false fun z=>z e];rfl
    · rw [decide_eq_true e,Bool.true_or,Bool.and_true,Bool.and_true]
      exact congrArg (true && ·) (Bool.eq_iff_iff.mpr (by rw [decide_eq_true_iff,beq_iff_eq]))
  have tx5:∀ x,x < 5→tx (texts w (fs.map path)) x=(field w ((fs.map path).getD x []),(fs.map path).getD x []):=fun x hx=>by
    unfold tx texts
    rw [List.getD_eq_getElem?_getD,List.getElem?_map,List.getElem?_range hx];rfl
  have rinj:∀ x y,x < 5→y < 5→((fs.map path).getD x []).reverse=((fs.map path).getD y []).reverse→x=y:=fun x y hx hy e=>pinj x y hx hy (List.reverse_inj.mp e)
  have g0:∀ a x,a < 5→x < 5→gt0 (texts w (fs.map path)) a x=gtr (rks fun k=>(fs.map path).getD k []) a x:=fun a x ha hx=>by
    rw [gtr_rks (ks:=fun k=>(fs.map path).getD k []) pinj ha hx]
    unfold gt0
    rw [tx5 a ha,tx5 x hx,coll_one]
  have g1:∀ a x,a < 5→x < 5→gt1 (texts w (fs.map path)) a x=gtr (rks fun k=>((fs.map path).getD k []).reverse) a x:=fun a x ha hx=>by
    rw [gtr_rks (ks:=fun k=>((fs.map path).getD k []).reverse) rinj ha hx]
    unfold gt1
    rw [tx5 a ha,tx5 x hx]
    exact decide_eq_decide.mpr (field_lt (sgnp x) (sgnp a) (pl x hx) (pl a ha))
  have WE:=worth_ends (texts w (fs.map path)) hs (waits hs) g0 g1
  have chk0:=List.all_eq_true.mp CK _ (rks_perm (ks:=fun k=>(fs.map path).getD k []) pinj)
  have chk1:=List.all_eq_true.mp CK _ (rks_perm (ks:=fun k=>((fs.map path).getD k []).reverse) rinj)
  have r0:rightP fs ((fs.map path).map (code 0)) 5=((rightA A h (gtr (rks fun k=>(fs.map path).getD k [])) 5:Nat):Int):=by
    have e:(fs.map path).map (code 0)=fs.map path:=by show (fs.map path).map (fun p=>p)=_;rw [List.map_id']
    rw [e]
    have:=right_eq inj F (fs.map path) (gt:=gtr (rks fun k=>(fs.map path).getD k [])) (fun x y hx hy=>by
      rw [gtr_rks (ks:=fun k=>(fs.map path).getD k []) pinj hx hy]
      exact bool_iff ((ordN_gt _ _).trans decide_eq_true_iff.symm)) 5 (Nat.le_refl _)
    rwa [hfs] at this
  have r1:rightP fs ((fs.map path).map (code 1)) 5=((rightA A h (gtr (rks fun k=>((fs.map path).getD k []).reverse)) 5:Nat):Int):=by
    have e:∀ x,((fs.map path).map (code 1)).getD x []=((fs.map path).getD x []).reverse:=fun x=>by
      rw [List.getD_eq_getElem?_getD,List.getElem?_map,List.getD_eq_getElem?_getD]
      cases (fs.map path)[x]? <;> rfl
    have:=right_eq inj F ((fs.map path).map (code 1)) (gt:=gtr (rks fun k=>((fs.map path).getD k []).reverse)) (fun x y hx hy=>by
      rw [gtr_rks (ks:=fun k=>((fs.map path).getD k []).reverse) rinj hx hy,e,e]
      exact bool_iff ((ordN_gt _ _).trans decide_eq_true_iff.symm)) 5 (Nat.le_refl _)
    rwa [hfs] at this
  have l5:leftP fs 5=((leftA A 5:Nat):Int):=by
    have:=left_eq (A:=A) inj 5
    rwa [hfs] at this
  have nd:(fs.map path).Nodup:=by
    rw [List.nodup_iff_pairwise_ne,List.pairwise_iff_getElem]
    intro i j hi hj hij e
    have:=pinj i j (by lia) (by lia) (by rw [List.getD_eq_getElem?_getD,List.getElem?_eq_getElem hi,List.getD_eq_getElem?_getD,List.getElem?_eq_getElem hj,e])
    lia
  obtain ⟨srt,rlt⟩:=rank_facts p5 nd
  refine ⟨w,hs,f5,fun f hf=>?_,fun f hf n hn=>?_,fun f hf n hn c hcn=>?_,hwm,wmax,wpos,?_,?_,bit,hl0,fun y hy=>?_,fun y hy=>?_,fun x hx hlt=>?_,?_,?_,fun x hx b hb=>?_,fun x hx b hb=>?_,fun x hx=>?_,fun x hx y hy=>?_,fun x hx y hy=>suburi_other (by decide) _ _,fun x hx y hy=>coll_rank (rlt x hx y hy) (rlt y hy x hx) fun e=>by rw [pinj x y hx hy e],fun x hx=>?_,srt⟩
  · obtain ⟨x,hx,rfl⟩:=mem f hf
    rw [List.length_map];exact F.few x hx
  · obtain ⟨x,hx,rfl⟩:=mem f hf
    obtain ⟨k,hk,rfl⟩:=List.mem_map.mp hn
    rw [nm_len];exact F.low x hx k hk
  · obtain ⟨x,hx,rfl⟩:=mem f hf
    obtain ⟨k,hk,rfl⟩:=List.mem_map.mp hn
    exact (sign_ok (nm_sign c1 k c hcn)).2.1
  · have:=swp_flat wpos ((fs.map path).map (padp w)) (fun l hl=>by
      obtain ⟨p,hp,rfl⟩:=List.mem_map.mp hl
      have:=wmax p hp
      unfold padp;rw [List.length_append,List.length_replicate];lia)
    rw [List.length_map,p5] at this
    rw [this]
    refine congrArg List.flatten ?_
    rw [List.map_map]
    exact List.map_congr_left fun p _=>padp_rev w p
  · have:=swp_flat wpos ((fs.map path).map (field w)) (fun l hl=>by
      obtain ⟨p,hp,rfl⟩:=List.mem_map.mp hl
      have:=wmax p hp
      unfold field;rw [List.length_append,List.length_reverse,List.length_replicate];lia)
    rw [List.length_map,p5] at this
    rw [this]
    refine congrArg List.flatten ?_
    rw [List.map_map]
    exact List.map_congr_left fun p _=>field_rev w p
  · rw [inn y hy];exact F.hmem y hy
  · rw [inn y hy];exact F.hmax y hy
  · rw [fx,List.length_map] at hlt
    obtain ⟨h1,h2⟩:=F.home x hx ((F.deep x hx).mp hlt)
    rw [fx,← List.map_dropLast,h1,← fx,List.getD_eq_getElem?_getD,List.getElem?_eq_getElem (by lia)]
    exact List.getElem_mem _
  · rw [r0,l5]
    refine (congrArg (·*_) WE.1).trans ?_
    rw [← Int.natCast_mul]
    exact congrArg _ (Nat.eq_of_beq_eq_true chk0)
  · rw [r1,l5]
    refine (congrArg (·*_) WE.2).trans ?_
    rw [← Int.natCast_mul]
    exact congrArg _ (Nat.eq_of_beq_eq_true chk1)
  · obtain ⟨r,e⟩:=hd x hx
    simp only [List.mem_cons,List.not_mem_nil,or_false] at hb
    rcases hb with rfl | rfl | rfl
    · exact suburi_other (by decide) _ _
    · exact suburi_other (by decide) _ _
    · rw [e,suburi_same]
      have h1:([47,65]++(47::97::r).drop 2)≠(47::97::r)++[47]:=fun q=>by simp at q
      rw [decide_eq_false h1,Bool.false_or]
      unfold slashed
      split <;> rfl
  · obtain ⟨r,e⟩:=hd x hx
    simp only [List.mem_cons,List.not_mem_nil,or_false] at hb
    rcases hb with rfl | rfl
    · rw [e,suburi_same];rfl
    · rw [suburi_same,px,slashed_path (nf x hx) (gd x),List.isPrefixOf_iff_prefix.mpr (List.prefix_refl _),Bool.or_true]
  · rw [px,suburi_ahead (nf x hx) (gd x),← F.ahead x hx]
    have e:[97]::(A.getD x []).map (nm c1)=(0::A.getD x []).map (nm c1):=rfl
    rw [e]
    refine Bool.eq_iff_iff.mpr ?_
    rw [List.isPrefixOf_iff_prefix,List.isPrefixOf_iff_prefix]
    exact prefix_map inj _ _
  · rw [tellA x hx y hy]
    unfold below
    rw [fx,fx]
    congr 1
    exact decide_eq_decide.mpr (take_iff inj _ _).symm
  · unfold Mine.coll
    rw [decide_eq_false (List.lt_irrefl _)];rfl
end T1
end Mine
end

theorem PySem.Challenge.cw_wv0010_01_holds : PySem.Challenge.rw_wv0010_01.Holds :=
  Mine.law_top Mine.T1.all_facts
