import PyProof.Rows.All
import Wide.All
import OpenK.AllK
import Wide.FinOn
import PyProof.FactsBase
import PyProof.TableTree
import PyProof.FactsTree
import PyProof.StrLawsReplace
import PyProof.Rows.StrCase
import PyProof.Rows.StrFirst
import PyProof.Rows.StrClose5
import KE.KxStill
import PyProof.StrLawsJoin
import PySem.Challenge.RW_xt0016_01
set_option Elab.async false
set_option maxRecDepth 100000
set_option genSizeOf false
set_option genInjectivity false
set_option tactic.hygienic false
set_option linter.all false
namespace Mine
open PySem PyProof.Rows
noncomputable abbrev PW:Program:=PySem.Challenge.pw_xt0016_01
theorem nf {P:Prop}(h:false=true):P:=nomatch h
theorem ns {α:Type}{a:α}{P:Prop}(h:none=some a):P:=nomatch h
inductive D where
 |none
 |bool (b:Bool)
 |int (i:Int)
 |str (x:Str)
 |tup (xs:List D)
 |list (xs:List D)
 |dict (kvs:List (Str×D))
 |obj (a:Addr)
 |ty (n:String)
 |bi (n:String)
 |inst (C:Addr) (fs:List (Str×D))
 |mtch
theorem list_inj {a b:List D}(h:D.list a=D.list b):a=b:=by cases h;rfl
theorem dict_inj {a b:List (Str×D)}(h:D.dict a=D.dict b):a=b:=by cases h;rfl
structure Wd where
 w:World
 T:Heap
 cac:Addr
 Pac:Addr
 mg:Str→Option Value
 mb:Str→Option Value
 g:T.Ns mainGlobals mg
 b:T.Ns builtinsNs mb
 nolim:T.NoLimit
 there:(∃o,T.get? cac=some o)∧ ∃o,T.get? Pac=some o
 sys: ∃o,T.get? sysModules=some o
 bm: ∃bm ob,mg (Str.ofString "__builtins__")=some (.ref bm)∧bm≠builtinsNs∧T.get? bm=some ob∧ob.cls= .type "module" ∧ob.dict=some builtinsNs∧ob.data= .plain
 apart:cac≠cStatics∧Pac≠cStatics
noncomputable abbrev MD (W:Wd):Model:=model PW W.w
noncomputable abbrev SK (W:Wd):=strKind PW W.w
noncomputable def Soft (o:Obj):Prop:=o.cls= .none∧ ∃ps,o.data= .fields ps
noncomputable def Kept (h h':Heap):Prop:= ∀b o,h.get? b=some o→ ¬Soft o→h'.get? b=some o
noncomputable def KeptBut (μ:Addr→Prop) (h h':Heap):Prop:= ∀b o,h.get? b=some o→ ¬Soft o→ ¬μ b→h'.get? b=some o
theorem Kept.of {h h':Heap}(x: ∀b o,h.get? b=some o→h'.get? b=some o):Kept h h':=fun b o e ω=>x b o e
theorem Kept.push (h:Heap)(o:Obj):Kept h (h.push o):=fun ω ω e ω=>Heap.get?_push_of_some _ e
theorem soft_cls {o:Obj}(h:o.cls≠ .none): ¬Soft o:=fun s=>h s.1
noncomputable def isFieldsD:Data→Bool
 | .fields _=>true
 |_=>false
theorem soft_data {o:Obj}{d:Data}(h:o.data=d)(q:isFieldsD d=false): ¬Soft o:=fun z0=>by obtain⟨_,_,s⟩:=z0;exact Bool.noConfusion ((congrArg isFieldsD (h.symm.trans s)).symm.trans q)
theorem soft_dict {o:Obj}{es ep}(h:o.data= .dict es ep): ¬Soft o:=soft_data h rfl
theorem soft_cell {o:Obj}{v}(h:o.data= .cell v): ¬Soft o:=soft_data h rfl
theorem soft_seq {o:Obj}{v n}(h:o.data= .seq v n): ¬Soft o:=soft_data h rfl
section
variable {h h':Heap}{μ μ':Addr→Prop}{a:Addr}
theorem tup_at {items}(x:IsTup h a items)(n: ¬μ a)(k:KeptBut μ h h'):IsTup h' a items:=
 by obtain⟨o,ho,hc,m,hd⟩:=x;exact⟨o,k a o ho (soft_seq hd) n,hc,m,hd⟩
theorem list_at {items}(x:h.IsList a items)(n: ¬μ a)(k:KeptBut μ h h'):h'.IsList a items:=
 by obtain⟨o,ho,hc,m,hd⟩:=x;exact⟨o,k a o ho (soft_seq hd) n,hc,m,hd⟩
theorem ns_at {m}(x:h.Ns a m)(n: ¬μ a)(k:KeptBut μ h h'):h'.Ns a m:=
 by obtain⟨o,es,ep,ho,hd,r⟩:=x;exact⟨o,es,ep,k a o ho (soft_dict hd) n,hd,r⟩
theorem cell_at {v}(x:h.IsCell a v)(n: ¬μ a)(k:KeptBut μ h h'):h'.IsCell a v:=
 by obtain⟨o,ho,hd⟩:=x;exact⟨o,k a o ho (soft_cell hd) n,hd⟩
theorem dictOf_at {W:Wd}{kvs:List (Str×Value)}(x:h.DictOf (SK W) a kvs)(n: ¬μ a)(k:KeptBut μ h h'):h'.DictOf (SK W) a kvs:=
 by obtain⟨o,es,ep,ho,hc,hd,r⟩:=x;exact⟨o,es,ep,k a o ho (soft_dict hd) n,hc,hd,r⟩
theorem Kept.toBut (k:Kept h h'):KeptBut μ h h':=fun b o e n ω=>k b o e n
theorem KeptBut.trans {h'':Heap}(x:KeptBut μ h h')(y:KeptBut μ h' h''):KeptBut μ h h'':=fun b o e n m=>y b o (x b o e n m) n m
theorem KeptBut.wider (k: ∀a o,h.get? a=some o→μ a→μ' a)(x:KeptBut μ h h'):KeptBut μ' h h':=fun b o e n m=>x b o e n fun q=>m (k b o e q)
theorem tup_kept {items}(x:IsTup h a items)(k:Kept h h'):IsTup h' a items:=tup_at (μ:=fun ω=>False) x id k.toBut
theorem list_kept {items}(x:h.IsList a items)(k:Kept h h'):h'.IsList a items:=list_at (μ:=fun ω=>False) x id k.toBut
theorem plain_kept {items}(x:h.PlainList a items)(k:Kept h h'):h'.PlainList a items:=by obtain⟨n,e⟩:=x;exact⟨n,k a _ e (soft_seq rfl)⟩
theorem ns_kept {m}(x:h.Ns a m)(k:Kept h h'):h'.Ns a m:=ns_at (μ:=fun ω=>False) x id k.toBut
theorem cell_kept {v}(x:h.IsCell a v)(k:Kept h h'):h'.IsCell a v:=cell_at (μ:=fun ω=>False) x id k.toBut
theorem dictOf_kept {W:Wd}{kvs:List (Str×Value)}(x:h.DictOf (SK W) a kvs)(k:Kept h h'):h'.DictOf (SK W) a kvs:=dictOf_at (μ:=fun ω=>False) x id k.toBut
end
inductive Rep (W:Wd) (h:Heap) (μ:Addr→Prop):Value→D→Prop
 |none:Rep W h μ .none .none
 |bool (b):Rep W h μ (.bool b) (.bool b)
 |int (i t):Rep W h μ (.int i t) (.int i)
 |str (x t):Rep W h μ (.str x t) (.str x)
 |tup' {a} {vs:List Value} {ds}: ¬μ a→IsTup h a vs.toArray→vs.length=ds.length→(∀(i:Nat) v d,vs[i]?=some v→ds[i]?=some d→Rep W h μ v d)→Rep W h μ (.ref a) (.tup ds)
 |list' {a} {vs:List Value} {ds}: ¬μ a→h.IsList a vs.toArray→vs.length=ds.length→(∀(i:Nat) v d,vs[i]?=some v→ds[i]?=some d→Rep W h μ v d)→Rep W h μ (.ref a) (.list ds)
 |dict' {a kvs ds}: ¬μ a→a≠sysModules→h.DictOf (SK W) a kvs→kvs.map (·.1)=ds.map (·.1)→(∀(i:Nat) v d,(kvs.map (·.2))[i]?=some v→(ds.map (·.2))[i]?=some d→Rep W h μ v d)→Rep W h μ (.ref a) (.dict ds)
 |obj {a o}:h.get? a=some o→ ¬Soft o→ ¬μ a→Rep W h μ (.ref a) (.obj a)
 |ty (n):Rep W h μ (.type n) (.ty n)
 |bi (n):PySem.W.handedIn (.builtin n)=true→Rep W h μ (.builtin n) (.bi n)
 |inst' {a C dx:Addr} {kvs:List (Str×Value)} {fs}: ¬μ a→ ¬μ dx→h.get? a=some (PySem.W.instObj C dx)→h.Ns dx (fun x=>kvs.lookup x)→kvs.map (·.1)=fs.map (·.1)→
   (∀(i:Nat) v d,(kvs.map (·.2))[i]?=some v→(fs.map (·.2))[i]?=some d→Rep W h μ v d)→Rep W h μ (.ref a) (.inst C fs)
 |mtch {a o}: ¬μ a→h.get? a=some o→o.cls= .type "re.Match" →Rep W h μ (.ref a) .mtch
structure RepL (W:Wd)(h:Heap)(μ:Addr→Prop)(vs:List Value)(ds:List D):Prop where
 len:vs.length=ds.length
 at_: ∀(i:Nat) v d,vs[i]?=some v→ds[i]?=some d→Rep W h μ v d
section
variable {W:Wd}{h h':Heap}{μ μ':Addr→Prop}{v:Value}{d d2:D}{vs vs':List Value}{ds ds':List D}{kvs:List (Str×D)}{x:Str}{i:Int}
theorem keys_len {α β:Type}{k:List (Str×α)}{l:List (Str×β)}(e:k.map (·.1)=l.map (·.1)):(k.map (·.2)).length=(l.map (·.2)).length:=by
 rw[List.length_map,List.length_map,←List.length_map (f:=(·.1)) (as:=k),e,List.length_map]
theorem Rep.tup {a}(n: ¬μ a)(t:IsTup h a vs.toArray)(r:RepL W h μ vs ds):Rep W h μ (.ref a) (.tup ds):= .tup' n t r.1 r.2
theorem Rep.list {a}(n: ¬μ a)(t:h.IsList a vs.toArray)(r:RepL W h μ vs ds):Rep W h μ (.ref a) (.list ds):= .list' n t r.1 r.2
theorem Rep.dict {a kv}(n: ¬μ a)(s:a≠sysModules)(t:h.DictOf (SK W) a kv)(e:kv.map (·.1)=kvs.map (·.1))(r:RepL W h μ (kv.map (·.2)) (kvs.map (·.2))):Rep W h μ (.ref a) (.dict kvs):= .dict' n s t e r.2
theorem Rep.inst {a C dx:Addr}{kv:List (Str×Value)}(n: ¬μ a)(m: ¬μ dx)(q:h.get? a=some (PySem.W.instObj C dx))(t:h.Ns dx (fun x=>kv.lookup x))(e:kv.map (·.1)=kvs.map (·.1))(r:RepL W h μ (kv.map (·.2)) (kvs.map (·.2))):Rep W h μ (.ref a) (.inst C kvs):= .inst' n m q t e r.2
noncomputable def RepS (W:Wd) (h:Heap) (μ:Addr→Prop) (v:Value):D→Prop
 | .none=>v= .none
 | .bool b=>v= .bool b
 | .int i=> ∃t,v= .int i t
 | .str x=> ∃t,v= .str x t
 | .tup ds=> ∃a,∃vs:List Value,v= .ref a∧ ¬μ a∧IsTup h a vs.toArray∧RepL W h μ vs ds
 | .list ds=> ∃a,∃vs:List Value,v= .ref a∧ ¬μ a∧h.IsList a vs.toArray∧RepL W h μ vs ds
 | .dict ds=> ∃a kvs,v= .ref a∧ ¬μ a∧a≠sysModules∧h.DictOf (SK W) a kvs∧kvs.map (·.1)=ds.map (·.1)∧RepL W h μ (kvs.map (·.2)) (ds.map (·.2))
 | .obj a=> ∃o,v= .ref a∧h.get? a=some o∧ ¬Soft o∧ ¬μ a
 | .ty n=>v= .type n
 | .bi n=>v= .builtin n∧PySem.W.handedIn (.builtin n)=true
 | .inst C fs=> ∃(a dx:Addr) (kvs:List (Str×Value)),v= .ref a∧ ¬μ a∧ ¬μ dx∧h.get? a=some (PySem.W.instObj C dx)∧h.Ns dx (fun x=>kvs.lookup x)∧kvs.map (·.1)=fs.map (·.1)∧RepL W h μ (kvs.map (·.2)) (fs.map (·.2))
 | .mtch=> ∃a o,v= .ref a∧ ¬μ a∧h.get? a=some o∧o.cls= .type "re.Match"
theorem Rep.out (r:Rep W h μ v d):RepS W h μ v d:=r.rec (motive:=fun v d ω=>RepS W h μ v d) rfl (fun ω=>rfl) (fun ω t=>⟨t,rfl⟩) (fun ω t=>⟨t,rfl⟩) (fun a b c d ω=>⟨_,_,rfl,a,b,c,d⟩) (fun a b c d ω=>⟨_,_,rfl,a,b,c,d⟩)
 (fun a b c d e ω=>⟨_,_,rfl,a,b,c,d,keys_len d,e⟩) (fun a b c=>⟨_,rfl,a,b,c⟩) (fun ω=>rfl) (fun ω e=>⟨rfl,e⟩) (fun a b c d e f ω=>⟨_,_,_,rfl,a,b,c,d,e,keys_len e,f⟩) (fun a b c=>⟨_,_,rfl,a,b,c⟩)
section
variable {P:Value→Prop}(r:Rep W h μ v d)
@[elab_as_elim] theorem Rep.int_elim (r:Rep W h μ v (.int i)) (k: ∀t,P (.int i t)):P v:=by obtain⟨t,e⟩:=(r.out: ∃t,v= .int i t);exact e▸k t
@[elab_as_elim] theorem Rep.str_elim (r:Rep W h μ v (.str x)) (k: ∀t,P (.str x t)):P v:=by obtain⟨t,e⟩:=(r.out: ∃t,v= .str x t);exact e▸k t
@[elab_as_elim] theorem Rep.bool_elim {b:Bool} (r:Rep W h μ v (.bool b)) (k:P (.bool b)):P v:=(r.out:v= .bool b)▸k
@[elab_as_elim] theorem Rep.none_elim (r:Rep W h μ v .none) (k:P .none):P v:=(r.out:v= .none)▸k
@[elab_as_elim] theorem Rep.ty_elim {n} (r:Rep W h μ v (.ty n)) (k:P (.type n)):P v:=(r.out:v= .type n)▸k
@[elab_as_elim] theorem Rep.bi_elim {n} (r:Rep W h μ v (.bi n)) (k:PySem.W.handedIn (.builtin n)=true→P (.builtin n)):P v:=by obtain⟨e,q⟩:=(r.out:v= .builtin n∧PySem.W.handedIn (.builtin n)=true);exact e▸k q
@[elab_as_elim] theorem Rep.tup_elim (r:Rep W h μ v (.tup ds)) (k: ∀a (vs:List Value),¬μ a→IsTup h a vs.toArray→RepL W h μ vs ds→P (.ref a)):P v:=
  by obtain⟨_,_,e,a,b,c⟩:=(r.out: ∃a,∃vs:List Value,v= .ref a∧ ¬μ a∧IsTup h a vs.toArray∧RepL W h μ vs ds);exact e▸k _ _ a b c
@[elab_as_elim] theorem Rep.list_elim (r:Rep W h μ v (.list ds)) (k: ∀a (vs:List Value),¬μ a→h.IsList a vs.toArray→RepL W h μ vs ds→P (.ref a)):P v:=
  by obtain⟨_,_,e,a,b,c⟩:=(r.out: ∃a,∃vs:List Value,v= .ref a∧ ¬μ a∧h.IsList a vs.toArray∧RepL W h μ vs ds);exact e▸k _ _ a b c
@[elab_as_elim] theorem Rep.dict_elim (r:Rep W h μ v (.dict kvs)) (k: ∀a l,¬μ a→a≠sysModules→h.DictOf (SK W) a l→l.map (·.1)=kvs.map (·.1)→RepL W h μ (l.map (·.2)) (kvs.map (·.2))→P (.ref a)):P v:=
  by obtain⟨_,_,e,a,b,c,d,f⟩:=(r.out:RepS W h μ v (.dict kvs));exact e▸k _ _ a b c d f
@[elab_as_elim] theorem Rep.inst_elim {C} (r:Rep W h μ v (.inst C kvs)) (k: ∀(a dx:Addr) (l:List (Str×Value)),¬μ a→ ¬μ dx→h.get? a=some (PySem.W.instObj C dx)→h.Ns dx (fun x=>l.lookup x)→l.map (·.1)=kvs.map (·.1)→RepL W h μ (l.map (·.2)) (kvs.map (·.2))→P (.ref a)):P v:=
  by obtain⟨_,_,_,e,a,b,c,d,f,g⟩:=(r.out:RepS W h μ v (.inst C kvs));exact e▸k _ _ _ a b c d f g
@[elab_as_elim] theorem Rep.obj_elim {a} (r:Rep W h μ v (.obj a)) (k: ∀o,h.get? a=some o→ ¬Soft o→ ¬μ a→P (.ref a)):P v:=by obtain⟨_,e,a,b,c⟩:=(r.out:RepS W h μ v (.obj a));exact e▸k _ a b c
@[elab_as_elim] theorem Rep.mtch_elim (r:Rep W h μ v .mtch) (k: ∀a o,¬μ a→h.get? a=some o→o.cls= .type "re.Match" →P (.ref a)):P v:=by obtain⟨_,_,e,a,b,c⟩:=(r.out:RepS W h μ v .mtch);exact e▸k _ _ a b c
end
theorem Rep.go (k:KeptBut μ h h')(m: ∀b o,h.get? b=some o→ ¬μ b→ ¬μ' b)(r:Rep W h μ v d):Rep W h' μ' v d:=r.rec (motive:=fun v d ω=>Rep W h' μ' v d) .none (fun ω=> .bool _) (fun ω ω=> .int _ _) (fun ω ω=> .str _ _)
 (fun a b c ω e=> .tup' (by obtain⟨_,ho,_⟩:=b;exact m _ _ ho a) (tup_at b a k) c e) (fun a b c ω e=> .list' (by obtain⟨_,ho,_⟩:=b;exact m _ _ ho a) (list_at b a k) c e) (fun a b c d ω e=> .dict' (by obtain⟨_,_,_,ho,_⟩:=c;exact m _ _ ho a) b (dictOf_at c a k) d e)
 (fun a b c=> .obj (k _ _ a b c) b (m _ _ a c)) (fun ω=> .ty _) (fun ω e=> .bi _ e) (fun a b c d e ω f=> .inst' (m _ _ c a) (by obtain⟨_,_,_,ho,_⟩:=d;exact m _ _ ho b) (k _ _ c (soft_cls fun q=>nomatch q) a) (ns_at d b k) e f)
 (fun a b c=> .mtch (m _ _ b a) (k _ _ b (soft_cls fun q=>nomatch c.symm.trans q) a) c)
theorem Rep.kept (k:Kept h h')(r:Rep W h μ v d):Rep W h' μ v d:=r.go k.toBut fun ω ω ω=>id
theorem Rep.but (k:KeptBut μ h h')(r:Rep W h μ v d):Rep W h' μ v d:=r.go k fun ω ω ω=>id
theorem Rep.mu (k: ∀a o,h.get? a=some o→μ' a→μ a)(r:Rep W h μ v d):Rep W h μ' v d:=r.go (fun ω ω e ω ω=>e) fun b o e n q=>n (k b o e q)
theorem RepL.kept (k:Kept h h')(r:RepL W h μ vs ds):RepL W h' μ vs ds:=⟨r.1,fun i v d a b=>(r.2 i v d a b).kept k⟩
theorem RepL.but (k:KeptBut μ h h')(r:RepL W h μ vs ds):RepL W h' μ vs ds:=⟨r.1,fun i v d a b=>(r.2 i v d a b).but k⟩
theorem RepL.mu (k: ∀a o,h.get? a=some o→μ' a→μ a)(r:RepL W h μ vs ds):RepL W h μ' vs ds:=⟨r.1,fun i v d a b=>(r.2 i v d a b).mu k⟩
theorem RepL.newer (r:RepL W h μ vs ds)(o:Obj):RepL W (h.push o) (fun b=>μ b∨b=h.objs.size) vs ds:=
 RepL.kept (Kept.push _ _) (r.mu fun ω ω l q=>q.resolve_right (Nat.ne_of_lt (Heap.lt_size l)))
theorem RepL.nil:RepL W h μ [] []:=⟨rfl,fun ω ω ω e=>nomatch e⟩
theorem RepL.cons (a:Rep W h μ v d)(r:RepL W h μ vs ds):RepL W h μ (v::vs) (d::ds):=⟨congrArg (· +1) r.1,fun i=>match i with
 |0=>fun ω ω e f=>Option.some.inj e▸Option.some.inj f▸a
 |i+1=>r.2 i⟩
theorem RepL.nil_ds (r:RepL W h μ [] ds):ds= []:=List.eq_nil_of_length_eq_zero r.1.symm
theorem RepL.hd (r:RepL W h μ (v::vs) (d::ds)):Rep W h μ v d:=r.2 0 v d rfl rfl
theorem RepL.tl (r:RepL W h μ (v::vs) (d::ds)):RepL W h μ vs ds:=⟨Nat.succ.inj r.1,fun i=>r.2 (i+1)⟩
section
variable {P:List Value→Prop}
@[elab_as_elim] theorem RepL.nil_elim (r:RepL W h μ vs []) (k:P []):P vs:=match vs,r with
  | [],_=>k
  |_::_,r=>nomatch r.1
@[elab_as_elim] theorem RepL.cons_elim (r:RepL W h μ vs (d::ds)) (k: ∀v l,Rep W h μ v d→RepL W h μ l ds→P (v::l)):P vs:=match vs,r with
  | [],r=>nomatch r.1
  |_::_,r=>k _ _ r.hd r.tl
@[elab_as_elim] theorem RepL.one_elim (r:RepL W h μ vs [d]) (k: ∀v,Rep W h μ v d→P [v]):P vs:=r.cons_elim fun ω ω a r=>r.nil_elim (k _ a)
@[elab_as_elim] theorem RepL.two_elim (r:RepL W h μ vs [d,d2]) (k: ∀v v2,Rep W h μ v d→Rep W h μ v2 d2→P [v,v2]):P vs:=r.cons_elim fun ω ω a r=>r.one_elim fun ω b=>k _ _ a b
end
theorem RepL.get (r:RepL W h μ vs ds){i:Nat}{d:D}(e:ds[i]?=some d): ∃v,vs[i]?=some v∧Rep W h μ v d:=
 have hl:i<vs.length:=r.1▸(List.getElem?_eq_some_iff.mp e).1
 ⟨_,List.getElem?_eq_getElem hl,r.2 _ _ _ (List.getElem?_eq_getElem hl) e⟩
theorem RepL.append (r:RepL W h μ vs ds)(q:RepL W h μ vs' ds'):RepL W h μ (vs++vs') (ds++ds'):=by
 induction ds generalizing vs with
 |nil=>exact r.nil_elim q
 |cons d ds ih=>exact r.cons_elim fun ω ω a b=> .cons a (ih b)
theorem Rep.handed (r:Rep W h μ v d):PySem.W.handedIn v=true:=r.rec (motive:=fun v ω ω=>PySem.W.handedIn v=true) rfl (fun ω=>rfl) (fun ω ω=>rfl) (fun ω ω=>rfl) (fun ω ω ω ω ω=>rfl) (fun ω ω ω ω ω=>rfl) (fun ω ω ω ω ω ω=>rfl) (fun ω ω ω=>rfl) (fun ω=>rfl) (fun ω e=>e) (fun ω ω ω ω ω ω ω=>rfl) fun ω ω ω=>rfl
end
end Mine
namespace Mine
open PySem
inductive Tag where
 |fr|o1|o2|oi
noncomputable abbrev Rho:=List (Str×Tag×D)
noncomputable abbrev Names:=List (Str×NameKind)
noncomputable def lim:Nat:=4194304
noncomputable def getK (kvs:List (Str×D)) (k:Str):Option D:=(kvs.find? fun kv=>kv.1=k).map (·.2)
noncomputable def putK (kvs:List (Str×D)) (k:Str) (d:D):List (Str×D):=
 if kvs.any (fun kv=>kv.1=k) then kvs.map (fun kv=>if kv.1=k then(kv.1,d) else kv) else kvs++[(k,d)]
noncomputable def asInt:D→Option Int
 | .int i=>some i
 |_=>none
noncomputable def asStr:D→Option Str
 | .str i=>some i
 |_=>none
noncomputable def asBool:D→Option Bool
 | .bool i=>some i
 |_=>none
noncomputable def asTup:D→Option (List D)
 | .tup i=>some i
 |_=>none
noncomputable def asList:D→Option (List D)
 | .list i=>some i
 |_=>none
noncomputable def asDict:D→Option (List (Str×D))
 | .dict i=>some i
 |_=>none
noncomputable def asTy:D→Option String
 | .ty i=>some i
 |_=>none
noncomputable def asSeq:D→Option (List D)
 | .tup i=>some i
 | .list i=>some i
 |_=>none
noncomputable def one?:List D→Option D
 | []=>none
 |d::r=>match r with
  | []=>some d
  |_::_=>none
noncomputable def two?:List D→Option (D×D)
 | []=>none
 |d::r=>(one? r).map fun e=>(d,e)
noncomputable def mapO {α β:Type} (f:α→Option β):List α→Option (List β)
 | []=>some []
 |a::r=>(f a).bind fun b=>(mapO f r).map fun bs=>b::bs
noncomputable def intsOf:List D→Option (List Int):=mapO asInt
noncomputable def strsOf:List D→Option (List Str):=mapO asStr
noncomputable def small (i:Int):Bool:=decide (i.natAbs<1073741824)
noncomputable def iteO {α:Type} (c:Prop) [Decidable c] (x:Option α):Option α:=if c then x else none
noncomputable def addD (a b:D):Option D:=match a with
 | .int a=>(asInt b).map fun b=> .int (a+b)
 | .str a=>(asStr b).bind fun b=>iteO (a.length+b.length≤lim) (some (.str (a++b)))
 | .tup a=>(asTup b).bind fun b=>iteO (a.length+b.length≤lim) (some (.tup (a++b)))
 | .list a=>(asList b).bind fun b=>iteO (a.length+b.length≤lim) (some (.list (a++b)))
 |_=>none
noncomputable def mulD (a b:D):Option D:=match a with
 | .int a=>(asInt b).bind fun b=>iteO ((small a&&small b)=true) (some (.int (a*b)))
 | .str a=>(asInt b).bind fun n=>iteO ((decide (a.length*n.toNat≤lim)&&small n)=true) (some (.str (Txt.mul a n)))
 | .list a=>(asInt b).bind fun n=>iteO ((decide (a.length*n.toNat≤lim)&&small n)=true) (some (.list (List.replicate n.toNat a).flatten))
 |_=>none
noncomputable def intsD (f:Int→Int→Option D) (a b:D):Option D:=(asInt a).bind fun a=>(asInt b).bind (f a)
noncomputable def binD:Operator→D→D→Option D
 | .Add=>addD
 | .Sub=>intsD fun a b=>some (.int (a - b))
 | .Mult=>mulD
 | .FloorDiv=>intsD fun a b=>iteO (b≠0∧small b=true) (some (.int (a.fdiv b)))
 | .Mod=>intsD fun a b=>iteO (b≠0) (some (.int (a.fmod b)))
 | .Pow=>intsD fun a b=>iteO (0≤b∧b≤64∧a.natAbs≤64) (some (.int (a^b.toNat)))
 |_=>fun ω ω=>none
noncomputable def andO (a b:Option Bool):Option Bool:=a.bind fun x=>b.map fun y=>x&&y
noncomputable def eqL (f:D→D→Option Bool):List D→List D→Option Bool
 | [],_=>some true
 |a::as,m=>match m with
  | []=>some true
  |b::bs=>andO (f a b) (eqL f as bs)
noncomputable def eqKo (f:D→Option Bool) (x:Option Bool):Option D→Option Bool
 |none=>some false
 |some d=>andO (f d) x
noncomputable def eqK (f:D→D→Option Bool):List (Str×D)→List (Str×D)→Option Bool
 | [],_=>some true
 |e::r,bs=>eqKo (f e.2) (eqK f r bs) (getK bs e.1)
noncomputable def eqTup (f:D→D→Option Bool) (a b:List D):Option Bool:=(eqL f a b).map fun r=>r&&(a.length==b.length)
noncomputable def eqFlat:Nat→D→D→Option Bool
 |0,_,_=>none
 |n+1,a,b=>match a with
  | .int a=>(asInt b).map fun b=>a==b
  | .str a=>(asStr b).map fun b=>a==b
  | .bool a=>(asBool b).map fun b=>a==b
  | .tup a=>(asTup b).bind (eqTup (eqFlat n) a)
  | .list a=>(asList b).bind fun b=>if a.length=b.length then eqL (eqFlat n) a b else some false
  |_=>none
noncomputable def eqD:Nat→D→D→Option Bool
 |0,_,_=>none
 |n+1,a,b=>match a with
  | .tup a=>(asTup b).bind (eqTup (eqD n) a)
  | .dict a=>(asDict b).bind fun b=>if a.length=b.length then eqK (eqD n) a b else some false
  |a=>eqFlat (n+1) a b
noncomputable def hasSub (x y:Str):Bool:= !(PySem.Builtin.Str.occurrences y x 0 y.length 1).isEmpty
noncomputable def inD (a b:D):Option Bool:=match a with
 | .str x=>match b with
   | .str y=>some (hasSub x y)
   | .dict kvs=>some (kvs.any fun kv=>kv.1=x)
   |_=>none
 | .int i=>(asTup b).bind fun ds=>(intsOf ds).map fun l=>l.contains i
 |_=>none
noncomputable def ltD (a b:D):Option Bool:=match a with
 | .int a=>(asInt b).map fun b=>decide (a<b)
 | .str a=>(asStr b).map fun b=>decide (a.cps.toList<b.cps.toList)
 |_=>none
noncomputable def leD (a b:D):Option Bool:=(asInt a).bind fun a=>(asInt b).map fun b=>decide (a≤b)
noncomputable def cmpD:CmpOp→D→D→Option Bool
 | .Eq=>eqD 8
 | .NotEq=>fun a b=>(eqD 8 a b).map (!·)
 | .Lt=>ltD
 | .LtE=>leD
 | .Gt=>fun a b=>ltD b a
 | .GtE=>fun a b=>leD b a
 | .Is=>fun a b=>(asBool a).bind fun a=>(asBool b).map fun b=>a==b
 | .In=>inD
 | .NotIn=>fun a b=>(asStr a).bind fun x=>(asStr b).map fun y=> !hasSub x y
 |_=>fun ω ω=>none
noncomputable def truthD:D→Option Bool
 | .none=>some false
 | .bool b=>some b
 | .mtch=>some true
 |_=>none
noncomputable def seqItem (ds:List D) (i:D):Option D:=(asInt i).bind fun i=>iteO (small i=true) ((seqIndex? i ds.length).bind (ds[·]?))
noncomputable def itemD (a i:D):Option D:=match a with
 | .tup ds=>seqItem ds i
 | .list ds=>seqItem ds i
 | .str x=>(asInt i).bind fun i=>iteO (small i=true) (((seqIndex? i x.length).bind (x.cps[·]?)).map fun c=> .str ⟨#[c]⟩)
 | .dict kvs=>(asStr i).bind (getK kvs)
 |_=>none
noncomputable def itemsD:D→Option (List D)
 | .tup ds=>some ds
 | .list ds=>some ds
 | .str x=>some (x.cps.toList.map fun c=> .str ⟨#[c]⟩)
 | .dict kvs=>some (kvs.map fun kv=> .str kv.1)
 |_=>none
noncomputable def rangeL (a b:Int):List D:=(List.range (b - a).toNat).map fun(k:Nat)=>D.int (a+(k:Int))
noncomputable def sortS (l:List Str):List Str:=l.mergeSort fun a b=>decide (¬b.cps.toList<a.cps.toList)
noncomputable def minL:List Int→Option Int
 | []=>none
 |a::r=>some (r.foldl (fun m x=>if x<m then x else m) a)
noncomputable def lenD:D→Option D
 | .tup ds=>iteO (ds.length≤lim) (some (.int ds.length))
 | .list ds=>iteO (ds.length≤lim) (some (.int ds.length))
 | .str x=>iteO (x.length≤lim) (some (.int x.length))
 |_=>none
noncomputable def sortD:D→Option D
 | .list ds=>iteO (ds.length<64) ((strsOf ds).map fun l=> .list ((sortS l).map .str))
 | .str x=>iteO (x.length<64) (some (.list ((sortS (x.cps.toList.map fun c=>⟨#[c]⟩)).map .str)))
 | .dict kvs=>iteO (kvs.length<64) (some (.list ((sortS (kvs.map (·.1))).map .str)))
 |_=>none
noncomputable def isiD (e:D×D):Option D:=match e.1 with
 | .tup _=>(asTy e.2).bind fun t=>iteO (t= "tuple") (some (.bool true))
 |_=>none
noncomputable def biD (n:String) (as:List D):Option D:=
 if n= "len" then(one? as).bind lenD
 else if n= "sum" then(one? as).bind fun d=>(asList d).bind fun ds=>(intsOf ds).map fun l=> .int l.sum
 else if n= "min" then(one? as).bind fun d=>(asList d).bind fun ds=>(intsOf ds).bind fun l=>(minL l).map .int
 else if n= "sorted" then(one? as).bind sortD
 else if n= "isinstance" then(two? as).bind isiD
 else none
noncomputable def tyD (n:String) (as:List D):Option D:=
 if n= "tuple" then(one? as).bind fun d=>(asList d).bind fun ds=>iteO (ds.length≤lim) (some (.tup ds))
 else if n= "list" then(one? as).bind fun d=>(asList d).bind fun ds=>iteO (ds.length≤lim) (some (.list ds))
 else if n= "int" then(one? as).bind fun d=>(asBool d).map fun b=> .int (if b then 1 else 0)
 else none
noncomputable def none? (as:List D) (x:Option D):Option D:=match as with
 | []=>x
 |_::_=>none
noncomputable def strArg (as:List D) (f:Str→D):Option D:=(one? as).bind fun d=>(asStr d).map f
noncomputable def methS (m:Str) (x:Str) (as:List D):Option D:=
 if m= "lower" then none? as (iteO ((Txt.lower x).length≤lim) (some (.str (Txt.lower x))))
 else if m= "upper" then none? as (iteO ((Txt.upper x).length≤lim) (some (.str (Txt.upper x))))
 else if m= "find" then strArg as fun y=> .int (Txt.find x y)
 else if m= "startswith" then strArg as fun y=> .bool (Txt.startswith x y)
 else if m= "endswith" then strArg as fun y=> .bool (Txt.endswith x y)
 else if m= "join" then(one? as).bind fun d=>(asList d).bind fun ds=>(strsOf ds).bind fun l=>iteO (JoinOk x l) (some (.str (Txt.join x l)))
 else none
noncomputable def isCall (e:Expr):Bool:=Nat.beq e.ctorIdx 16
noncomputable def baseOk (e:Expr):Bool:= !isCall e
noncomputable def isAttr (e:Expr):Bool:=Nat.beq e.ctorIdx 20
noncomputable def isTupT (e:Expr):Bool:=Nat.beq e.ctorIdx 25
inductive View:Expr→Type
 |name (x p):View (.Name x p)
 |tuple (es k p):View (.Tuple es k p)
 |attr (o m p):View (.Attribute o m p)
 |sub (v s p):View (.Subscript v s p)
 |slice (a b c p):View (.Slice a b c p)
 |gen (e gs sc p):View (.GeneratorExp e gs sc p)
 |call (f as kw p):View (.Call f as kw p)
 |str (y k p):View (.Constant (.str y) k p)
 |bin (l op r p):View (.BinOp l op r p)
 |other (e):View e
noncomputable def view (e:Expr):View e:=match e with
 | .Name x p=> .name x p
 | .Tuple es k p=> .tuple es k p
 | .Attribute o m p=> .attr o m p
 | .Subscript v s p=> .sub v s p
 | .Slice a b c p=> .slice a b c p
 | .GeneratorExp e gs sc p=> .gen e gs sc p
 | .Call f as kw p=> .call f as kw p
 | .Constant c k p=>match c with
   | .str y=> .str y k p
   |c=> .other (.Constant c k p)
 | .BinOp l op r p=> .bin l op r p
 |e=> .other e
noncomputable def View.nm {e:Expr}:View e→Option Str
 | .name x _=>some x
 |_=>none
noncomputable def View.txt {e:Expr}:View e→Option Str
 | .str x _ _=>some x
 |_=>none
noncomputable def nameOf (e:Expr):Option Str:=(view e).nm
noncomputable def strConst (e:Expr):Option Str:=(view e).txt
structure Cfg where
 F:Addr→List D→Option D
 glob:Str→Option D
 meth:Addr→Str→Option Addr
 ometh:Addr→Str→List D→Option D
 cattr:Addr→Str→Option D
 iattr:Addr→Str→Bool
 frz:Nat→List Str
 own:Nat→Option Tag
noncomputable def genMark:Str:=Str.ofString "new_callers"
noncomputable def txtMark:Str:=Str.ofString "text"
noncomputable def dbgN:Str:=Str.ofString "__debug__"
noncomputable def lk (ρ:Rho) (x:Str):Option (Tag×D):=if x=dbgN then none else ρ.lookup x
noncomputable def tagO1 (e:Tag×D):Option D:=match e.1 with
 | .o1=>some e.2
 | .fr=>some e.2
 |_=>none
noncomputable def tagO2 (e:Tag×D):Option D:=match e.1 with
 | .o2=>some e.2
 |_=>none
noncomputable def tagOi (e:Tag×D):Option D:=match e.1 with
 | .oi=>some e.2
 |_=>none
noncomputable def tagFr (e:Tag×D):Option D:=match e.1 with
 | .fr=>some e.2
 |_=>none
noncomputable def o1? (ρ:Rho) (x:Str):Option D:=(lk ρ x).bind tagO1
noncomputable def o2? (ρ:Rho) (x:Str):Option D:=(lk ρ x).bind tagO2
noncomputable def oi? (ρ:Rho) (x:Str):Option D:=(lk ρ x).bind tagOi
noncomputable def setV (ρ:Rho) (x:Str) (t:Tag) (d:D):Rho:=(x,t,d)::ρ.filter fun e=>e.1≠x
noncomputable def nameD (C:Cfg) (nm:Names) (ρ:Rho) (x:Str):Option D:=if x=dbgN then none else if nm.lookup x=some .globalImplicit then C.glob x else(ρ.lookup x).bind tagFr
noncomputable def canB (nm:Names) (x:Str):Bool:=decide (nm.lookup x=some .local∨nm.lookup x=some .cell)
noncomputable def bindN (nm:Names) (ρ:Rho) (x:Str) (d:D):Option Rho:=if canB nm x=true then some (setV ρ x .fr d) else none
noncomputable def bindTs (nm:Names):Rho→List Expr→List D→Option Rho
 |ρ,[],ds=>match ds with
  | []=>some ρ
  |_::_=>none
 |ρ,t::ts,ds=>match ds with
  | []=>none
  |d::ds=>(nameOf t).bind fun x=>(bindN nm ρ x d).bind fun ρ=>bindTs nm ρ ts ds
noncomputable def bindV (nm:Names) (ρ:Rho) (d:D) {t:Expr}:View t→Option Rho
 | .name x _=>bindN nm ρ x d
 | .tuple ts _ _=>(asSeq d).bind (bindTs nm ρ ts)
 |_=>none
noncomputable def bindT (nm:Names) (ρ:Rho) (t:Expr) (d:D):Option Rho:=bindV nm ρ d (view t)
noncomputable def captured (nm:Names) (ρ:Rho):Rho:=nm.filterMap fun e=>if e.2= .free then(ρ.lookup e.1).bind fun q=>(tagFr q).map fun d=>(e.1,.fr,d) else none
noncomputable def rlK (outer:Names) (n:Str) (k:NameKind):NameKind:=if k= .free∧outer.lookup n=some .cell then .cell else k
noncomputable def relabelN (inner outer:Names):Names:=inner.map fun e=>(e.1,rlK outer e.1 e.2)
noncomputable abbrev Ev:=Names→Rho→Expr→Option D
noncomputable abbrev Ex1:=Expr→Option D
noncomputable def constD:Const→Option D
 | .none=>some .none
 | .bool b=>some (.bool b)
 | .int i=>some (.int i)
 | .str s=>some (.str s)
 |_=>none
noncomputable def sliceE (E:Ex1):Option Expr→Option (Option Int)
 |none=>some none
 |some e=>(E e).bind fun d=>(asInt d).bind fun i=>iteO (small i=true) (some (some i))
noncomputable def sliceL (l:List D) (a b c:Option Int):Option (List D):=
 if c=some 0∨lim<l.length then none else
  some ((sliceRange (sliceBounds a b c l.length).1 (sliceBounds a b c l.length).2.1 (sliceBounds a b c l.length).2.2).filterMap (l[·]?))
noncomputable def rangeE (E:Ex1):List Expr→Option (List D)
 | []=>none
 |a::r=>match r with
  | []=>(E a).bind fun d=>(asInt d).bind fun b=>iteO (small b=true) (some (rangeL 0 b))
  |c::r=>match r with
   | []=>(E a).bind fun d=>(asInt d).bind fun a=>(E c).bind fun d=>(asInt d).bind fun b=>iteO ((small a&&small b)=true) (some (rangeL a b))
   |_::_=>none
noncomputable def enumE (E:Ex1) (t:Expr):List Expr→Option (List D)
 | []=>none
 |a::r=>match r with
  | []=>(E a).bind fun d=>(asTup d).bind fun ds=>iteO (isTupT t=true) (some ((ds.zipIdx).map fun(d,i)=> .tup [.int i,d]))
  |_::_=>none
noncomputable def itemsE (E:Ex1) (t o:Expr) (mp p:Pos):List Expr→Option (List D)
 | []=>iteO (isTupT t=true∧baseOk o=true∧mp.endLine=p.line) ((E o).bind fun d=>(asDict d).map fun kvs=>kvs.map fun kv=> .tup [.str kv.1,kv.2])
 |_::_=>none
noncomputable def iterT (E:Ex1) (t:Expr) (as:List Expr) (plain:Option (List D)):Option String→Option (List D)
 |some n=>if n= "range" then rangeE E as else if n= "enumerate" then enumE E t as else plain
 |none=>plain
noncomputable def iterF (E:Ex1) (N:Str→Option D) (t:Expr) (as:List Expr) (p:Pos) (plain:Option (List D)) {f:Expr}:View f→Option (List D)
 | .name x _=>iterT E t as plain ((N x).bind asTy)
 | .attr o m mp=>if m= "items" then itemsE E t o mp p as else plain
 |_=>plain
noncomputable def iterC (E:Ex1) (N:Str→Option D) (t:Expr) (plain:Option (List D)) {e:Expr}:View e→Option (List D)
 | .call f as kw p=>match kw with
   |_::_=>none
   | []=>iterF E N t as p plain (view f)
 |_=>plain
noncomputable def iterN (E:Ex1) (N:Str→Option D) (t:Expr) (e:Expr):Option (List D):=iterC E N t ((E e).bind itemsD) (view e)
noncomputable def iterE (self:Ev) (C:Cfg) (nm:Names) (ρ:Rho):Expr→Expr→Option (List D):=iterN (self nm ρ) (nameD C nm ρ)
noncomputable def View.tnames {t:Expr}:View t→List Str
 | .name x _=>[x]
 | .tuple ts _ _=>ts.filterMap nameOf
 |_=>[]
noncomputable def tnames (t:Expr):List Str:=(view t).tnames
noncomputable def okGens (ρ:Rho) (gs:List Comprehension):Bool:=gs.all (fun g=>g.is_async==0)&&decide (gs.flatMap fun g=>tnames g.target).Nodup&&(gs.flatMap fun g=>tnames g.target).all fun x=>(ρ.lookup x).isNone
noncomputable def boolL (op:BoolOp):List (Option Bool)→Option Bool
 | []=>some (decide (op= .And))
 |x::r=>x.bind fun b=>if b=decide (op= .Or) then some b else boolL op r
noncomputable def plainT (e:Expr):Bool:= !(Nat.beq e.ctorIdx 0||(Nat.beq e.ctorIdx 3||(Nat.beq e.ctorIdx 5||Nat.beq e.ctorIdx 15)))
noncomputable def isNot:UnaryOp→Bool
 | .Not=>true
 |_=>false
noncomputable def onlyOne {α:Type}:List α→Bool
 | []=>false
 |_::r=>match r with
  | []=>true
  |_::_=>false
noncomputable def tstE (E:Ex1):Nat→Expr→Option Bool
 |0,_=>none
 |n+1,e=>match e with
  | .UnaryOp op x _=>iteO (isNot op=true) ((tstE E n x).map (!·))
  | .BoolOp op vs _=>boolL op (vs.map (tstE E n))
  | .Compare _ ops rs _=>iteO ((onlyOne ops&&onlyOne rs)=true) ((E e).bind truthD)
  |e=>iteO (plainT e=true) ((E e).bind truthD)
noncomputable def ifsL (E:Ex1):List Expr→Option Bool
 | []=>some true
 |c::r=>(tstE E 8 c).bind fun b=>if b=true then ifsL E r else some false
noncomputable def ifsE (self:Ev) (nm:Names) (ρ:Rho):List Expr→Option Bool:=ifsL (self nm ρ)
noncomputable def insE {α:Type} (self:Ev) (C:Cfg) (nm:Names) (emit:Rho→Option α) (rec:List D→Rho→Option (List α)) (ρ:Rho):List Comprehension→Option (List α)
 | []=>(emit ρ).map fun x=>[x]
 |g::_=>(iterE self C nm ρ g.target g.iter).bind fun its=>rec its ρ
noncomputable def itemE {α:Type} (self:Ev) (C:Cfg) (nm0 nm:Names) (emit:Rho→Option α) (g:Comprehension) (gs:List Comprehension) (rec:List D→Rho→Option (List α)) (ρ:Rho) (d:D):Option (List α):=
 (bindT nm0 ρ g.target d).bind fun ρ'=>(ifsE self nm ρ' g.ifs).bind fun b=>if b=true then insE self C nm emit rec ρ' gs else some []
noncomputable def compE {α:Type} (self:Ev) (C:Cfg) (nm0 nm:Names) (emit:Rho→Option α):List Comprehension→List D→Rho→Option (List α)
 | [],_,_=>none
 |g::gs,items,ρ=>(mapO (itemE self C nm0 nm emit g gs (compE self C nm0 nm emit gs) ρ) items).map List.flatten
noncomputable def okKind (nm:Names) (n:Str):NameKind→Bool
 | .local=>true
 | .cell=>true
 | .free=>decide (nm.lookup n=some .cell)
 | .globalImplicit=>true
 |_=>false
noncomputable def okScope (sc:Scope) (nm:Names):Bool:=decide (sc.names.lookup genMark≠some .local∧sc.names.lookup txtMark≠some .local)&&decide (sc.kind= .function)&&decide (sc.names.map (·.1)).Nodup&&
 sc.names.all fun e=>okKind nm e.1 e.2
structure EV where
 E:Ex1
 N:Str→Option D
 o1:Str→Option D
 o2:Str→Option D
 oi:Str→Option D
 cap:Names→Rho
noncomputable def and2 (E:Ex1) (op:BoolOp) (vs:List Expr):Option D:=match op with
 | .Or=>none
 | .And=>match vs with
   | []=>none
   |a::r=>match r with
    | []=>none
    |b::r=>match r with
     | []=>(E a).bind fun d=>(asBool d).bind fun c=>if c=true then E b else some (.bool false)
     |_::_=>none
noncomputable def dictE (E:Ex1) (ks:List (Option Expr)) (vs:List Expr):Option D:=match ks with
 | []=>match vs with
   | []=>some (.dict [])
   |_::_=>none
 |ko::r=>match r with
  |_::_=>none
  | []=>ko.bind fun k=>match vs with
    | []=>none
    |v::r=>match r with
     | []=>(E k).bind fun d=>(asStr d).bind fun x=>(E v).map fun d=> .dict [(x,d)]
     |_::_=>none
noncomputable def isIn:CmpOp→Bool
 | .In=>true
 | .NotIn=>true
 |_=>false
noncomputable def rhsN (V:EV) (op:CmpOp) (r:Expr):Option Str→Option D
 |some x=>if isIn op=true then V.o1 x else V.E r
 |none=>V.E r
noncomputable def rhsE (V:EV) (op:CmpOp) (r:Expr):Option D:=rhsN V op r (nameOf r)
noncomputable def cmpE (V:EV) (l:Expr) (ops:List CmpOp) (rs:List Expr):Option D:=match ops with
 | []=>none
 |op::q=>match q with
  |_::_=>none
  | []=>match rs with
    | []=>none
    |r::q=>match q with
     |_::_=>none
     | []=>(V.E l).bind fun a=>(rhsE V op r).bind fun b=>(cmpD op a b).map .bool
noncomputable def kvE (E:Ex1) (kx vx:Expr):Option (Str×D):=(E kx).bind fun d=>(asStr d).bind fun x=>(E vx).map fun d=>(x,d)
noncomputable def gensE {α:Type} (C:Cfg) (self:Ev) (nm:Names) (V:EV) (gs:List Comprehension) (sc:Scope) (emit:Ev→Names→Rho→Option α):Option (List α):=match gs with
 | []=>none
 |g::_=>(iterN V.E V.N g.target g.iter).bind fun its=>iteO ((okScope sc nm&&okGens (V.cap sc.names) gs)=true) ((compE self C sc.names (relabelN sc.names nm) (emit self (relabelN sc.names nm)) gs its (V.cap sc.names)).bind fun r=>iteO (r.length≤lim) (some r))
noncomputable def attD (C:Cfg) (m:Str):D→Option D
 | .inst c fs=>if C.iattr c m=true then getK fs m else none
 | .obj c=>C.cattr c m
 |_=>none
noncomputable def orE (x:Option D):Option D→Option D
 |some d=>some d
 |none=>x
noncomputable def attE (C:Cfg) (V:EV) (o:Expr) (m:Str):Option D:=(nameOf o).bind fun x=>(orE (V.E o) (V.oi x)).bind (attD C m)
noncomputable def sliceD (E:Ex1) (c:Option Expr) (d:D) (ia ib:Option Int):Option D:=match d with
 | .list l=>(sliceE E c).bind fun ic=>(sliceL l ia ib ic).map .list
 | .str x=>match c with
   |none=>iteO (x.length≤lim) (some (.str (Txt.slice x ia ib)))
   |some _=>none
 |_=>none
noncomputable def two2 (V:EV) (v s:Expr):Option D:=(V.E v).bind fun d=>(V.E s).bind (itemD d)
noncomputable def subN (V:EV) (v s k:Expr):Option D→Option D
 |some d=>(asDict d).bind fun kvs=>(V.E k).bind fun d=>(asStr d).bind fun y=>(V.E s).bind fun i=>(getK kvs y).bind fun d=>itemD d i
 |none=>two2 V v s
noncomputable def subV (V:EV) (v s:Expr) {e:Expr}:View e→Option D
 | .name x _=>(V.o1 x).bind fun d=>(V.E s).bind (itemD d)
 | .sub w k _=>subN V v s k ((nameOf w).bind V.o2)
 |_=>two2 V v s
noncomputable def subS (V:EV) (v s:Expr) {e:Expr}:View e→Option D
 | .slice a b c _=>(V.E v).bind fun d=>(sliceE V.E a).bind fun ia=>(sliceE V.E b).bind fun ib=>sliceD V.E c d ia ib
 |_=>subV V v s (view v)
noncomputable def subE (V:EV) (v s:Expr):Option D:=subS V v s (view s)
noncomputable def replD (nm:Names) (x y z:Str):Option D:=if y=z∨16777216<x.length+(x.length+1)*z.length∨nm.lookup txtMark≠some .local then none else some (.str (Txt.replace x y z))
noncomputable def two {α:Type}:List α→Option (α×α)
 | []=>none
 |a::r=>match r with
  | []=>none
  |b::r=>match r with
   | []=>some (a,b)
   |_::_=>none
noncomputable def methI (C:Cfg) (E:Ex1) (m:Str) (as:List Expr) (c:Addr) (fs:List (Str×D)):Option D→Option D
 |some _=>none
 |none=>(C.meth c m).bind fun f=>(mapO E as).bind fun ds=>C.F f (.inst c fs::ds)
noncomputable def methE (C:Cfg) (E:Ex1) (nm:Names) (m:Str) (as:List Expr):D→Option D
 | .str x=>if m= "replace" then(two as).bind fun e=>(strConst e.1).bind fun y=>(strConst e.2).bind fun z=>replD nm x y z else(mapO E as).bind (methS m x)
 | .dict kvs=>if m= "get" then(two as).bind fun e=>(E e.1).bind fun d=>(asStr d).bind fun k=>(E e.2).map fun d=>(getK kvs k).getD d else none
 | .obj a=>(mapO E as).bind (C.ometh a m)
 | .inst c fs=>methI C E m as c fs (getK fs m)
 |_=>none
noncomputable def okGenScope (sc:Scope) (i j:Str):Bool:=decide (sc.kind= .function)&& !sc.isCoroutine&&sc.names.all (fun y=>y.2 != .cell&&y.2 != .free)&&decide (sc.names.lookup (Str.ofString ".0")=some .local)&&
  decide (sc.names.lookup i=some .local)&&decide (sc.names.lookup j=some .local)
structure GenQ where
 i:Str
 j:Str
 z:Str
 a:Expr
 b:Expr
noncomputable def genB (i j:Str) (it:Str×Expr×Expr) {e:Expr}:View e→Option GenQ
 | .bin l op r _=>match op with
   | .Add=>(nameOf l).bind fun i'=>(nameOf r).bind fun j'=>iteO (i'=i∧j'=j∧i≠j∧i≠dbgN∧j≠dbgN) (some ⟨i,j,it.1,it.2.1,it.2.2⟩)
   |_=>none
 |_=>none
noncomputable def genI {e:Expr}:View e→Option (Str×Expr×Expr)
 | .call f as kw _=>match kw with
   | []=>(nameOf f).bind fun z=>(two as).map fun q=>(z,q.1,q.2)
   |_::_=>none
 |_=>none
noncomputable def genG {t:Expr}:View t→Option (Str×Str)
 | .tuple ts _ _=>(two ts).bind fun q=>(nameOf q.1).bind fun i=>(nameOf q.2).map fun j=>(i,j)
 |_=>none
noncomputable def noIfs:List Expr→Bool
 | []=>true
 |_::_=>false
noncomputable def genQ (e:Expr):List Comprehension→Option GenQ
 | []=>none
 |g::r=>match r with
  |_::_=>none
  | []=>(genG (view g.target)).bind fun q=>(genI (view g.iter)).bind fun it=>iteO (noIfs g.ifs=true∧g.is_async=0) (genB q.1 q.2 it (view e))
noncomputable def genZ (V:EV) (g:GenQ):Option D:=(V.N g.z).bind fun zd=>(asTy zd).bind fun zn=>iteO (zn= "zip") ((V.E g.a).bind fun xd=>(asTup xd).bind fun xs=>(V.E g.b).bind fun yd=>(asTup yd).bind fun ys=>(intsOf xs).bind fun us=>(intsOf ys).bind fun vs=>iteO (us.length≤lim) (some (.tup ((us.zip vs).map fun(u,v)=> .int (u+v)))))
noncomputable def genT (V:EV) (nm:Names) (e:Expr) (gs:List Comprehension) (sc:Scope):Option D:=(genQ e gs).bind fun g=>iteO (nm.lookup genMark=some .local∧okGenScope sc g.i g.j=true) (genZ V g)
noncomputable def loneV (V:EV) (f:List D→Option D) (as:List Expr) {a:Expr}:View a→Option D
 | .name x _=>(V.o1 x).bind fun d=>f [d]
 |_=>(mapO V.E as).bind f
noncomputable def argE (V:EV) (as:List Expr) (f:List D→Option D):Option D:=match as with
 | []=>none
 |a::r=>match r with
  | []=>loneV V f as (view a)
  |_::_=>(mapO V.E as).bind f
noncomputable def someE (E:Ex1) (as:List Expr) (f:List D→Option D):Option D:=match as with
 | []=>none
 |_::_=>(mapO E as).bind f
noncomputable def itemsT (V:EV) (n:String) (as:List Expr) (bs:List Expr) (kw:List Keyword) (p:Pos) {f:Expr}:View f→Option D
 | .attr o m mp=>if n= "list" ∧m= "items" then(match bs with
     | []=>match kw with
       | []=>iteO (baseOk o=true∧mp.endLine=p.line) ((V.E o).bind fun d=>(asDict d).bind fun kvs=>iteO (kvs.length≤lim) (some (.list (kvs.map fun kv=> .tup [.str kv.1,kv.2]))))
       |_::_=>none
     |_::_=>none) else(mapO V.E as).bind (tyD n)
 |_=>(mapO V.E as).bind (tyD n)
noncomputable def tyV (V:EV) (nm:Names) (n:String) (as:List Expr) {a:Expr}:View a→Option D
 | .name x _=>(V.o1 x).bind fun d=>tyD n [d]
 | .gen e gs sc _=>iteO (n= "tuple") (genT V nm e gs sc)
 | .call f bs kw p=>itemsT V n as bs kw p (view f)
 |_=>(mapO V.E as).bind (tyD n)
noncomputable def tyE (V:EV) (nm:Names) (n:String) (as:List Expr):Option D:=match as with
 | []=>none
 |a::r=>match r with
  | []=>tyV V nm n as (view a)
  |_::_=>(mapO V.E as).bind (tyD n)
noncomputable def funE (C:Cfg) (V:EV) (nm:Names) (as:List Expr):D→Option D
 | .bi n=>argE V as (biD n)
 | .ty n=>tyE V nm n as
 | .obj a=>someE V.E as (C.F a)
 |_=>none
noncomputable def callV (C:Cfg) (V:EV) (nm:Names) (as:List Expr) (p:Pos) (f:Expr) {e:Expr}:View e→Option D
 | .attr o m ap=>iteO (baseOk o=true∧ap.endLine=p.line∧as.length<29) ((V.E o).bind (methE C V.E nm m as))
 |_=>iteO (isAttr f=false) ((V.E f).bind (funE C V nm as))
noncomputable def callE (C:Cfg) (V:EV) (nm:Names) (f:Expr) (as:List Expr) (kw:List Keyword) (p:Pos):Option D:=match kw with
 |_::_=>none
 | []=>callV C V nm as p f (view f)
noncomputable def unD:UnaryOp→D→Option D
 | .USub=>fun d=>(asInt d).map fun i=> .int (-i)
 |_=>fun ω=>none
noncomputable def evE (C:Cfg) (self:Ev) (nm:Names) (V:EV):Expr→Option D
 | .Constant c _ _=>constD c
 | .Name x _=>V.N x
 | .BinOp l op r _=>(V.E l).bind fun a=>(V.E r).bind (binD op a)
 | .UnaryOp op x _=>(V.E x).bind (unD op)
 | .IfExp t a b _=>(tstE V.E 8 t).bind fun c=>V.E (if c then a else b)
 | .BoolOp op vs _=>and2 V.E op vs
 | .Tuple es _ _=>iteO (es.length≤lim) ((mapO V.E es).map .tup)
 | .List es _=>iteO (es.length≤lim) ((mapO V.E es).map .list)
 | .Dict ks vs _=>dictE V.E ks vs
 | .Compare l ops rs _=>cmpE V l ops rs
 | .ListComp e gs sc _=>(gensE C self nm V gs sc fun s n ρ=>s n ρ e).map .list
 | .DictComp k v gs sc _=>(gensE C self nm V gs sc fun s n ρ=>kvE (s n ρ) k v).map fun kvs=> .dict (kvs.foldl (fun a kv=>putK a kv.1 kv.2) [])
 | .Attribute o a _=>attE C V o a
 | .Subscript v s _=>subE V v s
 | .Call f as kw p=>callE C V nm f as kw p
 |_=>none
noncomputable abbrev mkV (C:Cfg) (self:Ev) (nm:Names) (ρ:Rho):EV:=⟨self nm ρ,nameD C nm ρ,o1? ρ,o2? ρ,oi? ρ,fun ns=>captured ns ρ⟩
noncomputable def evStep (C:Cfg) (self:Ev):Ev:=fun nm ρ=>evE C self nm (mkV C self nm ρ)
noncomputable def ev (C:Cfg):Nat→Ev
 |0=>fun ω ω ω=>none
 |n+1=>evStep C (ev C n)
inductive Out where
 |next (ρ:Rho)
 |brk (ρ:Rho)
 |ret (d:D)
noncomputable def frzR (ρ:Rho) (xs:List Str):Rho:=ρ.map fun e=>if e.1∈xs then(e.1,.fr,e.2.2) else e
noncomputable abbrev Ex:=Names→Rho→Stmt→Option Out
noncomputable def exList (self:Ex) (nm:Names):Rho→List Stmt→Option Out
 |ρ,[]=>some (.next ρ)
 |ρ,s::r=>(self nm ρ s).bind fun o=>match o with
  | .next ρ'=>exList self nm ρ' r
  |o=>some o
noncomputable def exFor (self:Ex) (nm:Names) (t:Expr) (body:List Stmt):Rho→List D→Option Out
 |ρ,[]=>some (.next ρ)
 |ρ,d::r=>(bindT nm ρ t d).bind fun ρ'=>(exList self nm ρ' body).bind fun o=>match o with
  | .next ρ''=>exFor self nm t body ρ'' r
  | .brk ρ''=>some (.next ρ'')
  | .ret v=>some (.ret v)
structure Fn where
 params:List Str
 body:List Stmt
 names:Names
section
variable {α β:Type}{P:Prop}{b:β}
theorem ob {o:Option α}{f:α→Option β}(h:o.bind f=some b)(k: ∀a,o=some a→f a=some b→P):P:=match o,h with
 |none,h=>nomatch h
 |some a,h=>k a rfl h
theorem om {o:Option α}{f:α→β}(h:o.map f=some b)(k: ∀a,o=some a→f a=b→P):P:=match o,h with
 |none,h=>nomatch h
 |some a,h=>k a rfl (Option.some.inj h)
theorem oi {c:Prop}[d:Decidable c]{x:Option β}(h:iteO c x=some b)(k:c→x=some b→P):P:=match d,h with
 | .isTrue q,h=>k q h
 | .isFalse _,h=>nomatch h
theorem os {a b:β}(h:some a=some b)(k:a=b→P):P:=k (Option.some.inj h)
end
theorem el_inv {α δ:Type}{f:α→δ}{d:δ}{o:Option α}{i:α}(e:o.elim d f=d)(h:o=some i):d=f i:=e.symm.trans (h▸rfl)
section
variable {d:D}
theorem asInt_inv {i}(h:asInt d=some i):d= .int i:=el_inv (f:=D.int) (by cases d<;>rfl) h
theorem asStr_inv {i}(h:asStr d=some i):d= .str i:=el_inv (f:=D.str) (by cases d<;>rfl) h
theorem asBool_inv {i}(h:asBool d=some i):d= .bool i:=el_inv (f:=D.bool) (by cases d<;>rfl) h
theorem asTup_inv {i}(h:asTup d=some i):d= .tup i:=el_inv (f:=D.tup) (by cases d<;>rfl) h
theorem asList_inv {i}(h:asList d=some i):d= .list i:=el_inv (f:=D.list) (by cases d<;>rfl) h
theorem asDict_inv {i}(h:asDict d=some i):d= .dict i:=el_inv (f:=D.dict) (by cases d<;>rfl) h
theorem asTy_inv {i}(h:asTy d=some i):d= .ty i:=el_inv (f:=D.ty) (by cases d<;>rfl) h
theorem asSeq_inv {i}(h:asSeq d=some i):d= .tup i∨d= .list i:=by cases d<;>cases h<;>first|exact .inl rfl|exact .inr rfl
theorem one_inv {l:List D}(h:one? l=some d):l= [d]:=match l,h with
 | [_],h=>Option.some.inj h▸rfl
 | [],h=>nomatch h
 |_::_::_,h=>nomatch h
theorem two?_inv {l:List D}{e:D×D}(h:two? l=some e):l= [e.1,e.2]:=match l,h with
 | [],h=>nomatch h
 |_::_,h=>om h fun ω a b=>b▸one_inv a▸rfl
theorem two_inv {α:Type}{l:List α}{e:α×α}(h:two l=some e):l= [e.1,e.2]:=match l,h with
 | [_,_],h=>Option.some.inj h▸rfl
 | [],h=>nomatch h
 | [_],h=>nomatch h
 |_::_::_::_,h=>nomatch h
theorem nameOf_inv {e:Expr}{x:Str}(h:nameOf e=some x): ∃p,e= .Name x p:=by
 unfold nameOf at h
 generalize view e=v at h
 cases v with
 |name y p=>exact Option.some.inj h▸⟨p,rfl⟩
 |_=>exact ns h
theorem strConst_inv {e:Expr}{x:Str}(h:strConst e=some x): ∃k p,e= .Constant (.str x) k p:=by
 unfold strConst at h
 generalize view e=v at h
 cases v with
 |str y k p=>exact Option.some.inj h▸⟨k,p,rfl⟩
 |_=>exact ns h
theorem tagFr_inv {e:Tag×D}{d:D}(h:tagFr e=some d):e=(.fr,d):=match e,h with
 |(.fr,_),h=>Option.some.inj h▸rfl
 |(.o1,_),h=>nomatch h
 |(.o2,_),h=>nomatch h
 |(.oi,_),h=>nomatch h
end
end Mine
namespace Mine
open PySem PyProof.Rows
noncomputable def tabObj' (ps:Array Value):Obj:={cls:= .none,data:= .fields ps}
theorem tabObj_soft (ps:Array Value):Soft (tabObj' ps):=⟨rfl,ps,rfl⟩
noncomputable def Nx (P:Addr) (h':Heap) (b:Addr) (o:Obj):Prop:=h'.get? b=some o∨(b=P∧ ∃ps more,o=tabObj' ps∧h'.get? b=some (tabObj' (ps++more)))
noncomputable def Grow (P:Addr) (h h':Heap):Prop:= ∀b o,h.get? b=some o→Nx P h' b o
theorem tabObj_inj {ps qs:Array Value}(h:tabObj' ps=tabObj' qs):ps=qs:=Data.fields.inj (congrArg Obj.data h)
theorem Nx.trans {P h' h'' b o}(x:Nx P h' b o)(y: ∀o,h'.get? b=some o→Nx P h'' b o):Nx P h'' b o:=x.elim (fun e1=>y o e1) fun⟨r,ps,more,q,e1⟩=>
 (y _ e1).elim (fun e2=> .inr ⟨r,ps,more,q,e2⟩) fun z0=>by obtain⟨_,_,more',q',e2⟩:=z0;exact .inr ⟨r,ps,more++more',q,by rw[e2,←tabObj_inj q',Array.append_assoc]⟩
theorem Nx.hard {P h' b o}(x:Nx P h' b o)(n: ¬Soft o):h'.get? b=some o:=x.elim id fun z1=>by obtain⟨_,ps,_,q,_⟩:=z1;exact absurd (q▸tabObj_soft ps) n
theorem Nx.there {P h' b o}(x:Nx P h' b o): ∃o,h'.get? b=some o:=x.elim (fun y=>⟨_,y⟩) fun z2=>by obtain⟨_,_,_,_,y⟩:=z2;exact⟨_,y⟩
theorem Grow.kept {P h h'}(g:Grow P h h'):Kept h h':=fun b o e n=>(g b o e).hard n
theorem Grow.of {P h h'}(k: ∀b o,h.get? b=some o→h'.get? b=some o):Grow P h h':=fun b o e=> .inl (k b o e)
theorem Grow.trans {P h h' h''}(x:Grow P h h')(y:Grow P h' h''):Grow P h h'':=fun b o e=>(x b o e).trans (y b)
theorem Grow.there {P h h'}(g:Grow P h h'){a:Addr}(x: ∃o,h.get? a=some o): ∃o,h'.get? a=some o:=by obtain⟨o,e⟩:=x;exact(g a o e).there
noncomputable def TabI (W:Wd) (h:Heap):Prop:= ∃ps,h.IsCode W.cac W.Pac ps∧h.TableAt W.cac W.Pac ps
structure Stp (W:Wd)(s s':Shared):Prop where
 grow:Grow W.Pac s.heap s'.heap
 tab:TabI W s.heap→TabI W s'.heap
 os:s'.os=s.os
 bare:AllBare s.gens→AllBare s'.gens
 tk:s.toks≤s'.toks
structure Inv (W:Wd)(s:Shared):Prop where
 grow:Grow W.Pac W.T s.heap
 tab:TabI W s.heap
 bare:AllBare s.gens
section
variable {W:Wd}{s s' s'':Shared}{h h':Heap}{μ μ':Addr→Prop}{P:Addr}
theorem Stp.refl (s:Shared):Stp W s s:=⟨.of fun ω ω e=>e,id,rfl,id,Nat.le_refl _⟩
theorem Stp.trans (x:Stp W s s')(y:Stp W s' s''):Stp W s s'':=⟨x.grow.trans y.grow,fun t=>y.tab (x.tab t),y.os.trans x.os,fun t=>y.bare (x.bare t),Nat.le_trans x.tk y.tk⟩
theorem Stp.kept (x:Stp W s s'):Kept s.heap s'.heap:=x.grow.kept
theorem TabI.there (x:TabI W h):(∃o,h.get? W.cac=some o)∧ ∃o,h.get? W.Pac=some o:=by obtain⟨_,_,⟨_,_,e,_⟩,t⟩:=x;exact⟨⟨_,e⟩,⟨_,t⟩⟩
theorem TabI.at2 (x:TabI W h)(hk: ∀b o,h.get? b=some o→b=W.cac∨b=W.Pac→h'.get? b=some o):TabI W h':=by obtain⟨ps,a,b⟩:=x;exact⟨ps,a.at2 (fun o e=>hk _ o e (.inl rfl)) fun o e=>hk _ o e (.inr rfl),b.at2 (fun o e=>hk _ o e (.inl rfl)) fun o e=>hk _ o e (.inr rfl)⟩
theorem Stp.of (k: ∀b o,s.heap.get? b=some o→s'.heap.get? b=some o)(ho:s'.os=s.os)(hg:s'.gens=s.gens)(ht:s.toks≤s'.toks):Stp W s s':=
 ⟨.of k,fun x=>x.at2 fun b o e ω=>k b o e,ho,fun b=>hg▸b,ht⟩
theorem Stp.toks (t:Nat)(ht:s.toks≤t:=by first|assumption|exact Nat.le_refl _|exact Nat.le_succ _|omega):Stp W s {s with toks:=t}:= .of (fun ω ω e=>e) rfl rfl ht
theorem Stp.keep {h':Heap}{t:Nat}(k: ∀b o,s.heap.get? b=some o→h'.get? b=some o)(ht:s.toks≤t:=by first|assumption|exact Nat.le_refl _|exact Nat.le_succ _|omega):Stp W s {s with heap:=h',toks:=t}:= .of k rfl rfl ht
theorem Stp.push (o:Obj)(t:Nat)(ht:s.toks≤t:=by first|assumption|exact Nat.le_refl _|exact Nat.le_succ _|omega):Stp W s {s with heap:=s.heap.push o,toks:=t}:= .keep (fun ω ω e=>Heap.get?_push_of_some o e) ht
theorem Stp.but {h':Heap}{tk:Nat}(t:Stp W s s')(hk: ∀b o,s'.heap.get? b=some o→(∃o',s.heap.get? b=some o')→h'.get? b=some o)(ht:s'.toks≤tk:=by first|assumption|exact Nat.le_refl _|omega):Stp W s {s' with heap:=h',toks:=tk}:=
 ⟨fun b o e=>(t.grow b o e).elim (fun y=> .inl (hk _ _ y ⟨_,e⟩)) fun z3=>by obtain⟨y,ps,more,z1,z2⟩:=z3;exact .inr ⟨y,ps,more,z1,hk _ _ z2 ⟨_,e⟩⟩,
   fun q=>(t.tab q).at2 fun b o e hb=>hk b o e (hb.elim (fun r=>r▸q.there.1) fun r=>r▸q.there.2),t.os,t.bare,Nat.le_trans t.tk ht⟩
theorem Inv.step (i:Inv W s)(x:Stp W s s'):Inv W s':=⟨i.grow.trans x.grow,x.tab i.tab,x.bare i.bare⟩
structure MuOk (W:Wd)(μ:Addr→Prop)(h:Heap):Prop where
 lo: ∀a,μ a→ ∀o,W.T.get? a≠some o
 hi: ∀a,μ a→ ∃o,h.get? a=some o
theorem MuOk.step (m:MuOk W μ h)(g:Grow P h h'):MuOk W μ h':=⟨m.lo,fun a x=>g.there (m.hi a x)⟩
theorem MuOk.lt (m:MuOk W μ h){a:Addr}(x:μ a):a<h.objs.size:=by obtain⟨_,e⟩:=m.hi a x;exact Heap.lt_size e
theorem MuOk.fresh (m:MuOk W μ h){a:Addr}(x:h.objs.size≤a): ¬μ a:=fun q=>absurd (m.lt q) (Nat.not_lt.mpr x)
noncomputable def Holds (env:Env) (h:Heap) (x:Str) (v:Value):Prop:=
 (env.kindOf x=some .local∧ ∃m,h.Ns env.locals m∧m x=some v)∨(env.kindOf x=some .cell∧ ∃c,env.cells.lookup x=some c∧h.IsCell c (some v))
theorem Holds.kept {env:Env}{x v}(k:Kept h h'):Holds env h x v→Holds env h' x v
 | .inl ⟨a,m,b,c⟩=> .inl ⟨a,m,ns_kept b k,c⟩
 | .inr ⟨a,c,b,d⟩=> .inr ⟨a,c,b,cell_kept d k⟩
structure IsL (W:Wd)(h:Heap)(μ:Addr→Prop)(a:Addr)(vs:List Value)(ds:List D):Prop where
 l:h.IsList a vs.toArray
 r:RepL W h μ vs ds
structure IsD (W:Wd)(h:Heap)(μ:Addr→Prop)(a:Addr)(kvs:List (Str×Value))(ds:List (Str×D)):Prop where
 n:a≠sysModules
 d:h.DictOf (SK W) a kvs
 k:kvs.map (·.1)=ds.map (·.1)
 r:RepL W h μ (kvs.map (·.2)) (ds.map (·.2))
structure IsI (W:Wd)(h:Heap)(μ:Addr→Prop)(a C dx:Addr)(kvs:List (Str×Value))(ds:List (Str×D)):Prop where
 o:h.get? a=some (PySem.W.instObj C dx)
 d:h.Ns dx (fun x=>kvs.lookup x)
 k:kvs.map (·.1)=ds.map (·.1)
 r:RepL W h μ (kvs.map (·.2)) (ds.map (·.2))
theorem IsL.kept {a vs ds}(k:Kept h h')(x:IsL W h μ a vs ds):IsL W h' μ a vs ds:=⟨list_kept x.1 k,x.2.kept k⟩
theorem IsD.kept {a vs ds}(k:Kept h h')(x:IsD W h μ a vs ds):IsD W h' μ a vs ds:=⟨x.1,dictOf_kept x.2 k,x.3,x.4.kept k⟩
theorem IsI.kept {a C dx vs ds}(k:Kept h h')(x:IsI W h μ a C dx vs ds):IsI W h' μ a C dx vs ds:=⟨k _ _ x.1 (soft_cls fun q=>nomatch q),ns_kept x.2 k,x.3,x.4.kept k⟩
theorem IsL.mu {a vs ds}(k: ∀a o,h.get? a=some o→μ' a→μ a)(x:IsL W h μ a vs ds):IsL W h μ' a vs ds:=⟨x.1,x.2.mu k⟩
theorem IsD.mu {a vs ds}(k: ∀a o,h.get? a=some o→μ' a→μ a)(x:IsD W h μ a vs ds):IsD W h μ' a vs ds:=⟨x.1,x.2,x.3,x.4.mu k⟩
theorem IsI.mu {a C dx vs ds}(k: ∀a o,h.get? a=some o→μ' a→μ a)(x:IsI W h μ a C dx vs ds):IsI W h μ' a C dx vs ds:=⟨x.1,x.2,x.3,x.4.mu k⟩
inductive RepLs (W:Wd) (h:Heap) (μ:Addr→Prop) (v:Value) (d:D):Prop
 |mk (a:Addr) (vs ds) (e:v= .ref a) (f:d= .list ds) (x:IsL W h μ a vs ds)
inductive RepD (W:Wd) (h:Heap) (μ:Addr→Prop) (v:Value) (d:D):Prop
 |mk (a:Addr) (kvs ds) (e:v= .ref a) (f:d= .dict ds) (x:IsD W h μ a kvs ds)
inductive RepR (W:Wd) (h:Heap) (μ:Addr→Prop) (v:Value) (d:D):Prop
 |rep (r:Rep W h μ v d)
 |ls (r:RepLs W h μ v d)
 |dc (r:RepD W h μ v d)
inductive Rep2 (W:Wd) (h:Heap) (μ:Addr→Prop) (v:Value) (d:D):Prop
 |mk (a:Addr) (kvs:List (Str×Value)) (ds) (e:v= .ref a) (f:d= .dict ds) (n:a≠sysModules) (x:h.DictOf (SK W) a kvs) (l:kvs.map (·.1)=ds.map (·.1)) (r: ∀(i:Nat) v d,(kvs.map (·.2))[i]?=some v→(ds.map (·.2))[i]?=some d→RepD W h μ v d)
inductive RepI (W:Wd) (h:Heap) (μ:Addr→Prop) (v:Value) (d:D):Prop
 |mk (a:Addr) (C dx kvs fs) (e:v= .ref a) (f:d= .inst C fs) (x:IsI W h μ a C dx kvs fs)
noncomputable def RepO (W:Wd) (h:Heap) (μ:Addr→Prop):Tag→Value→D→Prop
 | .fr=>Rep W h μ
 | .o1=>RepR W h μ
 | .o2=>Rep2 W h μ
 | .oi=>RepI W h μ
section
variable {v:Value}{d:D}{t:Tag}
theorem RepLs.kept (k:Kept h h'):RepLs W h μ v d→RepLs W h' μ v d:=fun z4=>by obtain⟨a,b,c,e,f,g⟩:=z4;exact⟨a,b,c,e,f,g.kept k⟩
theorem RepLs.mu (k: ∀a o,h.get? a=some o→μ' a→μ a):RepLs W h μ v d→RepLs W h μ' v d:=fun z5=>by obtain⟨a,b,c,e,f,g⟩:=z5;exact⟨a,b,c,e,f,g.mu k⟩
theorem RepD.kept (k:Kept h h'):RepD W h μ v d→RepD W h' μ v d:=fun z6=>by obtain⟨a,b,c,e,f,g⟩:=z6;exact⟨a,b,c,e,f,g.kept k⟩
theorem RepD.mu (k: ∀a o,h.get? a=some o→μ' a→μ a):RepD W h μ v d→RepD W h μ' v d:=fun z7=>by obtain⟨a,b,c,e,f,g⟩:=z7;exact⟨a,b,c,e,f,g.mu k⟩
theorem RepR.kept (k:Kept h h'):RepR W h μ v d→RepR W h' μ v d
 | .rep r=> .rep (r.kept k)
 | .ls r=> .ls (r.kept k)
 | .dc r=> .dc (r.kept k)
theorem RepR.mu (k: ∀a o,h.get? a=some o→μ' a→μ a):RepR W h μ v d→RepR W h μ' v d
 | .rep r=> .rep (r.mu k)
 | .ls r=> .ls (r.mu k)
 | .dc r=> .dc (r.mu k)
theorem Rep2.kept (k:Kept h h'):Rep2 W h μ v d→Rep2 W h' μ v d:=fun z8=>by obtain⟨a,b,c,e,f,n,g,l,r⟩:=z8;exact⟨a,b,c,e,f,n,dictOf_kept g k,l,fun i v d p q=>(r i v d p q).kept k⟩
theorem Rep2.mu (k: ∀a o,h.get? a=some o→μ' a→μ a):Rep2 W h μ v d→Rep2 W h μ' v d:=fun z9=>by obtain⟨a,b,c,e,f,n,g,l,r⟩:=z9;exact⟨a,b,c,e,f,n,g,l,fun i v d p q=>(r i v d p q).mu k⟩
theorem RepI.kept (k:Kept h h'):RepI W h μ v d→RepI W h' μ v d:=fun z10=>by obtain⟨a,b,c,e,f,p,q,r⟩:=z10;exact⟨a,b,c,e,f,p,q,r.kept k⟩
theorem RepI.mu (k: ∀a o,h.get? a=some o→μ' a→μ a):RepI W h μ v d→RepI W h μ' v d:=fun z11=>by obtain⟨a,b,c,e,f,p,q,r⟩:=z11;exact⟨a,b,c,e,f,p,q,r.mu k⟩
theorem RepO.kept (k:Kept h h'):RepO W h μ t v d→RepO W h' μ t v d:=match t with
 | .fr=>Rep.kept k
 | .o1=>RepR.kept k
 | .o2=>Rep2.kept k
 | .oi=>RepI.kept k
theorem RepO.mu (k: ∀a o,h.get? a=some o→μ' a→μ a):RepO W h μ t v d→RepO W h μ' t v d:=match t with
 | .fr=>Rep.mu k
 | .o1=>RepR.mu k
 | .o2=>Rep2.mu k
 | .oi=>RepI.mu k
section
variable {Q:Value→Prop}
@[elab_as_elim] theorem RepR.list_elim {ds} (r:RepR W h μ v (.list ds)) (k: ∀a vs,IsL W h μ a vs ds→Q (.ref a)):Q v:=match r with
  | .rep r=>r.list_elim fun ω ω ω b c=>k _ _ ⟨b,c⟩
  | .ls ⟨_,_,_,e,f,g⟩=>e▸k _ _ (list_inj f▸g)
  | .dc ⟨_,_,_,_,f,_⟩=>nomatch f
@[elab_as_elim] theorem RepR.dict_elim {ds} (r:RepR W h μ v (.dict ds)) (k: ∀a vs,IsD W h μ a vs ds→Q (.ref a)):Q v:=match r with
  | .rep r=>r.dict_elim fun ω ω ω b c e f=>k _ _ ⟨b,c,e,f⟩
  | .ls ⟨_,_,_,_,f,_⟩=>nomatch f
  | .dc ⟨_,_,_,e,f,g⟩=>e▸k _ _ (dict_inj f▸g)
noncomputable def noLD:D→Bool
 | .list _=>false
 | .dict _=>false
 |_=>true
theorem RepR.out (r:RepR W h μ v d)(h1:noLD d=true):Rep W h μ v d:=match r with
 | .rep r=>r
 | .ls ⟨_,_,_,_,f,_⟩=>nomatch (congrArg noLD f).symm.trans h1
 | .dc ⟨_,_,_,_,f,_⟩=>nomatch (congrArg noLD f).symm.trans h1
end
end
noncomputable def See (W:Wd) (env:Env) (μ:Addr→Prop) (ρ:Rho) (h:Heap):Prop:= ∀x t d,ρ.lookup x=some (t,d)→ ∃v,Holds env h x v∧RepO W h μ t v d
structure EnvOk (env:Env)(nm:Names):Prop where
 names:env.scope.names=nm
 kind:env.scope.kind= .function
 glob:env.globals=mainGlobals
 bi:env.builtins=builtinsNs
 cel: ∀x,nm.lookup x=some .cell→ ∃c,env.cells.lookup x=some c
structure Room (A:Around)(k:Nat):Prop where
 handled:A.handled=none
 depth:A.depth+4*k+8<recursionLimit
 units:A.units+40*k+100<cLine
structure Cxt (W:Wd)(nm:Names)(env:Env)(μ:Addr→Prop)(ρ:Rho)(A:Around)(k:Nat)(s:Shared):Prop where
 ok:EnvOk env nm
 room:Room A k
 inv:Inv W s
 mu:MuOk W μ s.heap
 see:See W env μ ρ s.heap
 cel: ∀x c,env.cells.lookup x=some c→ ∃o,s.heap.get? c=some o
 code:nm.lookup genMark=some .local→env.code= .ref W.cac
 tk:nm.lookup txtMark=some .local→0<s.toks
theorem Stp.there (t:Stp W s s'){a:Addr}(h: ∃o,s.heap.get? a=some o): ∃o,s'.heap.get? a=some o:=t.grow.there h
theorem See.kept {env ρ}(x:See W env μ ρ h)(k:Kept h h'):See W env μ ρ h':=fun n t d e=>
 by obtain⟨v,a,b⟩:=x n t d e;exact⟨v,a.kept k,b.kept k⟩
theorem Cxt.step {nm env ρ A k}(x:Cxt W nm env μ ρ A k s)(q:Stp W s s'):Cxt W nm env μ ρ A k s':=
 ⟨x.ok,x.room,x.inv.step q,x.mu.step q.grow,x.see.kept q.kept,fun y c e=>q.there (x.cel y c e),x.code,fun h=>Nat.lt_of_lt_of_le (x.tk h) q.tk⟩
theorem none_of_size {a:Addr}(x:h.objs.size≤a):h.get? a=none:=Option.eq_none_iff_forall_ne_some.mpr fun ω e=>absurd (Heap.lt_size e) (Nat.not_lt.mpr x)
theorem not_there {a:Addr}(x:h.get? a=none)(y: ∃o,h.get? a=some o){Q:Prop}:Q:=by obtain⟨_,e⟩:=y;exact nomatch x.symm.trans e
theorem Grow.noneBack (g:Grow P h h'){a:Addr}(x:h'.get? a=none):h.get? a=none:=Option.eq_none_iff_forall_ne_some.mpr fun ω e=>not_there x (g.there ⟨_,e⟩)
theorem Cxt.more {nm env ρ A k}(x:Cxt W nm env μ ρ A k s)(q:Stp W s s')(h: ∀a,μ' a→μ a∨(s.heap.get? a=none∧ ∃o,s'.heap.get? a=some o)):Cxt W nm env μ' ρ A k s':=
 ⟨x.ok,x.room,x.inv.step q,⟨fun a m o e=>(h a m).elim (fun y=>x.mu.lo a y o e) fun y=>not_there y.1 (x.inv.grow.there ⟨_,e⟩),fun a m=>(h a m).elim (fun y=>(x.mu.step q.grow).hi a y) fun y=>y.2⟩,
   fun n t d e=>by obtain⟨v,a,b⟩:=x.see n t d e;exact⟨v,a.kept q.kept,(b.mu fun a o ho m=>(h a m).elim id fun y=>not_there y.1 ⟨_,ho⟩).kept q.kept⟩,fun y c e=>q.there (x.cel y c e),x.code,fun h=>Nat.lt_of_lt_of_le (x.tk h) q.tk⟩
noncomputable def freshE:Expr→D→Bool
 | .List ..,_=>true
 | .ListComp ..,_=>true
 | .BinOp _ op _ _,d=>match op with
   | .Add=>(asList d).isSome
   |_=>false
 | .Dict ..,_=>true
 | .DictComp ..,_=>true
 |_,_=>false
noncomputable def OwnAt (W:Wd) (h:Heap) (μ:Addr→Prop) (a:Addr):D→Prop
 | .list ds=> ∃vs:List Value,h.PlainList a vs.toArray∧RepL W h (fun b=>μ b∨b=a) vs ds
 | .dict ds=> ∃kvs:List (Str×Value),IsD W h (fun b=>μ b∨b=a) a kvs ds
 |_=>True
noncomputable def Owned (W:Wd) (μ:Addr→Prop) (s:Shared) (h:Heap) (v:Value) (d:D):Prop:=
 ∃a,v= .ref a∧s.heap.get? a=none∧OwnAt W h μ a d
theorem Owned.back {v d}{h:Heap}(g:Stp W s s')(x:Owned W μ s' h v d):Owned W μ s h v d:=by obtain⟨a,e,n,r⟩:=x;exact⟨a,e,g.grow.noneBack n,r⟩
noncomputable def No:Value→Shared→Prop:=fun ω ω=>False
theorem no {P:Value→Shared→Prop}: ∀(e:Value) (s:Shared),No e s→P e s:=fun ω ω x=>x.elim
structure Got (W:Wd)(μ:Addr→Prop)(e:Expr)(d:D)(s:Shared)(v:Value)(s':Shared):Prop where
 t:Stp W s s'
 r:Rep W s'.heap μ v d
 f:freshE e d=true→Owned W μ s s'.heap v d
noncomputable def EvOk (W:Wd) (env:Env) (μ:Addr→Prop) (A:Around) (e:Expr) (d:D) (s:Shared):Prop:=wpAny (MD W) A (eval e env) (Got W μ e d s) No s
noncomputable def EvS (W:Wd) (k:Nat) (self:Ev):Prop:=
 ∀nm ρ e d,self nm ρ e=some d→ ∀env μ A s,Cxt W nm env μ ρ A k s→EvOk W env μ A e d s
structure Post (W:Wd)(μ:Addr→Prop)(s:Shared)(d:D)(v:Value)(s':Shared):Prop where
 t:Stp W s s'
 r:Rep W s'.heap μ v d
noncomputable def Con (W:Wd) (k:Nat) (fa:Addr) (ds:List D) (d:D):Prop:=
 ∀A s μ vs,Room A k→Inv W s→MuOk W μ s.heap→RepL W s.heap μ vs ds→
  codeAny (MD W) A (.call (.ref fa) ⟨vs,[]⟩) (fun r s'=>Stp W s s'∧ ∃v,r= .ok (.ret v)∧Rep W s'.heap μ v d) s
section
variable {A:Around}{env:Env}{nm:Names}{ρ:Rho}{k:Nat}{e:Expr}{d:D}{E:Value→Shared→Prop}{Q:Value→Shared→Prop}
theorem EvOk.of (hf:freshE e d=false)(h:wpAny (MD W) A (eval e env) (Post W μ s d) No s):EvOk W env μ A e d s:=wpAny_mono h (fun ω ω x=>⟨x.1,x.2,fun q=>nomatch hf.symm.trans q⟩) no
theorem EvS.at_ {self:Ev}(S:EvS W k self)(h:self nm ρ e=some d)(c:Cxt W nm env μ ρ A k s)(q: ∀v s',Stp W s s'→Rep W s'.heap μ v d→Q v s'):wpAny (MD W) A (eval e env) Q E s:=
 wpAny_mono (S _ _ _ _ h _ _ _ _ c) (fun v s' x=>q v s' x.1 x.2) no
theorem Post.after {v:Value}(t:Stp W s s')(x:Post W μ s' d v s''):Post W μ s d v s'':=⟨t.trans x.1,x.2⟩
theorem load_held {x:Str}{v:Value}(hE:EnvOk env nm)(hv:Holds env s.heap x v)(h:Q v s):wpAny (MD W) A (loadName env x) Q E s:=match hv with
 | .inl ⟨a,_,b,c⟩=>wpAny_loadName_local hE.kind a b c h
 | .inr ⟨a,_,b,d⟩=>wpAny_loadName_cell hE.kind a b d h
end
end
end Mine
namespace Mine
open PySem PyProof.Rows
section
variable {W:Wd}{s s' s'':Shared}{μ:Addr→Prop}{A:Around}{v:Value}{d:D}{i:Int}{x:Str}{t:Tok}{n:Nat}{vs:List Value}{ds:List D}
theorem Post.val (r:Rep W s.heap μ v d):Post W μ s d v s:=⟨.refl _,r⟩
theorem Post.int {k}(ht:s.toks≤k:=by first|assumption|exact Nat.le_refl _|exact Nat.le_succ _|omega):Post W μ s (.int i) (.int i t) {s with toks:=k}:=⟨.toks _,.int _ _⟩
theorem Post.str {k}(ht:s.toks≤k:=by first|assumption|exact Nat.le_refl _|exact Nat.le_succ _|omega):Post W μ s (.str x) (.str x t) {s with toks:=k}:=⟨.toks _,.str _ _⟩
theorem RepL.keepP (r:RepL W s.heap μ vs ds)(o:Obj):RepL W (s.heap.push o) μ vs ds:=r.kept (Kept.push _ _)
theorem Post.newList (m:MuOk W μ s.heap)(r:RepL W s.heap μ vs ds):Post W μ s (.list ds) (.ref s.heap.objs.size) {s with heap:=s.heap.push {cls:= .type "list",data:= .seq vs.toArray n}}:=
 ⟨.push _ _,.list (m.fresh (Nat.le_refl _)) ⟨_,Heap.get?_push_size _ rfl,rfl,_,rfl⟩ (r.keepP _)⟩
theorem Post.newTup (m:MuOk W μ s.heap)(r:RepL W s.heap μ vs ds):Post W μ s (.tup ds) (.ref s.heap.objs.size) {s with heap:=s.heap.push {cls:= .type "tuple",data:= .seq vs.toArray n}}:=
 ⟨.push _ _,.tup (m.fresh (Nat.le_refl _)) ⟨_,Heap.get?_push_size _ rfl,rfl,_,rfl⟩ (r.keepP _)⟩
theorem Owned.newList {D':D}(r:RepL W s.heap μ vs ds)(h:s'.heap=s.heap.push {cls:= .type "list",data:= .seq vs.toArray})(e:D'= .list ds):Owned W μ s s'.heap (.ref s.heap.objs.size) D':=
 e▸h▸⟨_,rfl,none_of_size (Nat.le_refl _),_,⟨_,Heap.get?_push_size _ rfl⟩,r.newer _⟩
theorem lim_le:lim≤sizeLine:=by decide
theorem small_lt {i:Int}(h:small i=true):i.natAbs<1073741824:=of_decide_eq_true h
theorem small_hi {i:Int}(h:small i=true):i<2^63:=Int.lt_of_le_of_lt Int.le_natAbs (Int.ofNat_lt.mpr (Nat.lt_trans (small_lt h) (by decide)))
theorem small_lo {i:Int}(h:small i=true): -(2^63)≤i:=by have:=small_lt h;omega
theorem small_bits {i:Int}(h:small i=true):Builtin.Int.intBits i≤64:=by have:=small_lt h;exact intBits_le_64 (by omega) (by omega)
end
theorem RepL.rep {W h μ}{vs:List Value}{ds:List D}(r:RepL W h μ vs ds):(n:Nat)→RepL W h μ (List.replicate n vs).flatten (List.replicate n ds).flatten
 |0=> .nil
 |n+1=>r.append (r.rep n)
section
variable {W:Wd}{s s' s'':Shared}{μ:Addr→Prop}{A:Around}{E:Value→Shared→Prop}{Q:Value→Shared→Prop}{d:D}
theorem add_lists_raw {l b:Addr}{vs ws:List Value}(hl:s.heap.IsList l vs.toArray)(hb:s.heap.IsList b ws.toArray)
  (h:Q (.ref s.heap.objs.size) {s with heap:=s.heap.push {cls:= .type "list",data:= .seq (vs++ws).toArray}}) (hsz:vs.length+ws.length≤sizeLine):
  wpAny (MD W) A (binaryOp .Add (.ref l) (.ref b)) Q E s:=by
 obtain⟨⟨cls,dd,data,sl⟩,ho,hc,n,hd⟩:=id hl
 obtain⟨⟨cls2,dd2,data2,sl2⟩,ho2,hc2,n2,hd2⟩:=id hb
 simp only at hc hd hc2 hd2
 subst hc hd hc2 hd2
 have e:vs.toArray++ws.toArray=(vs++ws).toArray:=by simp
 refine concat_meets ⟨_,ho,rfl⟩ ⟨_,ho2,rfl⟩ noFill_list_add seq_list_add PySem.F.slot_list_add PySem.F.entry_list_add (PySem.F.args_list_add_2 _ _) (list_addW l b vs.toArray ws.toArray n n2 dd dd2 sl sl2 (by simpa using hsz)) ⟨ho,ho2,?_⟩
 rw[e]
 exact h
theorem add_tuples_raw {t b:Addr}{vs ws:List Value}(ht:IsTup s.heap t vs.toArray)(hb:IsTup s.heap b ws.toArray)
  (h0:vs= []→Q (.ref b) s) (h1:ws= []→Q (.ref t) s)
  (h2:Q (.ref s.heap.objs.size) {s with heap:=s.heap.push {cls:= .type "tuple",data:= .seq (vs++ws).toArray}})
  (hsz:vs.length+ws.length≤sizeLine):
  wpAny (MD W) A (binaryOp .Add (.ref t) (.ref b)) Q E s:=by
 obtain⟨⟨cls,dd,data,sl⟩,ho,hc,n,hd⟩:=id ht
 obtain⟨⟨cls2,dd2,data2,sl2⟩,ho2,hc2,n2,hd2⟩:=id hb
 simp only at hc hd hc2 hd2
 subst hc hd hc2 hd2
 have e:vs.toArray++ws.toArray=(vs++ws).toArray:=by simp
 by_cases hv:vs= []
 ·exact concat_meets ⟨_,ho,rfl⟩ ⟨_,ho2,rfl⟩ noFill_tuple_add seq_tuple_add PySem.F.slot_tuple_add PySem.F.entry_tuple_add (PySem.F.args_tuple_add_2 _ _)
   (tuple_addW0 t b vs.toArray ws.toArray n n2 dd dd2 sl sl2 (by simp[hv])) ⟨ho,ho2,h0 hv⟩
 ·by_cases hw:ws= []
  ·exact concat_meets ⟨_,ho,rfl⟩ ⟨_,ho2,rfl⟩ noFill_tuple_add seq_tuple_add PySem.F.slot_tuple_add PySem.F.entry_tuple_add (PySem.F.args_tuple_add_2 _ _)
    (tuple_addW1 t b vs.toArray ws.toArray n n2 dd dd2 sl sl2 (by simpa using hv) (by simp[hw])) ⟨ho,ho2,h1 hw⟩
  ·refine concat_meets ⟨_,ho,rfl⟩ ⟨_,ho2,rfl⟩ noFill_tuple_add seq_tuple_add PySem.F.slot_tuple_add PySem.F.entry_tuple_add (PySem.F.args_tuple_add_2 _ _)
    (tuple_addW2 t b vs.toArray ws.toArray n n2 dd dd2 sl sl2 (by simpa using hv) (by simpa using hw) (by rw[List.size_toArray,List.size_toArray];exact hsz)) ⟨ho,ho2,?_⟩
   rw[e]
   exact h2
theorem mul_list_raw {l:Addr}{vs:List Value}{x:Int}{u:Tok}(hl:s.heap.IsList l vs.toArray)
  (hlo: -(2^63:Int)≤x) (hhi:x<2^63) (hsz:vs.length*x.toNat≤2^24)
  (h:Q (.ref s.heap.objs.size) {s with heap:=s.heap.push {cls:= .type "list",data:= .seq (List.replicate x.toNat vs).flatten.toArray}}):
  wpAny (MD W) A (binaryOp .Mult (.ref l) (.int x u)) Q E s:=by
 obtain⟨⟨cls,d,data,sl⟩,ho,hcl,k,hd⟩:=id hl
 simp only at hcl hd
 subst hcl hd
 have hsz':vs.toArray.size*x.toNat≤2^24:=by simpa using hsz
 refine wpAny_binaryOp_repeat_ref (T:= "list") (U:= "int") (by decide) ⟨_,ho,rfl⟩ (fun s'=>typeIs_int s' x u) noFill_list_mul F.fills_int_mul F.slot_int_rmul repeat_list F.slot_int_index.lookup
  (call_meets F.slot_int_rmul (typeIs_int s x u) F.entry_int_rmul (F.args_int_rmul_2 _ _) (lm_int_rmul_list_any x u l vs.toArray k d sl)
    ⟨ho,rfl,⟨_,ho,rfl⟩,call_meets F.slot_list_mul ⟨_,ho,rfl⟩ F.entry_list_mul (F.args_list_mul_2 _ _)
      (lm_list_mul_any l vs.toArray k d sl x u (by simp[Builtin.List.listFitsIndex];omega) (by omega) (by simp[Builtin.List.listTooLong,sizeLine];omega))
      ⟨ho,?_⟩⟩)
 rw[listMul_foldl_if]
 exact h
theorem two_ints {a b:D}{va vb:Value}{f:Int→Int→Option D}{P:Value→Value→Prop}(e:intsD f a b=some d)(ra:Rep W s.heap μ va a)(rb:Rep W s.heap μ vb b)(k: ∀i j t u,f i j=some d→P (.int i t) (.int j u)):P va vb:=
 ob e fun ω e1 e=>ob e fun ω e2 e=>(asInt_inv e1▸ra:Rep W s.heap μ va (.int _)).int_elim fun ω=>(asInt_inv e2▸rb:Rep W s.heap μ vb (.int _)).int_elim fun ω=>k _ _ _ _ e
noncomputable abbrev BinOk (W:Wd) (A:Around) (μ:Addr→Prop) (s:Shared) (op:Operator) (va vb:Value) (d:D):Prop:=
 wpAny (MD W) A (binaryOp op va vb) (fun v s'=>Post W μ s d v s'∧(op= .Add→(asList d).isSome=true→Owned W μ s s'.heap v d)) No s
theorem BinOk.of {op va vb}(h:wpAny (MD W) A (binaryOp op va vb) (Post W μ s d) No s)(q:op= .Add→asList d=none):BinOk W A μ s op va vb d:=wpAny_mono h (fun ω ω x=>⟨x,fun e l=>nomatch (congrArg Option.isSome (q e)).symm.trans l⟩) no
theorem add_sound {a b:D}{va vb:Value}(m:MuOk W μ s.heap)(e:addD a b=some d)(ra:Rep W s.heap μ va a)(rb:Rep W s.heap μ vb b):BinOk W A μ s .Add va vb d:=by
 cases a with
 |int i=>exact om e fun j e1 e=>e▸ra.int_elim fun t=>(asInt_inv e1▸rb:Rep W s.heap μ vb (.int j)).int_elim fun u=> .of (add_int .int) fun ω=>rfl
 |str x=>exact ob e fun y e1 e=>oi e fun hl e=>os e fun e=>e▸ra.str_elim fun t=>(asStr_inv e1▸rb:Rep W s.heap μ vb (.str y)).str_elim fun u=> .of (wpAny_with_toks (Nat.le_refl _) (add_str (fun ω ω hk=> .str hk) (Nat.le_trans hl lim_le))) fun ω=>rfl
 |tup x=>
  exact ob e fun y e1 e=>oi e fun hl e=>os e fun e=>e▸ra.tup_elim fun a vs a1 a2 a3=>(asTup_inv e1▸rb:Rep W s.heap μ vb (.tup y)).tup_elim fun b ws b1 b2 b3=>
   .of (add_tuples_raw a2 b2 (fun q=> .val (by subst q;cases a3.nil_ds;exact .tup b1 b2 b3)) (fun q=> .val (by subst q;cases b3.nil_ds;rw[List.append_nil];exact .tup a1 a2 a3)) (Post.newTup m (a3.append b3)) (a3.1▸b3.1▸Nat.le_trans hl lim_le)) fun ω=>rfl
 |list x=>
  exact ob e fun y e1 e=>oi e fun hl e=>os e fun e=>e▸ra.list_elim fun a vs a1 a2 a3=>(asList_inv e1▸rb:Rep W s.heap μ vb (.list y)).list_elim fun b ws b1 b2 b3=>
   add_lists_raw a2 b2 ⟨Post.newList m (a3.append b3),fun ω ω=>Owned.newList (a3.append b3) rfl rfl⟩ (a3.1▸b3.1▸Nat.le_trans hl lim_le)
 |_=>first|exact nf e|exact ns e|cases e
theorem mul_sound {a b:D}{va vb:Value}(m:MuOk W μ s.heap)(e:mulD a b=some d)(ra:Rep W s.heap μ va a)(rb:Rep W s.heap μ vb b):wpAny (MD W) A (binaryOp .Mult va vb) (Post W μ s d) No s:=by
 cases a with
 |int i=>exact ob e fun j e1 e=>oi e fun hl e=>os e fun e=>e▸ra.int_elim fun t=>(asInt_inv e1▸rb:Rep W s.heap μ vb (.int j)).int_elim fun u=>P.mul_int .int (IntMulOk.of_left (small_bits (Bool.and_eq_true_iff.mp hl).1))
 |str x=>
  refine ob e fun n e1 e=>oi e fun hl e=>os e fun e=>e▸ra.str_elim fun t=>(asInt_inv e1▸rb:Rep W s.heap μ vb (.int n)).int_elim fun u=> ?_
  have h1:=of_decide_eq_true (Bool.and_eq_true_iff.mp hl).1
  have h2:=(Bool.and_eq_true_iff.mp hl).2
  refine wpAny_with_toks (Nat.le_refl _) (SB.mul ⟨?_,fun q1 q2=> ?_,fun q1 q2=>decide_eq_false (Nat.not_lt.mpr (Nat.le_trans h1 lim_le))⟩ fun ω ω hk=> .str hk)
  ·have:=small_hi h2;have:=small_lo h2;simp;omega
  ·have hx:x.length≤4194304:=Nat.le_trans (Nat.le_mul_of_pos_right _ (by omega)) h1
   have hn:=small_lt h2
   have:(8589934591:Int)≤(2^63 - 1) / n:=(Int.le_ediv_iff_mul_le (by omega)).mpr (by omega)
   omega
 |list l=>
  exact ob e fun n e1 e=>oi e fun hl e=>os e fun e=>e▸ra.list_elim fun a vs a1 a2 a3=>(asInt_inv e1▸rb:Rep W s.heap μ vb (.int n)).int_elim fun u=>
   mul_list_raw a2 (small_lo (Bool.and_eq_true_iff.mp hl).2) (small_hi (Bool.and_eq_true_iff.mp hl).2) (a3.1▸Nat.le_trans (of_decide_eq_true (Bool.and_eq_true_iff.mp hl).1) (by decide)) (Post.newList m (a3.rep _))
 |_=>first|exact nf e|exact ns e|cases e
theorem bin_sound {op:Operator}{a b:D}{va vb:Value}(m:MuOk W μ s.heap)(e:binD op a b=some d)(ra:Rep W s.heap μ va a)(rb:Rep W s.heap μ vb b):BinOk W A μ s op va vb d:=by
 cases op with
 |Add=>exact add_sound m e ra rb
 |Sub=>exact .of (two_ints (P:=fun v w=>wpAny (MD W) A (binaryOp .Sub v w) (Post W μ s d) No s) e ra rb fun i j t u e=>os e fun e=>e▸sub_int .int) fun q=>nomatch q
 |Mult=>exact .of (mul_sound m e ra rb) fun q=>nomatch q
 |FloorDiv=>exact .of (two_ints (P:=fun v w=>wpAny (MD W) A (binaryOp .FloorDiv v w) (Post W μ s d) No s) e ra rb fun i j t u e=>oi e fun hl e=>os e fun e=>e▸floordiv_int hl.1 .int (.inl (PyProof.noPylong_small (of_decide_eq_true hl.2)))) fun q=>nomatch q
 |Mod=>exact .of (two_ints (P:=fun v w=>wpAny (MD W) A (binaryOp .Mod v w) (Post W μ s d) No s) e ra rb fun i j t u e=>oi e fun hl e=>os e fun e=>e▸mod_int hl .int) fun q=>nomatch q
 |Pow=>
  refine .of (two_ints (P:=fun v w=>wpAny (MD W) A (binaryOp .Pow v w) (Post W μ s d) No s) e ra rb fun i j t u e=>oi e fun hl e=>os e fun e=>e▸pow_int hl.1 ?_ .int) fun q=>nomatch q
  have hb:Builtin.Int.intBits i≤64:=intBits_le_64 (by have:=hl.2.2;omega) (by have:=hl.2.2;omega)
  have:(Builtin.Int.intBits i:Int)*j≤64*64:=Int.mul_le_mul (by omega) hl.2.1 hl.1 (by decide)
  omega
 |_=>first|exact nf e|exact ns e|cases e
end
end Mine
namespace Mine
open PySem PyProof.Rows
section
variable {W:Wd}{s:Shared}{A:Around}{x y v:Value}{b r:Bool}
noncomputable def EqF (W:Wd) (A:Around) (s:Shared) (x y:Value) (b:Bool):Prop:=
 ∀(E:Value→Shared→Prop) (Q:Bool→Shared→Prop),Q b s→wpAny (MD W) A (eqBool x y) Q E s
noncomputable def RcF (W:Wd) (A:Around) (s:Shared) (op:CmpOp) (x y:Value) (b:Bool):Prop:=
 ∀(E:Value→Shared→Prop) (Q:Value→Shared→Prop),Q (.bool b) s→wpAny (MD W) A (richCompare op x y) Q E s
structure EqS (W:Wd)(A:Around)(s:Shared)(x y:Value)(b:Bool):Prop where
 self:x=y→b=true
 eq:EqF W A s x y b
structure EqT (A:Around)(s:Shared)(x y:Value)(b:Bool):Prop where
 self:x=y→b=true
 eq:SeqAt.EqAt A s x y b
structure Rc2 (W:Wd)(A:Around)(s:Shared)(x y:Value)(b:Bool):Prop where
 self:x=y→b=true
 eq:RcF W A s .Eq x y b
 ne:RcF W A s .NotEq x y (!b)
structure Rc3 (A:Around)(s:Shared)(x y:Value)(b:Bool):Prop where
 self:x=y→b=true
 eq:SeqAt.RcAt A s x y b
 ne:SeqAt.RcNeAt A s x y (!b)
theorem Rc2.eqS {l b:Addr}(h:Rc2 W A s (.ref l) (.ref b) r):EqS W A s (.ref l) (.ref b) r:=⟨h.self,if e:l=b then e▸h.self (congrArg _ e)▸SeqAt.EqAt.same (.ref l) PW W.w else fun E Q hq=>by
 unfold eqBool
 exact wpAny_holding (wpAny_ite_split (fun hab=>absurd (Value.ref.inj (eq_of_beq hab)) e) fun ω=>wpAny_bind (h.eq E _ (wpAny_truthy_bool hq)))⟩
theorem Rc3.eqT {l b:Addr}(h:Rc3 A s (.ref l) (.ref b) r):EqT A s (.ref l) (.ref b) r:=⟨h.self,if e:l=b then e▸h.self (congrArg _ e)▸SeqAt.EqAt.same (.ref l) else SeqAt.EqAt.of_refs e h.eq⟩
theorem Rc3.rc2 (h:Rc3 A s x y b):Rc2 W A s x y b:=⟨h.self,h.eq PW W.w,h.ne PW W.w⟩
noncomputable def rest (e:Nat→Bool) (n i:Nat):Bool:=((List.range n).drop i).all e
theorem rest_end (e:Nat→Bool){n i:Nat}(h:n≤i):rest e n i=true:=congrArg (List.all · e) (List.drop_of_length_le (Nat.le_trans (Nat.le_of_eq List.length_range) h))
theorem rest_step (e:Nat→Bool){n i:Nat}(h:i<n):rest e n i=(e i&&rest e n (i+1)):=by
 unfold rest
 rw[show(List.range n).drop i=i::(List.range n).drop (i+1) by simp[List.drop_eq_getElem_cons,h],List.all_cons]
theorem rest_all {e:Nat→Bool}{n:Nat}(h: ∀j,j<n→e j=true):rest e n 0=true:=List.all_eq_true.mpr fun j hj=>h j (List.mem_range.mp hj)
noncomputable def consB (b:Bool) (e:Nat→Bool):Nat→Bool
 |0=>b
 |j+1=>e j
theorem rest_cons (b:Bool)(e:Nat→Bool)(n:Nat):rest (consB b e) (n+1) 0=(b&&rest e n 0):=by
 unfold rest
 rw[List.drop_zero,List.drop_zero,List.range_succ_eq_map,List.all_cons,List.all_map]
 rfl
theorem zip_at {xs ys:Array Value}{x y:Value}{r:List (Value×Value)}{i:Nat}(h:(x,y)::r=(xs.toList.zip ys.toList).drop i):
  ∃(h1:i<xs.size) (h2:i<ys.size),x=xs[i]∧y=ys[i]∧r=(xs.toList.zip ys.toList).drop (i+1):=by
 have hlt:i<(xs.toList.zip ys.toList).length:=Nat.lt_of_not_le fun q=>nomatch h.trans (List.drop_of_length_le q)
 have hlt':i<xs.size∧i<ys.size:=by simpa [Nat.lt_min] using hlt
 rw[List.drop_eq_getElem_cons hlt] at h
 injection h with a b
 exact⟨hlt'.1,hlt'.2,by simpa using congrArg Prod.fst a,by simpa using congrArg Prod.snd a,b⟩
theorem zip_end {xs ys:Array Value}{i:Nat}(h: []=(xs.toList.zip ys.toList).drop i):min xs.size ys.size≤i:=by
 have:=List.drop_eq_nil_iff.mp h.symm
 rwa[List.length_zip] at this
theorem tuple_eq {l b:Addr}{items items2:Array Value}{n n2:Nat}{dd dd2:Option Addr}{sl sl2:Array (Option Value)}(e:Nat→Bool)
  {Q:Value→Shared→Prop} {E:Value→Shared→Prop}
  (hl:s.heap.get? l=some {cls:= .type "tuple",dict:=dd,data:= .seq items n,slots:=sl}) (hb:s.heap.get? b=some {cls:= .type "tuple",dict:=dd2,data:= .seq items2 n2,slots:=sl2})
  (he: ∀j (h1:j<items.size) (h2:j<items2.size),EqF W A s items[j] items2[j] (e j))
  (h:Q (.bool (rest e (min items.size items2.size) 0&&items.size==items2.size)) s):
  wpAny (MD W) A (Builtin.«tuple.__eq__» ⟨[.ref l,.ref b],[]⟩) (fun fin s'=> ∃v,fin= .done (.ret v)∧v≠ .notImplemented∧Q v s') E s:=by
 obtain⟨hp,g,d,tk,os⟩:=s
 have f2:=AutoSeq1.sub_tuple_tuple
 wp_walk using AutoSeq1.wpAny_loadPart' hl,AutoSeq1.wpAny_loadPart' hb,wpAny_forIn_list _ (fun r b s'=>b.1=none∧s'=⟨hp,g,d,tk,os⟩∧ ∃i,r=(items.toList.zip items2.toList).drop i∧
  Q (.bool (rest e (min items.size items2.size) i&&items.size==items2.size)) ⟨hp,g,d,tk,os⟩) _
 case turn=>
  rintro ⟨y,x⟩ r b s' ⟨hb',rfl,i,hz,hQ⟩
  obtain⟨h1,h2,rfl,rfl,hr⟩:=zip_at hz
  rw[rest_step e (Nat.lt_min.mpr ⟨h1,h2⟩)] at hQ
  refine wpAny_bind (he i h1 h2 _ _ ?_)
  cases hy:e i with
  |true=>
   rw[hy] at hQ
   wp_walk
   exact⟨rfl,rfl,i+1,hr,hQ⟩
  |false=>
   rw[hy] at hQ
   wp_walk
   exact⟨_,rfl,(fun q=>nomatch q),hQ⟩
 case fin=>
  rintro ⟨b1,b2⟩ s' ⟨hb',rfl,i,hz,hQ⟩
  simp only at hb'
  subst hb'
  rw[rest_end e (zip_end hz)] at hQ
  wp_walk
  exact⟨_,rfl,(fun q=>nomatch q),hQ⟩
 case h=>
  exact⟨rfl,rfl,0,rfl,h⟩
theorem tuple_ne {l b:Addr}{items items2:Array Value}{n n2:Nat}{dd dd2:Option Addr}{sl sl2:Array (Option Value)}(e:Nat→Bool)
  {Q:Value→Shared→Prop} {E:Value→Shared→Prop}
  (hl:s.heap.get? l=some {cls:= .type "tuple",dict:=dd,data:= .seq items n,slots:=sl}) (hb:s.heap.get? b=some {cls:= .type "tuple",dict:=dd2,data:= .seq items2 n2,slots:=sl2})
  (he: ∀j (h1:j<items.size) (h2:j<items2.size),EqF W A s items[j] items2[j] (e j))
  (h:Q (.bool (!(rest e (min items.size items2.size) 0&&items.size==items2.size))) s):
  wpAny (MD W) A (Builtin.«tuple.__ne__» ⟨[.ref l,.ref b],[]⟩) (fun fin s'=> ∃v,fin= .done (.ret v)∧v≠ .notImplemented∧Q v s') E s:=by
 obtain⟨hp,g,d,tk,os⟩:=s
 have f2:=AutoSeq1.sub_tuple_tuple
 wp_walk using AutoSeq1.wpAny_loadPart' hl,AutoSeq1.wpAny_loadPart' hb,wpAny_forIn_list _ (fun r b s'=>b.1=none∧s'=⟨hp,g,d,tk,os⟩∧ ∃i,r=(items.toList.zip items2.toList).drop i∧
  Q (.bool (!(rest e (min items.size items2.size) i&&items.size==items2.size))) ⟨hp,g,d,tk,os⟩) _
 case turn=>
  rintro ⟨y,x⟩ r b s' ⟨hb',rfl,i,hz,hQ⟩
  obtain⟨h1,h2,rfl,rfl,hr⟩:=zip_at hz
  rw[rest_step e (Nat.lt_min.mpr ⟨h1,h2⟩)] at hQ
  refine wpAny_bind (he i h1 h2 _ _ ?_)
  cases hy:e i with
  |true=>
   rw[hy] at hQ
   wp_walk
   exact⟨rfl,rfl,i+1,hr,hQ⟩
  |false=>
   rw[hy] at hQ
   wp_walk
   exact⟨_,rfl,(fun q=>nomatch q),hQ⟩
 case fin=>
  rintro ⟨b1,b2⟩ s' ⟨hb',rfl,i,hz,hQ⟩
  simp only at hb'
  subst hb'
  rw[rest_end e (zip_end hz)] at hQ
  wp_walk
  exact⟨_,rfl,(fun q=>nomatch q),hQ⟩
 case h=>
  exact⟨rfl,rfl,0,rfl,h⟩
noncomputable def Each (R:Value→Value→Bool→Prop) (vs us:List Value) (e:Nat→Bool):Prop:= ∀(j:Nat) v u,vs[j]?=some v→us[j]?=some u→R v u (e j)
theorem Each.arr {R:Value→Value→Bool→Prop}{vs us:List Value}{e:Nat→Bool}(h:Each R vs us e)(j:Nat)(h1:j<vs.toArray.size)(h2:j<us.toArray.size):R vs.toArray[j] us.toArray[j] (e j):=
 h j _ _ (List.getElem?_eq_getElem (Nat.lt_of_lt_of_eq h1 List.size_toArray)) (List.getElem?_eq_getElem (Nat.lt_of_lt_of_eq h2 List.size_toArray))
theorem Each.self {R:Value→Value→Bool→Prop}{vs:List Value}{e:Nat→Bool}(h:Each R vs vs e)(hr: ∀v b,R v v b→b=true):(rest e (min vs.length vs.length) 0&&vs.length==vs.length)=true:=
 Bool.and_eq_true_iff.mpr ⟨rest_all fun j q=>hr _ _ (h j _ _ (List.getElem?_eq_getElem (Nat.lt_of_lt_of_le q (Nat.min_le_left _ _))) (List.getElem?_eq_getElem _)),beq_self_eq_true _⟩
theorem tup_det {h:Heap}{a:Addr}{xs ys:List Value}(p:IsTup h a xs.toArray)(q:IsTup h a ys.toArray):xs=ys:=by
 obtain⟨_,e1,_,_,d1⟩:=p
 obtain⟨_,e2,_,_,d2⟩:=q
 exact congrArg Array.toList (Data.seq.inj (d1.symm.trans ((congrArg Obj.data (Option.some.inj (e1.symm.trans e2))).trans d2))).1
theorem list_det {h:Heap}{a:Addr}{xs ys:List Value}(p:h.IsList a xs.toArray)(q:h.IsList a ys.toArray):xs=ys:=by
 obtain⟨_,e1,_,_,d1⟩:=p
 obtain⟨_,e2,_,_,d2⟩:=q
 exact congrArg Array.toList (Data.seq.inj (d1.symm.trans ((congrArg Obj.data (Option.some.inj (e1.symm.trans e2))).trans d2))).1
theorem Rc2.tup {l b:Addr}{xs ys:List Value}{e:Nat→Bool}(hl:IsTup s.heap l xs.toArray)(hb:IsTup s.heap b ys.toArray)(hu:A.units<cLine)(he:Each (EqS W A.in1 s) xs ys e):
  Rc2 W A s (.ref l) (.ref b) (rest e (min xs.length ys.length) 0&&xs.length==ys.length):=by
 refine⟨fun q=> ?_,fun E Q q=> ?_,fun E Q q=> ?_⟩
 ·cases q
  cases tup_det hl hb
  exact he.self fun v b x=>x.self rfl
 all_goals
  obtain⟨⟨cls,dd,data,sl⟩,ho,hc,n,hd⟩:=id hl
  obtain⟨⟨cls2,dd2,data2,sl2⟩,ho2,hc2,n2,hd2⟩:=id hb
  simp only at hc hd hc2 hd2
  subst hc hd hc2 hd2
 ·exact wpAny_richCompare_same_room (op:= .Eq) hl.typeIs hb.typeIs F.slot_tuple_eq (wpAny_call_entry F.slot_tuple_eq hl.typeIs F.entry_tuple_eq
   (tuple_eq e ho ho2 (fun j h1 h2=>(he.arr j h1 h2).eq) q) (F.args_tuple_eq_2 _ _)) hu
 ·exact wpAny_richCompare_same_room (op:= .NotEq) hl.typeIs hb.typeIs F.slot_tuple_ne (wpAny_call_entry F.slot_tuple_ne hl.typeIs F.entry_tuple_ne
   (tuple_ne e ho ho2 (fun j h1 h2=>(he.arr j h1 h2).eq) q) (F.args_tuple_ne_2 _ _)) hu
theorem Rc3.tup {l b:Addr}{xs ys:List Value}{e:Nat→Bool}(hl:IsTup s.heap l xs.toArray)(hb:IsTup s.heap b ys.toArray)(hu:A.units<cLine)(he:Each (EqT A.in1 s) xs ys e):
  Rc3 A s (.ref l) (.ref b) (rest e (min xs.length ys.length) 0&&xs.length==ys.length):=
 ⟨fun q=>by
    cases q
    cases tup_det hl hb
    exact he.self fun v b x=>x.self rfl,SeqAt.RcAt.tuples hl hb hu fun j h1 h2=>(he.arr j h1 h2).eq,SeqAt.RcNeAt.tuples hl hb hu fun j h1 h2=>(he.arr j h1 h2).eq⟩
theorem Rc3.list {l b:Addr}{xs ys:List Value}{e:Nat→Bool}(hl:s.heap.IsList l xs.toArray)(hb:s.heap.IsList b ys.toArray)(hu:A.units<cLine)(hn:xs.length=ys.length)(he:Each (EqT A.in1 s) xs ys e):
  Rc3 A s (.ref l) (.ref b) (rest e (min xs.length ys.length) 0):=by
 rw[←hn,Nat.min_self]
 refine⟨fun q=> ?_,SeqAt.RcAt.lists hl hb hn hu fun j h1 h2=>(he.arr j h1 h2).eq,SeqAt.RcNeAt.lists hl hb hn hu fun j h1 h2=>(he.arr j h1 h2).eq⟩
 cases q
 cases list_det hl hb
 have:=(Bool.and_eq_true_iff.mp (he.self fun v b x=>x.self rfl)).1
 rwa[Nat.min_self] at this
theorem Rc3.lists {l b:Addr}{xs ys:List Value}(hl:s.heap.IsList l xs.toArray)(hb:s.heap.IsList b ys.toArray)(hu:A.units<cLine)(hn: ¬xs.length=ys.length):Rc3 A s (.ref l) (.ref b) false:=
 ⟨fun q=>by
    cases q
    cases list_det hl hb
    exact absurd rfl hn,SeqAt.RcAt.lists_lengths hl hb (bne_iff_ne.mpr hn) hu,SeqAt.RcNeAt.lists_lengths hl hb (bne_iff_ne.mpr hn) hu⟩
structure Fd (W:Wd)(A:Around)(s:Shared)(x y:Value)(b:Bool):Prop where
 eq:EqS W A s x y b
 rc:Rc2 W A s x y b
structure Fl (A:Around)(s:Shared)(x y:Value)(b:Bool):Prop where
 eq:EqT A s x y b
 rc:Rc3 A s x y b
theorem Fd.of (h:Fl A s x y b):Fd W A s x y b:=⟨⟨h.1.1,h.1.2 PW W.w⟩,h.2.rc2⟩
theorem Fl.int (i t j u):Fl A s (.int i t) (.int j u) (i==j):=
 have h:Value.int i t= .int j u→(i==j)=true:=fun q=>beq_iff_eq.mpr (Value.int.inj q).1
 ⟨⟨h,.int_int _ _ _ _⟩,⟨h,fun ω ω ω ω q=>P.eq_int q,fun ω ω ω ω q=>P.ne_int q⟩⟩
theorem Fl.str (i t j u):Fl A s (.str i t) (.str j u) (i==j):=
 have h:Value.str i t= .str j u→(i==j)=true:=fun q=>beq_iff_eq.mpr (Value.str.inj q).1
 ⟨⟨h,.str_str _ _ _ _⟩,⟨h,fun ω ω ω ω q=>PyProof.Rows.eq_str q,fun ω ω ω ω q=>PyProof.Rows.ne_str q⟩⟩
theorem Fl.bool (i j):Fl A s (.bool i) (.bool j) (i==j):=
 have h:Value.bool i= .bool j→(i==j)=true:=fun q=>beq_iff_eq.mpr (Value.bool.inj q)
 ⟨⟨h,.bool_bool _ _⟩,⟨h,fun ω ω ω ω q=>PyProof.Rows.eq_bool q,fun ω ω ω ω q=>PyProof.Rows.ne_bool q⟩⟩
theorem Fl.refs {l b:Addr}(h:Rc3 A s (.ref l) (.ref b) r):Fl A s (.ref l) (.ref b) r:=⟨h.eqT,h⟩
theorem Fd.refs {l b:Addr}(h:Rc2 W A s (.ref l) (.ref b) r):Fd W A s (.ref l) (.ref b) r:=⟨h.eqS,h⟩
end
section
variable {W:Wd}{h:Heap}{s:Shared}{μ μ':Addr→Prop}{d e:D}{r:Bool}{v y:Value}{A:Around}
theorem eqL_at {f:D→D→Option Bool}{R:Value→Value→Bool→Prop}(hf: ∀d e r v y,f d e=some r→Rep W h μ v d→Rep W h μ' y e→R v y r):
  ∀{a b:List D} {vs us:List Value} {r:Bool},eqL f a b=some r→RepL W h μ vs a→RepL W h μ' us b→ ∃e,Each R vs us e∧rest e (min vs.length us.length) 0=r
 | [],_,_,_,_,x,p,_=>p.nil_elim ⟨fun ω=>true,(fun ω ω ω q=>nomatch q),(rest_end _ (Nat.min_le_left _ _)).trans (Option.some.inj x)⟩
 |_::_,[],_,_,_,x,_,q=>q.nil_elim ⟨fun ω=>true,(fun ω ω ω ω q=>nomatch q),(rest_end _ (Nat.min_le_right _ _)).trans (Option.some.inj x)⟩
 |a::as,b::bs,_,_,_,x,p,q=>p.cons_elim fun v vs p1 p2=>q.cons_elim fun u us q1 q2=>ob x fun z x1 x=>om x fun w x2 x=>by
  obtain⟨e,e1,e2⟩:=eqL_at hf x2 p2 q2
  exact⟨consB z e,fun j=>match j with
   |0=>fun ω ω g1 g2=>Option.some.inj g1▸Option.some.inj g2▸hf _ _ _ _ _ x1 p1 q1
   |j+1=>e1 j,x▸e2▸((congrArg (rest _ · 0) (Nat.succ_min_succ _ _)).trans (rest_cons z e _))⟩
theorem eqTup_at {f:D→D→Option Bool}{R:Value→Value→Bool→Prop}(hf: ∀d e r v y,f d e=some r→Rep W h μ v d→Rep W h μ' y e→R v y r){a b:List D}{vs us:List Value}(x:eqTup f a b=some r)(p:RepL W h μ vs a)(q:RepL W h μ' us b)
  {P:Bool→Prop} (k: ∀e,Each R vs us e→P (rest e (min vs.length us.length) 0&&vs.length==us.length)):P r:=
 om x fun ω x1 x=>by obtain⟨e,e1,e2⟩:=eqL_at hf x1 p q;exact x▸e2▸p.1▸q.1▸k e e1
theorem in1_units {n:Nat}(h:A.units+(n+1)<cLine):A.in1.units+n<cLine:=by simp;omega
theorem units_lt {n:Nat}(h:A.units+n<cLine):A.units<cLine:=Nat.lt_of_le_of_lt (Nat.le_add_right _ _) h
theorem eqFlat_at: ∀n (A:Around) d e r v y,A.units+n<cLine→eqFlat n d e=some r→Rep W s.heap μ v d→Rep W s.heap μ' y e→Fl A s v y r
 |0,_,_,_,_,_,_,_,x,_,_=>nomatch x
 |n+1,A,d,e,r,v,y,hu,x,p,q=>by
  have ih:=fun d e r v y x p q=>(eqFlat_at n A.in1 d e r v y (in1_units hu) x p q).eq
  cases d with
  |int i=>exact om x fun j x1 x=>x▸p.int_elim fun t=>(asInt_inv x1▸q:Rep W s.heap μ' y (.int j)).int_elim fun u=> .int _ _ _ _
  |str i=>exact om x fun j x1 x=>x▸p.str_elim fun t=>(asStr_inv x1▸q:Rep W s.heap μ' y (.str j)).str_elim fun u=> .str _ _ _ _
  |bool i=>exact om x fun j x1 x=>x▸p.bool_elim ((asBool_inv x1▸q:Rep W s.heap μ' y (.bool j)).bool_elim (.bool _ _))
  |tup a=>exact ob x fun b x1 x=>p.tup_elim fun l vs ω a2 a3=>(asTup_inv x1▸q:Rep W s.heap μ' y (.tup b)).tup_elim fun m us ω b2 b3=>eqTup_at ih x a3 b3 fun e he=> .refs (.tup a2 b2 (units_lt hu) he)
  |list a=>
   exact ob x fun b x1 x=>p.list_elim fun l vs ω a2 a3=>(asList_inv x1▸q:Rep W s.heap μ' y (.list b)).list_elim fun m us ω b2 b3=>
    if hl:a.length=b.length then by obtain⟨e,e1,e2⟩:=eqL_at ih ((if_pos hl).symm.trans x) a3 b3;exact e2▸ .refs (.list a2 b2 (units_lt hu) (a3.1.trans (hl.trans b3.1.symm)) e1)
    else os ((if_neg hl).symm.trans x) fun x=>x▸ .refs (.lists a2 b2 (units_lt hu) fun q=>hl (a3.1.symm.trans (q.trans b3.1)))
  |_=>first|exact nf x|exact ns x|cases x
end
end Mine
namespace Mine
open PySem PyProof.Rows
section
variable {W:Wd}{s:Shared}{A:Around}{kb ka:List (Str×Value)}{k:Str}{v:Value}{r:Bool}{R:Value→Value→Bool→Prop}
inductive Look (R:Value→Value→Bool→Prop) (kb:List (Str×Value)) (k:Str) (v:Value):Bool→Prop
 |miss:valueAt kb k=none→Look R kb k v false
 |hit {y e}:valueAt kb k=some y→R v y e→Look R kb k v e
noncomputable def Hits (R:Value→Value→Bool→Prop) (kb:List (Str×Value)):List (Str×Value)→Bool→Prop
 | [],b=>b=true
 |kv::l,b=> ∃e,Look R kb kv.1 kv.2 e∧(e=false→b=false)∧(e=true→Hits R kb l b)
theorem arr_at {α:Type}{xs:Array α}{i:Nat}{x:α}(h:xs.toList[i]?=some x):xs[i]?=some x:=Array.getElem?_toList.symm.trans h
theorem pair_same {b:Addr}{ob:Obj}{fs fp}{key val:Value}{E:Value→Shared→Prop}{Q:Bool→Shared→Prop}(hob:s.heap.get? b=some ob)(hdb:ob.data= .dict fs fp)(hk:KeysOf (SK W) fs)(hp:Pairs (SK W) fs.toList kb)
  (hkey:(SK W).is k key=true) (l:Look (EqS W A s) kb k val r) (h:Q r s):
  wpAny (MD W) A (do
   let some j←PySem.dictFind b key ((SK W).hash k)|pure false
   let some f:=(←PySem.dictEntries b)[j]?|unsupported "internal:dict-equal"
   holding [f.val] (eqBool val f.val)) Q E s:=by
 refine wpAny_bind (wpAny_dictFind_of hkey hob hdb hk ?_)
 have hfi:fs.findIdx? (fun e=>(SK W).is k e.key)=fs.toList.findIdx? (fun e=>(SK W).is k e.key):=by cases fs;exact List.findIdx?_toArray _ _
 rw[hfi]
 cases hj:fs.toList.findIdx? (fun e=>(SK W).is k e.key) with
 |none=>
  have hv:valueAt kb k=none:=by rw[←hp.find k,List.find?_eq_none.mpr (fun x hx=>by simpa using List.findIdx?_eq_none_iff.mp hj x hx)];rfl
  cases l with
  |miss _=>exact wpAny_pure h
  |hit q _=>exact nomatch hv.symm.trans q
 |some j=>
  obtain⟨f,hf,_,hv⟩:=hp.at hj
  refine wpAny_bind (wpAny_dictEntries hob hdb ?_)
  rw[arr_at hf]
  cases l with
  |miss q=>exact nomatch hv.symm.trans q
  |hit q1 q2=>exact wpAny_holding ((Option.some.inj (q1.symm.trans hv)▸q2.eq) _ _ h)
theorem range_at {i n x:Nat}{rs:List Nat}(h:x::rs=List.range' i (n - i)):x=i∧i<n∧rs=List.range' (i+1) (n - (i+1)):=by
 have lt:i<n:=Nat.lt_of_not_le fun q=>nomatch h.trans (congrArg (List.range' i) (Nat.sub_eq_zero_of_le q))
 rw[show n - i=n - (i+1)+1 by omega,List.range'_succ] at h
 exact⟨(List.cons.inj h).1,lt,(List.cons.inj h).2⟩
theorem range_end {i n:Nat}(h: []=List.range' i (n - i)):n≤i:=Nat.sub_eq_zero_iff_le.mp (List.range'_eq_nil_iff.mp h.symm)
theorem same_pairs {nm:String}{a b:Addr}{Q:Bool→Shared→Prop}{E:Value→Shared→Prop}(ha:a≠sysModules)(hb:b≠sysModules)
  (da:s.heap.DictOf (SK W) a ka) (db:s.heap.DictOf (SK W) b kb) (hits:ka.length=kb.length→Hits (EqS W A s) kb ka r) (h0:ka.length≠kb.length→Q false s) (h1:ka.length=kb.length→Q r s):
  wpAny (MD W) A (Builtin.Dict.samePairs nm a b) Q E s:=by
 obtain⟨oa,es,ep,hoa,_,hda,hka,hpa,_⟩:=da
 obtain⟨ob,fs,fp,hob,_,hdb,hkb,hpb,_⟩:=db
 have na:es.size=ka.length:=Array.length_toList.symm.trans hpa.length
 have nb:fs.size=kb.length:=Array.length_toList.symm.trans hpb.length
 unfold Builtin.Dict.samePairs Builtin.Dict.showsAll
 rw[if_neg (by simpa using ha),if_neg (by simpa using hb)]
 refine wpAny_bind (wpAny_pure (wpAny_bind (wpAny_pure (wpAny_bind (wpAny_dictEntries hoa hda (wpAny_bind (wpAny_dictEntries hob hdb (wpAny_ite_split (fun q=>wpAny_bind (wpAny_rule (wpAny_pure (h0 fun z=>bne_iff_ne.mp q (na.trans (z.trans nb.symm)))))) fun q=> ?_))))))))
 have hn:es.size=fs.size:=by simpa using q
 rw[na,nb] at hn
 have h1:=h1 hn
 have hits:=hits hn
 refine wpAny_bind (wpAny_dictEpoch hoa hda (wpAny_bind ?_))
 rw[Std.Legacy.Range.forIn_eq_forIn_range']
 simp only[Std.Legacy.Range.size,Nat.sub_zero,Nat.add_sub_cancel,Nat.div_one]
 refine wpAny_forIn_list _ (fun rs q s'=>s'=s∧q=(none,())∧ ∃i,rs=List.range' i (es.size - i)∧Hits (EqS W A s) kb (ka.drop i) r) _ ?_ ?_ _ _ ⟨rfl,rfl,0,rfl,hits⟩
 ·rintro x rs q s' ⟨rfl,rfl,i,hr,hQ⟩
  obtain⟨rfl,lt,er⟩:=range_at hr
  have lt':=lt
  rw[na] at lt'
  rw[List.drop_eq_getElem_cons lt'] at hQ
  have g1:=Array.getElem?_eq_getElem lt
  have g2:=List.getElem?_eq_getElem lt'
  generalize es[x]=ex at g1
  generalize ka[x]=kv at g2 hQ
  obtain⟨e,l,q0,q1⟩:=hQ
  obtain⟨hkey,hval⟩:=hpa.get? (Array.getElem?_toList.trans g1) g2
  obtain⟨k',hk',hh⟩:=hka ex (Array.mem_of_getElem? g1)
  obtain rfl:k'=kv.1:=(SK W).inj _ _ _ hk' hkey
  refine wpAny_bind (wpAny_dictEntries hoa hda ?_)
  rw[g1]
  dsimp only
  rw[hh,hval]
  refine wpAny_bind (wpAny_holding (pair_same hob hdb hkb hpb hkey l ?_))
  cases e with
  |false=>exact wpAny_pure (wpAny_pure (q0 rfl▸h1))
  |true=>refine wpAny_bind (wpAny_dictEpoch hoa hda (wpAny_ite_split (fun z=>absurd z (by simp)) fun ω=>wpAny_pure ⟨rfl,rfl,x+1,er,q1 rfl⟩))
 ·rintro q s' ⟨rfl,rfl,i,hr,hQ⟩
  rw[List.drop_of_length_le (Nat.le_trans (Nat.le_of_eq na.symm) (range_end hr))] at hQ
  exact wpAny_pure (hQ▸h1)
theorem pairs_det {es:List DictEntry}{xs ys:List (Str×Value)}(p:Pairs (SK W) es xs):Pairs (SK W) es ys→xs=ys:=by
 induction p generalizing ys with
 |nil=>exact fun| .nil=>rfl
 |cons h1 h2 _ ih=>exact fun| .cons g1 g2 g3=>List.cons_eq_cons.mpr ⟨Prod.ext ((SK W).inj _ _ _ h1 g1) (h2.symm.trans g2),ih g3⟩
theorem dict_det {h:Heap}{a:Addr}{xs ys:List (Str×Value)}(p:h.DictOf (SK W) a xs)(q:h.DictOf (SK W) a ys):xs=ys:=by
 obtain⟨_,_,_,e1,_,d1,_,p1,_⟩:=p
 obtain⟨_,_,_,e2,_,d2,_,p2,_⟩:=q
 exact pairs_det p1 ((Data.dict.inj (d1.symm.trans ((congrArg Obj.data (Option.some.inj (e1.symm.trans e2))).trans d2))).1▸p2)
theorem dict_nodup {h:Heap}{a:Addr}{kvs:List (Str×Value)}(x:h.DictOf (SK W) a kvs):(kvs.map (·.1)).Nodup:=by obtain⟨_,_,_,_,_,_,_,_,hn⟩:=x;exact hn
theorem find_nodup {α:Type}{k:Str}{v:α}: ∀{l:List (Str×α)},(l.map (·.1)).Nodup→(k,v)∈l→l.find? (fun kv=>kv.1=k)=some (k,v)
 | [],_,e=>nomatch e
 |x::xs,hn,e=>by
  rw[List.find?_cons]
  cases e with
  |head=>rw[decide_eq_true rfl]
  |tail _ e=>
   have hne:x.1≠k:=fun q=>(List.nodup_cons.mp hn).1 (List.mem_map.mpr ⟨(k,v),e,q.symm⟩)
   rw[decide_eq_false hne]
   exact find_nodup (List.nodup_cons.mp hn).2 e
theorem valueAt_nodup (hn:(ka.map (·.1)).Nodup)(e:(k,v)∈ka):valueAt ka k=some v:=by unfold valueAt;rw[find_nodup hn e];rfl
theorem Hits.self (hn:(kb.map (·.1)).Nodup)(hr: ∀v b,R v v b→b=true): ∀{l:List (Str×Value)},Hits R kb l r→(∀kv,kv∈l→kv∈kb)→r=true
 | [],h,_=>h
 |kv::l,⟨e,lk,_,h⟩,m=>h (match e,lk with
  |_,.miss q=>nomatch (valueAt_nodup hn (m _ (.head _))).symm.trans q
  |_,.hit q q2=>hr _ _ (Option.some.inj (q.symm.trans (valueAt_nodup hn (m _ (.head _))))▸q2))|>.self hn hr fun ω x=>m _ (.tail _ x)
theorem Rc2.dict {a b:Addr}(ha:a≠sysModules)(hb:b≠sysModules)(da:s.heap.DictOf (SK W) a ka)(db:s.heap.DictOf (SK W) b kb)(hu:A.units<cLine)
  (hits:ka.length=kb.length→Hits (EqS W A.in1 s) kb ka r) (h0:ka.length≠kb.length→r=false):Rc2 W A s (.ref a) (.ref b) r:=by
 refine⟨fun q=> ?_,fun E Q q=> ?_,fun E Q q=> ?_⟩
 ·cases q
  cases dict_det da db
  exact(hits rfl).self (dict_nodup da) (fun v b x=>x.self rfl) fun ω x=>x
 ·refine wpAny_richCompare_same_room (op:= .Eq) da.typeIs db.typeIs F.slot_dict_eq (wpAny_call_entry F.slot_dict_eq da.typeIs F.entry_dict_eq ?_ (F.args_dict_eq_2 _ _)) hu
  show wpAny _ _ (Builtin.Dict.dictSlotArgs "__eq__" ⟨[.ref a,.ref b],[]⟩>>=_) _ _ s
  unfold Builtin.Dict.dictSlotArgs
  refine wpAny_bind (wpAny_bind (wpAny_notOrdered_dict da.typeIs ?_))
  refine wpAny_pure (a:=(Value.ref a,Value.ref b)) (wpAny_bind (wpAny_isInstance (T:= "dict") db.typeIs F.sub_dict_dict (wpAny_ite_split (fun z=>nomatch z) fun ω=>wpAny_bind (wpAny_pure (wpAny_bind (wpAny_pure (wpAny_bind (same_pairs ha hb da db hits ?_ ?_))))))))
  ·exact fun z=>wpAny_pure ⟨_,rfl,fun q=>(nomatch q),by cases h0 z;exact q⟩
  ·exact fun z=>wpAny_pure ⟨_,rfl,fun q=>(nomatch q),by cases r<;>exact q⟩
 ·refine wpAny_richCompare_same_room (op:= .NotEq) da.typeIs db.typeIs F.slot_dict_ne (wpAny_call_entry F.slot_dict_ne da.typeIs F.entry_dict_ne ?_ (F.args_dict_ne_2 _ _)) hu
  show wpAny _ _ (Builtin.Dict.dictSlotArgs "__ne__" ⟨[.ref a,.ref b],[]⟩>>=_) _ _ s
  unfold Builtin.Dict.dictSlotArgs
  refine wpAny_bind (wpAny_bind (wpAny_notOrdered_dict da.typeIs ?_))
  refine wpAny_pure (a:=(Value.ref a,Value.ref b)) (wpAny_bind (wpAny_isInstance (T:= "dict") db.typeIs F.sub_dict_dict (wpAny_ite_split (fun z=>nomatch z) fun ω=>wpAny_bind (wpAny_pure (wpAny_bind (wpAny_pure (wpAny_bind (same_pairs ha hb da db hits ?_ ?_))))))))
  ·exact fun z=>wpAny_pure ⟨_,rfl,fun q=>(nomatch q),by cases h0 z;exact q⟩
  ·exact fun z=>wpAny_pure ⟨_,rfl,fun q=>(nomatch q),by cases r<;>exact q⟩
end
section
variable {W:Wd}{h:Heap}{μ μ':Addr→Prop}{kvs:List (Str×Value)}{ds:List (Str×D)}{k:Str}{d:D}
theorem map_at {α β:Type}{l:List α}{f:α→β}{i:Nat}{x:β}(h:(l.map f)[i]?=some x): ∃a,l[i]?=some a∧f a=x:=Option.map_eq_some_iff.mp (List.getElem?_map.symm.trans h)
theorem find_rep: ∀{kvs:List (Str×Value)} {ds:List (Str×D)},kvs.map (·.1)=ds.map (·.1)→RepL W h μ (kvs.map (·.2)) (ds.map (·.2))→
  (valueAt kvs k=none∧getK ds k=none)∨ ∃v d,valueAt kvs k=some v∧getK ds k=some d∧Rep W h μ v d
 | [],[],_,_=> .inl ⟨rfl,rfl⟩
 | [],_::_,e,_=>nomatch e
 |_::_,[],e,_=>nomatch e
 |x::xs,y::ys,e,r=>by
  have e1:x.1=y.1:=(List.cons.inj e).1
  unfold valueAt getK
  rw[List.find?_cons,List.find?_cons,e1]
  cases decide (y.1=k) with
  |true=>exact .inr ⟨_,_,rfl,rfl,r.hd⟩
  |false=>exact find_rep (List.cons.inj e).2 r.tl
theorem valueAt_get (e:kvs.map (·.1)=ds.map (·.1))(r:RepL W h μ (kvs.map (·.2)) (ds.map (·.2)))(q:getK ds k=some d): ∃v,valueAt kvs k=some v∧Rep W h μ v d:=
 (find_rep e r).elim (fun x=>nomatch q.symm.trans x.2) fun z0=>by obtain⟨v,_,a,b,c⟩:=z0;exact⟨v,a,Option.some.inj (b.symm.trans q)▸c⟩
theorem any_key (e:kvs.map (·.1)=ds.map (·.1))(r:RepL W h μ (kvs.map (·.2)) (ds.map (·.2)))(k:Str):(valueAt kvs k).isSome=(getK ds k).isSome:=
 (find_rep e r).elim (fun x=>x.1▸x.2▸rfl) fun z2=>by obtain⟨_,_,a,b,_⟩:=z2;exact a▸b▸rfl
theorem getK_any {k:Str}:(getK ds k).isSome=ds.any fun kv=>kv.1=k:=by
 unfold getK
 rw[Option.isSome_map,Bool.eq_iff_iff,List.find?_isSome,List.any_eq_true]
end
section
variable {W:Wd}{s:Shared}{μ μ':Addr→Prop}{A:Around}{kb ka:List (Str×Value)}{a b:List (Str×D)}{R:Value→Value→Bool→Prop}
theorem eqK_at {f:D→D→Option Bool}(hf: ∀d e r v y,f d e=some r→Rep W s.heap μ v d→Rep W s.heap μ' y e→R v y r)(hk:kb.map (·.1)=b.map (·.1))(hr:RepL W s.heap μ' (kb.map (·.2)) (b.map (·.2))):
  ∀{a:List (Str×D)} {ka:List (Str×Value)} {r:Bool},eqK f a b=some r→ka.map (·.1)=a.map (·.1)→RepL W s.heap μ (ka.map (·.2)) (a.map (·.2))→Hits R kb ka r
 | [],[],_,x,_,_=>(Option.some.inj x).symm
 | [],_::_,_,_,e,_=>nomatch e
 |_::_,[],_,_,e,_=>nomatch e
 |x::a,y::ka,r,q,e,p=>by
  have he:y.1=x.1:=(List.cons.inj e).1
  have q:eqKo (f x.2) (eqK f a b) (getK b x.1)=some r:=q
  refine(find_rep (k:=x.1) hk hr).elim (fun g=>⟨false,.miss (he▸g.1),fun ω=> ?_,fun z=>nomatch z⟩) fun⟨v,d,g1,g2,g3⟩=> ?_
  ·rw[g.2] at q
   exact(Option.some.inj q).symm
  ·rw[g2] at q
   exact ob q fun z z1 q=>om q fun w z2 q=>⟨z,.hit (he▸g1) (hf _ _ _ _ _ z1 p.hd g3),fun z=>q▸congrArg (· &&w) z,fun z'=>q▸z'▸eqK_at hf hk hr z2 (List.cons.inj e).2 p.tl⟩
theorem eqD_at: ∀n (A:Around) d e r v y,A.units+n<cLine→eqD n d e=some r→Rep W s.heap μ v d→Rep W s.heap μ' y e→Fd W A s v y r
 |0,_,_,_,_,_,_,_,x,_,_=>nomatch x
 |n+1,A,d,e,r,v,y,hu,x,p,q=>by
  have ih:=fun d e r v y x p q=>(eqD_at n A.in1 d e r v y (in1_units hu) x p q).eq
  have fl:=fun x=>Fd.of (W:=W) (eqFlat_at (n+1) A d e r v y hu x p q)
  cases d with
  |tup a=>exact ob x fun b x1 x=>p.tup_elim fun l vs ω a2 a3=>(asTup_inv x1▸q:Rep W s.heap μ' y (.tup b)).tup_elim fun m us ω b2 b3=>eqTup_at ih x a3 b3 fun e he=> .refs (.tup a2 b2 (units_lt hu) he)
  |dict a=>
   refine ob x fun b x1 x=>p.dict_elim fun l ka ω a2 a3 a4 a5=>(asDict_inv x1▸q:Rep W s.heap μ' y (.dict b)).dict_elim fun m kb ω b2 b3 b4 b5=> .refs (.dict a2 b2 a3 b3 (units_lt hu) (fun z=> ?_) fun z=> ?_)
   all_goals
    have la:ka.length=a.length:=by simpa using congrArg List.length a4
    have lb:kb.length=b.length:=by simpa using congrArg List.length b4
   ·exact eqK_at ih b4 b5 ((if_pos (la.symm.trans (z.trans lb))).symm.trans x) a4 a5
   ·exact(Option.some.inj ((if_neg fun w=>z (la.trans (w.trans lb.symm))).symm.trans x)).symm
  |_=>exact fl x
theorem rc_eq {n:Nat}{A:Around}{d e:D}{r:Bool}{v y:Value}(x:eqD n d e=some r)(hu:A.units+n<cLine)(p:Rep W s.heap μ v d)(q:Rep W s.heap μ' y e):Rc2 W A s v y r:=(eqD_at n A _ _ _ _ _ hu x p q).rc
end
end Mine
namespace Mine
open PySem PyProof.Rows
section
variable {W:Wd}{s s' s'':Shared}{μ:Addr→Prop}{A:Around}{E:Value→Shared→Prop}{h h':Heap}{vs:List Value}{ds:List D}{r:Bool}
theorem mapOf_dict {a:Addr}{kvs:List (Str×Value)}(x:h.DictOf (SK W) a kvs):h.MapOf (SK W) a (valueAt kvs):=by
 obtain⟨o,es,ep,ho,hc,hd,hk,hp,_⟩:=x
 exact⟨o,es,ep,ho,hc,hd,hk,fun k=>by
  rw[←hp.find k]
  cases es
  exact congrArg (Option.map _) (List.find?_toArray _ _)⟩
@[elab_as_elim] theorem mapO_nil {α β:Type} {f:α→Option β} {r:List β} {P:List β→Prop} (h:mapO f []=some r) (k:P []):P r:=Option.some.inj h▸k
@[elab_as_elim] theorem mapO_cons {α β:Type} {f:α→Option β} {a:α} {l:List α} {r:List β} {P:List β→Prop} (h:mapO f (a::l)=some r) (k: ∀b bs,f a=some b→mapO f l=some bs→P (b::bs)):P r:=
  ob h fun b h1 h=>om h fun bs h2 h=>h▸k b bs h1 h2
theorem mapO_get {α β:Type}{f:α→Option β}: ∀{l:List α} {r:List β},mapO f l=some r→l.length=r.length∧ ∀(i:Nat) a,l[i]?=some a→ ∃b,r[i]?=some b∧f a=some b
 | [],_,h=>mapO_nil h ⟨rfl,fun ω ω e=>nomatch e⟩
 |_::_,_,h=>mapO_cons h fun b ω h1 h2=>⟨congrArg (· +1) (mapO_get h2).1,fun i=>match i with
  |0=>fun ω e=>⟨b,rfl,Option.some.inj e▸h1⟩
  |i+1=>(mapO_get h2).2 i⟩
theorem ints_of: ∀{ds vs l},RepL W h μ vs ds→intsOf ds=some l→ ∃xs:Array (Int×Tok),vs=(intItems xs).toList∧l=xs.toList.map (·.1)
 | [],_,_,r,e=>r.nil_elim (mapO_nil e ⟨#[],by simp[intItems],rfl⟩)
 |_::_,_,_,r,e=>r.cons_elim fun v vs a b=>mapO_cons e fun i is h1 h2=>(asInt_inv h1▸a:Rep W h μ v (.int i)).int_elim fun t=>by
  obtain⟨xs,g1,g2⟩:=ints_of b h2
  exact⟨((i,t)::xs.toList).toArray,by cases xs;rw[g1];simp[intItems],by rw[g2];rfl⟩
theorem strs_of: ∀{ds vs l},RepL W h μ vs ds→strsOf ds=some l→StrsAre vs l
 | [],_,_,r,e=>r.nil_elim (mapO_nil e .nil)
 |_::_,_,_,r,e=>r.cons_elim fun v vs a b=>mapO_cons e fun i is h1 h2=>(asStr_inv h1▸a:Rep W h μ v (.str i)).str_elim fun t=> .cons _ _ (strs_of b h2)
theorem repL_strs {vs:List Value}{l:List Str}(r:StrsAre vs l):RepL W h μ vs (l.map .str):=by
 induction r with
 |nil=>exact .nil
 |cons _ _ _ ih=>exact .cons (.str _ _) ih
structure Bo (W:Wd)(s:Shared)(r:Bool)(v:Value)(s':Shared):Prop where
 e:v= .bool r
 t:Stp W s s'
theorem Bo.here:Bo W s r (.bool r) s:=⟨rfl,.refl _⟩
theorem Bo.tok {k}(ht:s.toks≤k:=by first|assumption|exact Nat.le_succ _|omega):Bo W s r (.bool r) {s with toks:=k}:=⟨rfl,.toks _⟩
noncomputable def isI (i:Int):Value→Bool
 | .int j _=>j==i
 |_=>false
theorem anyInt (i:Int): ∀{xs:List (Int×Tok)},((xs.map fun p=>Value.int p.1 p.2).any (isI i))=(xs.map (·.1)).contains i
 | []=>rfl
 |p::xs=>by
  rw[List.map_cons,List.any_cons,List.map_cons,List.contains_cons,anyInt i,isI,BEq.comm]
theorem in_sound {a b:D}{va vb:Value}(e:inD a b=some r)(ra:Rep W s.heap μ va a)(rb:RepR W s.heap μ vb b):wpAny (MD W) A (compareOp .In va vb) (Bo W s r) No s:=by
 cases a with
 |str x=>
  refine ra.str_elim fun t=> ?_
  cases b with
  |str y=>exact os e fun e=>e▸(rb.out rfl).str_elim fun u=>in_str .here
  |dict kvs=>
   refine os e fun e=>rb.dict_elim fun c l g=>wpAny_in_of (strKind_is PW W.w _ _) (by simpa using g.n) (mapOf_dict g.d) ?_
   rw[any_key g.k g.r,getK_any,e]
   exact .tok
  |_=>first|exact nf e|exact ns e|cases e
 |int i=>
  refine ob e fun ds e1 e=>om e fun l e2 e=>ra.int_elim fun t=>(asTup_inv e1▸rb.out (asTup_inv e1▸rfl):Rep W s.heap μ vb (.tup ds)).tup_elim fun c vs ω h1 h2=> ?_
  obtain⟨⟨xs⟩,rfl,rfl⟩:=ints_of h2 e2
  have hx:(intItems ⟨xs⟩).toList=xs.map fun p=>Value.int p.1 p.2:=Array.toList_map
  rw[hx] at h1
  refine SeqAt.in_tupleAt (isI i) h1 (fun y hy=> ?_) ?_
  ·obtain⟨p,_,rfl⟩:=List.mem_map.mp (List.mem_toArray.mp hy)
   exact SeqAt.EqAt.int_int _ _ _ _
  ·rw[List.any_toArray,anyInt,e]
   exact .here
 |_=>first|exact nf e|exact ns e|cases e
theorem lt_sound {a b:D}{va vb:Value}(e:ltD a b=some r)(ra:Rep W s.heap μ va a)(rb:Rep W s.heap μ vb b):wpAny (MD W) A (compareOp .Lt va vb) (Bo W s r) No s∧wpAny (MD W) A (compareOp .Gt vb va) (Bo W s r) No s:=by
 cases a with
 |int i=>exact om e fun j e1 e=>e▸ra.int_elim fun t=>(asInt_inv e1▸rb:Rep W s.heap μ vb (.int j)).int_elim fun u=>⟨P.lt_int .here,P.gt_int .here⟩
 |str i=>exact om e fun j e1 e=>e▸ra.str_elim fun t=>(asStr_inv e1▸rb:Rep W s.heap μ vb (.str j)).str_elim fun u=>⟨lt_str .here,P.gt_str .here⟩
 |_=>first|exact nf e|exact ns e|cases e
theorem le_sound {a b:D}{va vb:Value}(e:leD a b=some r)(ra:Rep W s.heap μ va a)(rb:Rep W s.heap μ vb b):wpAny (MD W) A (compareOp .LtE va vb) (Bo W s r) No s∧wpAny (MD W) A (compareOp .GtE vb va) (Bo W s r) No s:=
 ob e fun i e1 e=>om e fun j e2 e=>e▸(asInt_inv e1▸ra:Rep W s.heap μ va (.int i)).int_elim fun t=>(asInt_inv e2▸rb:Rep W s.heap μ vb (.int j)).int_elim fun u=>⟨P.le_int .here,P.ge_int .here⟩
theorem is_bools {a b:Bool}:wpAny (MD W) A (compareOp .Is (.bool a) (.bool b)) (Bo W s (a==b)) No s:=wpAny_is_plain rfl (by cases a<;>cases b<;>exact .here)
theorem cmp_sound {op:CmpOp}{a b:D}{va vb:Value}(hu:A.units+8<cLine)(e:cmpD op a b=some r)(ra:Rep W s.heap μ va a)(rr:RepR W s.heap μ vb b)(rb:isIn op=false→Rep W s.heap μ vb b):wpAny (MD W) A (compareOp op va vb) (Bo W s r) No s:=by
 cases op with
 |Eq=>exact(rc_eq e hu ra (rb rfl)).eq _ _ .here
 |NotEq=>exact om e fun z e1 e=>e▸(rc_eq e1 hu ra (rb rfl)).ne _ _ .here
 |Lt=>exact(lt_sound e ra (rb rfl)).1
 |LtE=>exact(le_sound e ra (rb rfl)).1
 |Gt=>exact(lt_sound e (rb rfl) ra).2
 |GtE=>exact(le_sound e (rb rfl) ra).2
 |Is=>exact ob e fun i e1 e=>om e fun j e2 e=>e▸(asBool_inv e1▸ra:Rep W s.heap μ va (.bool i)).bool_elim ((asBool_inv e2▸rb rfl:Rep W s.heap μ vb (.bool j)).bool_elim is_bools)
 |In=>exact in_sound e ra rr
 |NotIn=>exact ob e fun i e1 e=>om e fun j e2 e=>e▸(asStr_inv e1▸ra:Rep W s.heap μ va (.str i)).str_elim fun t=>(asStr_inv e2▸rr.out (asStr_inv e2▸rfl):Rep W s.heap μ vb (.str j)).str_elim fun u=>notIn_str .here
 |_=>first|exact nf e|exact ns e|cases e
theorem noBool_match:typeLookup (.type "re.Match") "__bool__" =pure none:=by rw[typeLookup_type,builtinLookup_eq_fast];kernel_rfl
theorem noLen_match:typeLookup (.type "re.Match") "__len__" =pure none:=by rw[typeLookup_type,builtinLookup_eq_fast];kernel_rfl
theorem truth_match {a:Addr}{o:Obj}{Q:Bool→Shared→Prop}(ho:s.heap.get? a=some o)(hc:o.cls= .type "re.Match")(h:Q true s):wpAny (MD W) A (truthy (.ref a)) Q E s:=by
 have ht:s.TypeIs (.ref a) "re.Match" :=⟨o,ho,hc⟩
 unfold truthy
 refine wpAny_bind (wpAny_callSpecial?_none (name:=Str.ofString "__bool__") ht noBool_match ?_)
 refine wpAny_bind (wpAny_specialOf (name:=Str.ofString "__len__") ht noLen_match ?_)
 exact wpAny_pure h
structure Tr (W:Wd)(s:Shared)(r c:Bool)(s':Shared):Prop where
 e:c=r
 t:Stp W s s'
theorem truth_sound {d:D}{v:Value}(e:truthD d=some r)(q:Rep W s.heap μ v d):wpAny (MD W) A (truthy v) (Tr W s r) No s:=by
 cases d with
 |none=>exact os e fun e=>e▸q.none_elim (truthy_none ⟨rfl,.refl _⟩)
 |bool b=>exact os e fun e=>e▸q.bool_elim (wpAny_truthy_bool ⟨rfl,.refl _⟩)
 |mtch=>exact os e fun e=>e▸q.mtch_elim fun a o ω b c=>truth_match b c ⟨rfl,.refl _⟩
 |_=>first|exact nf e|exact ns e|cases e
end
end Mine
namespace Mine
open PySem PyProof.Rows
structure Plain (F:Ev):Prop where
 set: ∀nm ρ a b c,F nm ρ (.Set a b c)=none
 star: ∀nm ρ a b,F nm ρ (.Starred a b)=none
section
variable {W:Wd}{s s' s'':Shared}{μ:Addr→Prop}{A:Around}{E:Value→Shared→Prop}{nm:Names}{ρ:Rho}{env:Env}{k:Nat}{self:Ev}{C:Cfg}{p:Pos}{d:D}{e:Expr}{b:Bool}{x:Str}
theorem s_const {c:Const}{k0:Nat}(e:constD c=some d):EvOk W env μ A (.Constant c k0 p) d s:=by
 refine .of rfl ?_
 cases c with
 |none=>exact os e fun e=>e▸Constant_none ⟨.refl _,.none⟩
 |bool b=>exact os e fun e=>e▸Constant_bool ⟨.refl _,.bool _⟩
 |int i=>exact os e fun e=>e▸wpAny_Constant_int ⟨.toks _,.int _ _⟩
 |str i=>exact os e fun e=>e▸wpAny_Constant_str ⟨.toks _,.str _ _⟩
 |_=>first|exact nf e|exact ns e|cases e
inductive Glb (W:Wd):D→Value→Prop
 |obj {a o}:W.T.get? a=some o→ ¬Soft o→Glb W (.obj a) (.ref a)
 |ty (n):Glb W (.ty n) (.type n)
 |bi (n):PySem.W.handedIn (.builtin n)=true→Glb W (.bi n) (.builtin n)
theorem Glb.rep {v:Value}(g:Glb W d v)(c:Cxt W nm env μ ρ A k s):Rep W s.heap μ v d:=match g with
 | .obj ho hs=> .obj (c.inv.grow.kept _ _ ho hs) hs fun q=>c.mu.lo _ q _ ho
 | .ty n=> .ty n
 | .bi n h=> .bi n h
structure GlobOk (W:Wd)(C:Cfg):Prop where
 look: ∀x d,C.glob x=some d→ ∃v,(W.mg x=some v∨(W.mg x=none∧W.mb x=some v))∧Glb W d v
theorem dbg_of (h:x≠dbgN):(x==("__debug__" :Str))=false:=beq_false_of_ne h
theorem s_name (G:GlobOk W C)(e:nameD C nm ρ x=some d)(c:Cxt W nm env μ ρ A k s):EvOk W env μ A (.Name x p) d s:=by
 refine .of rfl ?_
 unfold nameD at e
 by_cases hx:x=dbgN
 ·exact nomatch (if_pos hx).symm.trans e
 ·have e:=(if_neg hx).symm.trans e
  by_cases hn:nm.lookup x=some .globalImplicit
  ·obtain⟨v,hv,hr⟩:=G.look x d ((if_pos hn).symm.trans e)
   refine Calls.Name_function_global c.ok.kind (c.ok.names▸hn:env.scope.names.lookup x=_) ?_ (dbg_of hx)
   have hg:s.heap.Ns env.globals W.mg:=c.ok.glob▸ns_kept W.g c.inv.grow.kept
   exact hv.elim (fun hv=>Calls.loadGlobal_global hg hv ⟨.refl _,hr.rep c⟩) fun hv=>Calls.loadGlobal_builtin hg hv.1 (c.ok.bi▸ns_kept W.b c.inv.grow.kept) hv.2 ⟨.refl _,hr.rep c⟩
  ·exact ob ((if_neg hn).symm.trans e) fun q hl e=>by
    obtain⟨_,hv,hr⟩:=c.see x .fr d (tagFr_inv e▸hl)
    exact wpAny_Name (load_held c.ok hv ⟨.refl _,hr⟩) (dbg_of hx)
theorem lk_inv {q:Tag×D}(h:lk ρ x=some q):x≠dbgN∧ρ.lookup x=some q:=by
 unfold lk at h
 by_cases hx:x=dbgN
 ·exact nomatch (if_pos hx).symm.trans h
 ·exact⟨hx,(if_neg hx).symm.trans h⟩
theorem s_nameR (h:o1? ρ x=some d)(c:Cxt W nm env μ ρ A k s){Q:Value→Shared→Prop}(hq: ∀v,RepR W s.heap μ v d→Q v s):wpAny (MD W) A (eval (.Name x p) env) Q E s:=ob h fun q h1 h2=>by
 have hl:=lk_inv h1
 obtain⟨t,d'⟩:=q
 obtain⟨v,hv,r⟩:=c.see x _ _ hl.2
 refine wpAny_Name (load_held c.ok hv (hq v ?_)) (dbg_of hl.1)
 cases t with
 |o1=>exact os h2 fun h2=>h2▸r
 |fr=>exact os h2 fun h2=>h2▸ .rep r
 |_=>first|exact nf h2|exact ns h2|cases h2
variable (S:EvS W k self)
include S
theorem s_bin {op:Operator}{l r:Expr}{a b d:D}(h1:self nm ρ l=some a)(h2:self nm ρ r=some b)(h3:binD op a b=some d)(c:Cxt W nm env μ ρ A k s):
  EvOk W env μ A (.BinOp l op r p) d s:=
 wpAny_BinOp (S.at_ h1 c fun va s₁ t1 r1=>S.at_ h2 (c.step t1) fun vb s₂ t2 r2=>wpAny_mono (bin_sound (c.mu.step (t1.trans t2).grow) h3 (r1.kept t2.kept) r2) (fun v s₃ z=>⟨(t1.trans t2).trans z.1.1,z.1.2,fun q=>by
  cases op with
  |Add=>exact(z.2 rfl q).back (t1.trans t2)
  |_=>cases q⟩) no)
theorem s_neg {op:UnaryOp}{e:Expr}{a:D}(h1:self nm ρ e=some a)(h2:unD op a=some d)(c:Cxt W nm env μ ρ A k s):EvOk W env μ A (.UnaryOp op e p) d s:=by
 cases op with
 |USub=>exact om h2 fun i h3 h2=>h2▸ .of rfl (UnaryOp_ (S.at_ h1 c fun v s₁ t r=>(asInt_inv h3▸r:Rep W s₁.heap μ v (.int i)).int_elim fun ω=>neg_int ⟨t.trans (.toks _),.int _ _⟩))
 |_=>first|exact nf h2|exact ns h2|cases h2
noncomputable abbrev TstOk (W:Wd) (env:Env) (A:Around) (e:Expr) (b:Bool) (s:Shared):Prop:=wpAny (MD W) A (isTrue e env (eval e env)) (Tr W s b) No s
omit S in
theorem Tr.after {r c:Bool}(t:Stp W s s')(x:Tr W s' r c s''):Tr W s r c s'':=⟨x.1,t.trans x.2⟩
theorem tst_truth (h:(self nm ρ e).bind truthD=some b)(c:Cxt W nm env μ ρ A k s){m:Value→Sem Bool}(hm: ∀v s₁,wpAny (MD W) A (truthy v) (Tr W s b) No s₁→wpAny (MD W) A (m v) (Tr W s b) No s₁)
  (he:isTrue e env (eval e env)=eval e env>>=m):TstOk W env A e b s:=ob h fun d h1 h2=>by
 unfold TstOk
 rw[he]
 exact wpAny_bind (S.at_ h1 c fun v s₁ t r=>hm v s₁ (wpAny_mono (truth_sound h2 r) (fun ω ω=> .after t) no))
omit S in
theorem tst_plain {E:Ex1}{n:Nat}(h:tstE E (n+1) e=some b)(q:plainT e=true):(E e).bind truthD=some b∧isTrue e env (eval e env)=eval e env>>=fun v=>(do standAt e.pos;holding [v] (truthy v)):=by
 cases e<;>first|exact nf q|exact⟨oi h fun ω h=>h,rfl⟩
omit S in
theorem all_sound {E:Ex1}{n:Nat}{op:BoolOp}(ih: ∀e b s,tstE E n e=some b→Cxt W nm env μ ρ A k s→TstOk W env A e b s): ∀{es b s},boolL op (es.map (tstE E n))=some b→Cxt W nm env μ ρ A k s→wpAny (MD W) A (allTrue op es env) (Tr W s b) No s
 | [],_,_,h,_=>os h fun h=>h▸wpAny_pure ⟨by cases op<;>rfl,.refl _⟩
 |e::es,b,s,h,c=>ob h fun z h1 h=>by
  refine wpAny_bind (wpAny_mono (ih _ _ _ h1 c) (fun z' s₁ x=> ?_) no)
  cases x.1
  cases op<;>cases z
  ·exact os h fun h=>h▸wpAny_pure ⟨rfl,x.2⟩
  ·exact wpAny_mono (all_sound ih h (c.step x.2)) (fun ω ω=> .after x.2) no
  ·exact wpAny_mono (all_sound ih h (c.step x.2)) (fun ω ω=> .after x.2) no
  ·exact os h fun h=>h▸wpAny_pure ⟨rfl,x.2⟩
theorem tst_sound: ∀n e b s,tstE (self nm ρ) n e=some b→Cxt W nm env μ ρ A k s→TstOk W env A e b s
 |0,_,_,_,h,_=>nomatch h
 |n+1,e,b,s,h,c=>by
  have ih:=tst_sound n
  cases hp:plainT e with
  |true=>exact tst_truth S (tst_plain (env:=env) h hp).1 c (fun v s₁ q=>wpAny_bind (wpAny_standAt (wpAny_holding q))) (tst_plain h hp).2
  |false=>
   cases e with
   |UnaryOp op x p=>
    refine oi h fun h1 h=>om h fun z h2 h=>h▸ ?_
    cases op with
    |Not=>exact isTrue_not (wpAny_mono (ih _ _ _ h2 c) (fun r s' y=>⟨congrArg _ y.1,y.2⟩) no)
    |_=>first|exact nf h1|exact ns h1|cases h1
   |BoolOp op vs p=>exact all_sound ih h c
   |Compare l ops rs p=>
    refine oi h fun h1 h=> ?_
    cases ops with
    |nil=>first|exact nf h1|exact ns h1|cases h1
    |cons op q=>cases q with
     |cons=>first|exact nf h1|exact ns h1|cases h1
     |nil=>cases rs with
      |nil=>first|exact nf h1|exact ns h1|cases h1
      |cons r q=>cases q with
       |cons=>first|exact nf h1|exact ns h1|cases h1
       |nil=>exact tst_truth S h c (m:=fun v=>holding [v] (truthy v)) (fun v s₁ q=>wpAny_holding q) (by rw[isTrue_Compare1,eval_Compare1];simp only[bind_assoc])
   |IfExp=>exact oi h fun h1 ω=>nomatch h1
   |_=>first|exact nf hp|exact ns hp|cases hp
theorem s_ifexp {t a b:Expr}(h:((tstE (self nm ρ) 8 t).bind fun c=>self nm ρ (if c then a else b))=some d)(c:Cxt W nm env μ ρ A k s):EvOk W env μ A (.IfExp t a b p) d s:=
 ob h fun r h1 h2=> .of rfl (IfExp_ (wpAny_mono (tst_sound S _ _ _ _ h1 c) (fun v s₁ x=>by
  cases x.1
  cases r<;>exact S.at_ h2 (c.step x.2) fun v s₂ t r=>⟨x.2.trans t,r⟩) no))
theorem s_and {op:BoolOp}{vs:List Expr}(h:and2 (self nm ρ) op vs=some d)(c:Cxt W nm env μ ρ A k s):EvOk W env μ A (.BoolOp op vs p) d s:=by
 cases op with
 |Or=>first|exact nf h|exact ns h|cases h
 |And=>cases vs with
  |nil=>first|exact nf h|exact ns h|cases h
  |cons a r=>cases r with
   |nil=>first|exact nf h|exact ns h|cases h
   |cons b r=>cases r with
    |cons=>first|exact nf h|exact ns h|cases h
    |nil=>
     refine ob h fun x h1 h=>ob h fun z h2 h=> .of rfl (BoolOp_and (S.at_ h1 c fun v s₁ t r=>(asBool_inv h2▸r:Rep W s₁.heap μ v (.bool z)).bool_elim (wpAny_truthy_bool ?_)))
     cases z
     ·exact os h fun h=>h▸⟨t,.bool _⟩
     ·exact BoolOp_one (S.at_ h (c.step t) fun v s₂ t2 r=>⟨t.trans t2,r⟩)
omit S in
structure PostL (W:Wd)(μ:Addr→Prop)(s:Shared)(ds:List D)(vs:List Value)(s':Shared):Prop where
 t:Stp W s s'
 r:RepL W s'.heap μ vs ds
theorem s_items (P:Plain self): ∀{es:List Expr} {ds:List D} {s:Shared},mapO (self nm ρ) es=some ds→Cxt W nm env μ ρ A k s→wpAny (MD W) A (spliced (backTo p (starEach es env))) (PostL W μ s ds) No s
 | [],_,_,h,_=>mapO_nil h (wpAny_items_nil ⟨.refl _,.nil⟩)
 |e::es,_,s,h,c=>mapO_cons h fun d ds h1 h2=>wpAny_items_cons (S.at_ h1 c fun v s₁ t r=>wpAny_mono (s_items P h2 (c.step t)) (fun vs s₂ y=>⟨t.trans y.1,.cons (r.kept y.1.kept) y.2⟩) no) (by
   cases e with
   |Starred=>exact nomatch (P.star ..).symm.trans h1
   |_=>rfl)
omit S in
theorem mapO_length {α β:Type}{f:α→Option β}{l:List α}{r:List β}(h:mapO f l=some r):l.length=r.length:=(mapO_get h).1
theorem s_tuple (P:Plain self){es:List Expr}{k0:Nat}(h:iteO (es.length≤lim) ((mapO (self nm ρ) es).map .tup)=some d)(c:Cxt W nm env μ ρ A k s):EvOk W env μ A (.Tuple es k0 p) d s:=
 oi h fun h0 h=>om h fun ds h1 h=>h▸ .of rfl (wpAny_Tuple (wpAny_mono (s_items S P h1 c) (fun vs s₁ x=>⟨x.2.1▸mapO_length h1▸Nat.le_trans h0 lim_le,.after x.1 (.newTup (c.mu.step x.1.grow) x.2)⟩) no))
theorem s_list (P:Plain self){es:List Expr}(h:iteO (es.length≤lim) ((mapO (self nm ρ) es).map .list)=some d)(c:Cxt W nm env μ ρ A k s):EvOk W env μ A (.List es p) d s:=
 oi h fun h0 h=>om h fun ds h1 h=>h▸wpAny_List (wpAny_mono (s_items S P h1 c) (fun vs s₁ x=>⟨x.2.1▸mapO_length h1▸Nat.le_trans h0 lim_le,
  let q:=Post.after x.1 (.newList (c.mu.step x.1.grow) x.2);⟨q.1,q.2,fun ω=>(Owned.newList x.2 rfl rfl).back x.1⟩⟩) no)
omit S in
theorem notMarks (P:Plain self){op:CmpOp}{r:Expr}(h:self nm ρ r=some d):behindInMarks op r=false:=by
 cases r with
 |Set=>exact nomatch (P.set ..).symm.trans h
 |_=>rfl
theorem s_compare (P:Plain self){ops:List CmpOp}{l:Expr}{rs:List Expr}(h:cmpE (mkV C self nm ρ) l ops rs=some d)(c:Cxt W nm env μ ρ A k s):EvOk W env μ A (.Compare l ops rs p) d s:=by
 cases ops with
 |nil=>first|exact nf h|exact ns h|cases h
 |cons op q=>cases q with
  |cons=>first|exact nf h|exact ns h|cases h
  |nil=>cases rs with
   |nil=>first|exact nf h|exact ns h|cases h
   |cons r q=>cases q with
    |cons=>first|exact nf h|exact ns h|cases h
    |nil=>
     refine ob h fun a h1 h=>ob h fun b h2 h=>om h fun z h3 h=>h▸ .of rfl ?_
     have fin: ∀va vb s₁ s₂,Stp W s s₁→Stp W s₁ s₂→Rep W s₁.heap μ va a→RepR W s₂.heap μ vb b→(isIn op=false→Rep W s₂.heap μ vb b)→wpAny (MD W) A (compareOp op va vb) (Post W μ s (.bool z)) No s₂:=fun va vb s₁ s₂ t1 t2 r1 r2 r3=>
      wpAny_mono (cmp_sound (by have:=c.room.units;omega) h3 (r1.kept t2.kept) r2 r3) (fun v s₃ z=>⟨t1.trans (t2.trans z.2),z.1▸ .bool _⟩) no
     have easy:self nm ρ r=some b→wpAny (MD W) A (eval (.Compare l [op] [r] p) env) (Post W μ s (.bool z)) No s:=fun h2=>wpAny_Compare1 (S.at_ h1 c fun va s₁ t1 r1=>S.at_ h2 (c.step t1) fun vb s₂ t2 r2=>fin _ _ _ _ t1 t2 r1 (.rep r2) fun ω=>r2) (notMarks P h2)
     unfold rhsE at h2
     cases hn:nameOf r with
     |none=>exact easy (by rw[hn] at h2;exact h2)
     |some x=>
      obtain⟨q,rfl⟩:=nameOf_inv hn
      cases hi:isIn op with
      |false=>exact easy (by rw[hn,rhsN,hi] at h2;exact h2)
      |true=>
       rw[hn,rhsN,hi] at h2
       exact wpAny_Compare1 (S.at_ h1 c fun va s₁ t1 r1=>s_nameR h2 (c.step t1) fun vb r2=>fin _ _ _ _ t1 (.refl _) r1 r2 fun z=>nomatch hi.symm.trans z) (by cases op<;>rfl)
end
end Mine
namespace Mine
open PySem PyProof.Rows
theorem seqIndex_inv {i:Int}{n j:Nat}{P:Prop}(h:seqIndex? i n=some j)(k1:0≤i→i.toNat=j→P)(k2:i<0→ -(n:Int)≤i→(i+n).toNat=j→P):P:=by
 unfold seqIndex? at h
 by_cases h0:i<0
 ·simp only[if_pos h0] at h
  by_cases h1:(decide (0≤i+(n:Int))&&decide (i+(n:Int)<n))=true
  ·have:=of_decide_eq_true (Bool.and_eq_true_iff.mp h1).1
   exact k2 h0 (by omega) (Option.some.inj ((if_pos h1).symm.trans h))
  ·exact nomatch (if_neg h1).symm.trans h
 ·simp only[if_neg h0] at h
  by_cases h1:(decide (0≤i)&&decide (i<n))=true
  ·exact k1 (of_decide_eq_true (Bool.and_eq_true_iff.mp h1).1) (Option.some.inj ((if_pos h1).symm.trans h))
  ·exact nomatch (if_neg h1).symm.trans h
section
variable {W:Wd}{s s' s'':Shared}{μ:Addr→Prop}{A:Around}{E:Value→Shared→Prop}{nm:Names}{ρ:Rho}{env:Env}{k:Nat}{self:Ev}{C:Cfg}{p:Pos}{a i d:D}{va vi:Value}
inductive CanGet (W:Wd) (A:Around) (s:Shared) (o i:Value) (Q:Value→Shared→Prop):Prop
 |mk (T id:String) (hT:s.TypeIs o T) (hl:typeLookup (.type T) "__getitem__" =pure (some (.builtin id))) (hg:wpAny (MD W) A (getItem o i) Q No s)
theorem CanGet.mono {o i:Value}{Q Q':Value→Shared→Prop}(h:CanGet W A s o i Q)(q: ∀v s',Q v s'→Q' v s'):CanGet W A s o i Q':=by obtain⟨T,id,a,b,c⟩:=h;exact⟨T,id,a,b,wpAny_mono c q no⟩
theorem sub_any {value slice:Expr}{pos:Pos}{Q:Value→Shared→Prop}(h:wpAny (MD W) A (eval value env) (fun o s₁=>wpAny (MD W) A (eval slice env) (fun i s₂=>CanGet W A s₂ o i Q) No s₁) No s):
  wpAny (MD W) A (eval (.Subscript value slice pos) env) Q No s:=
 Subscript_ (wpAny_mono h (fun o s₁ h₁=>wpAny_mono h₁ (fun i s₂ h₂=>by
  have hs: ∃ops,subscripted slice false o i=operate ops (getItem o i):=by
   cases slice with
   |Slice a b c p=>cases c<;>exact⟨_,rfl⟩
   |_=>exact⟨_,rfl⟩
  exact hs.elim fun ops hs=>by obtain⟨_,_,hT,hl,hg⟩:=h₂;exact tail_any hT hl hg hs) fun ω ω x=>x) fun ω ω x=>x)
theorem Inv.sys (i:Inv W s):s.heap.objs.size≠sysModules:=fun q=>by
 obtain⟨_,_,_,ho,_⟩:=ns_kept W.g i.grow.kept
 exact absurd (q▸Heap.lt_size ho) (by decide)
theorem list_item {l:Addr}{vs:List Value}{i:Int}{t:Tok}{j:Nat}{v:Value}{Q:Value→Shared→Prop}(hl:s.heap.IsList l vs.toArray)(hs:small i=true)(hj:seqIndex? i vs.length=some j)(hv:vs[j]?=some v)(h:Q v s):
  wpAny (MD W) A (getItem (.ref l) (.int i t)) Q E s:=
 have hv:vs.toArray[j]?=some v:=List.getElem?_toArray.trans hv
 seqIndex_inv hj (fun h0 e=>wpAny_getItem_list hl h0 (small_hi hs) (e▸hv) h) fun h0 h1 e=>wpAny_getItem_list_neg hl h0 h1 (small_lo hs) (e▸hv) h
theorem item_sound (e:itemD a i=some d)(ra:RepR W s.heap μ va a)(ri:Rep W s.heap μ vi i):CanGet W A s va vi (Post W μ s d):=by
 cases a with
 |tup ds=>
  exact ob e fun n e1 e=>oi e fun hs e=>ob e fun j hj hd=>(ra.out rfl).tup_elim fun b vs ω h1 h2=>(asInt_inv e1▸ri:Rep W s.heap μ vi (.int n)).int_elim fun t=>by
   obtain⟨v,hv,r⟩:=h2.get hd
   exact⟨_,_,h1.typeIs,slot_tuple_getitem.lookup,getItem_tuple h1 (small_lo hs) (small_hi hs) ((congrArg (seqIndex? n) h2.1).trans hj) (List.getElem?_toArray.trans hv) (.val r)⟩
 |list ds=>
  exact ob e fun n e1 e=>oi e fun hs e=>ob e fun j hj hd=>ra.list_elim fun b vs g=>(asInt_inv e1▸ri:Rep W s.heap μ vi (.int n)).int_elim fun t=>by
   obtain⟨v,hv,r⟩:=g.r.get hd
   exact⟨_,_,g.l.typeIs,PySem.slot_list_getitem.lookup,list_item g.l hs ((congrArg (seqIndex? n) g.r.1).trans hj) hv (.val r)⟩
 |str x=>
  exact ob e fun n e1 e=>oi e fun hs e=>om e fun c hc e=>e▸(ra.out rfl).str_elim fun t=>(asInt_inv e1▸ri:Rep W s.heap μ vi (.int n)).int_elim fun u=>
   ⟨_,_,typeIs_str _ _ _,F.slot_str_getitem.lookup,P.getItem_str (Bool.or_eq_false_iff.mpr ⟨decide_eq_false (Int.not_lt.mpr (small_lo hs)),decide_eq_false (Int.not_le.mpr (small_hi hs))⟩) hc .str⟩
 |dict kvs=>
  exact ob e fun x e1 e=>ra.dict_elim fun b l g=>(asStr_inv e1▸ri:Rep W s.heap μ vi (.str x)).str_elim fun t=>by
   obtain⟨v,hv,r⟩:=valueAt_get g.k g.r e
   exact⟨_,_,g.d.typeIs,PySem.slot_dict_getitem.lookup,wpAny_getItem_of (strKind_is PW W.w _ _) g.d.mapOf hv ⟨.toks _,r⟩⟩
 |_=>first|exact nf e|exact ns e|cases e
theorem filterMap_rep {h:Heap}{vs:List Value}{ds:List D}(r:RepL W h μ vs ds): ∀l:List Nat,RepL W h μ (l.filterMap (vs[·]?)) (l.filterMap (ds[·]?))
 | []=> .nil
 |i::l=>by
  have ih:=filterMap_rep r l
  rw[List.filterMap_cons,List.filterMap_cons]
  cases e:ds[i]? with
  |none=>
   rw[List.getElem?_eq_none (l:=vs) (r.1▸List.getElem?_eq_none_iff.mp e)]
   exact ih
  |some d=>
   obtain⟨v,hv,hr⟩:=r.get e
   rw[hv]
   exact .cons hr ih
structure PartOk (W:Wd)(s:Shared)(o:Option Int)(v:Value)(s':Shared):Prop where
 t:Stp W s s'
 p: ∃l,v=partValue l∧l.map (·.1)=o
theorem isPart (l:Option (Int×Tok)):IsPart (partValue l) (l.map (·.1)):=by cases l<;>constructor
variable (S:EvS W k self)
include S
theorem s_two {v j:Expr}(h:two2 (mkV C self nm ρ) v j=some d)(c:Cxt W nm env μ ρ A k s):EvOk W env μ A (.Subscript v j p) d s:=
 ob h fun a h1 h=>ob h fun b h2 h3=> .of rfl (sub_any (S.at_ h1 c fun va s₁ t1 r1=>S.at_ h2 (c.step t1) fun vb s₂ t2 r2=>(item_sound h3 (.rep (r1.kept t2.kept)) r2).mono fun ω ω=> .after (t1.trans t2)))
omit S in
theorem o2_see {x:Str}(h:o2? ρ x=some d)(c:Cxt W nm env μ ρ A k s){Q:Value→Shared→Prop}(hq: ∀v,Rep2 W s.heap μ v d→Q v s):wpAny (MD W) A (eval (.Name x p) env) Q E s:=ob h fun q h1 h2=>by
 have hl:=lk_inv h1
 obtain⟨t,d'⟩:=q
 obtain⟨v,hv,r⟩:=c.see x _ _ hl.2
 refine wpAny_Name (load_held c.ok hv (hq v ?_)) (dbg_of hl.1)
 cases t with
 |o2=>exact os h2 fun h2=>h2▸r
 |_=>first|exact nf h2|exact ns h2|cases h2
omit S in
@[elab_as_elim] theorem Rep2.get {h:Heap} {v:Value} {kvs:List (Str×D)} {y:Str} {d':D} {P:Value→Prop} (r:Rep2 W h μ v (.dict kvs)) (e:getK kvs y=some d') (k: ∀a l u,h.DictOf (SK W) a l→valueAt l y=some u→RepD W h μ u d'→P (.ref a)):P v:=by
  obtain⟨a,l,ds,rfl,f,_,hd,hk,hr⟩:=r
  cases f
  refine om e fun kv hf e=> ?_
  obtain⟨i,hi⟩:=List.getElem?_of_mem (List.mem_of_find?_eq_some hf)
  have hy:kv.1=y:=of_decide_eq_true (List.find?_some (p:=fun kv:Str×D=>decide (kv.1=y)) hf)
  obtain⟨u,hu,hu1⟩:=map_at ((congrArg (·[i]?) hk).trans (List.getElem?_map.trans (congrArg (Option.map (·.1)) hi)))
  exact k a l u.2 hd (valueAt_nodup (dict_nodup hd) (List.mem_of_getElem? (hu.trans (congrArg some (Prod.ext (hu1.trans hy) rfl))))) (e▸hr i _ _ (List.getElem?_map.trans (congrArg (Option.map (·.2)) hu)) (List.getElem?_map.trans (congrArg (Option.map (·.2)) hi)))
theorem s_subV {v j:Expr}{w:View v}(h:subV (mkV C self nm ρ) v j w=some d)(c:Cxt W nm env μ ρ A k s):EvOk W env μ A (.Subscript v j p) d s:=by
 cases w with
 |name x q=>exact ob h fun a h1 h=>ob h fun b h2 h3=> .of rfl (sub_any (s_nameR h1 c fun va ra=>S.at_ h2 c fun vb s₂ t2 r2=>(item_sound h3 (ra.kept t2.kept) r2).mono fun ω ω=> .after t2))
 |sub w k0 q=>
  have h:subN (mkV C self nm ρ) (.Subscript w k0 q) j k0 ((nameOf w).bind (o2? ρ))=some d:=h
  cases hn:(nameOf w).bind (o2? ρ) with
  |none=>exact s_two S (by rw[hn] at h;exact h) c
  |some dd=>
   rw[hn] at h
   refine ob hn fun x hx hn=>ob h fun kvs g1 h=>ob h fun e g2 h=>ob h fun y g3 h=>ob h fun b g4 h=>ob h fun d' g5 h5=> ?_
   obtain⟨px,rfl⟩:=nameOf_inv hx
   cases asDict_inv g1
   cases asStr_inv g3
   refine .of rfl (sub_any (sub_any (o2_see hn c fun v r=>S.at_ g2 c fun vi s₁ t1 ri=>ri.str_elim fun t=>(r.kept t1.kept).get g5 fun a l u hd hu hr=> .mk _ _ hd.typeIs PySem.slot_dict_getitem.lookup (wpAny_getItem_of (strKind_is PW W.w _ _) hd.mapOf hu ?_))))
   have t1:Stp W s {s₁ with toks:=s₁.toks+1}:=t1.trans (.toks _)
   exact S.at_ g4 (c.step t1) fun vb s₂ t2 r2=>(item_sound h5 (.dc (hr.kept t2.kept)) r2).mono fun ω ω=> .after (t1.trans t2)
 |_=>exact s_two S h c
theorem s_part {o:Option Expr}{a:Option Int}(h:sliceE (self nm ρ) o=some a)(c:Cxt W nm env μ ρ A k s):wpAny (MD W) A (evalPart o env) (PartOk W s a) No s:=by
 cases o with
 |none=>exact os h fun h=>h▸wpAny_pure ⟨.refl _,none,rfl,rfl⟩
 |some e=>exact ob h fun b h1 h=>ob h fun i h2 h=>oi h fun ω h=>os h fun h=>h▸S.at_ h1 c fun v s₁ t r=>⟨t,(asInt_inv h2▸r:Rep W s₁.heap μ v (.int i)).int_elim fun t=>⟨some (i,t),rfl,rfl⟩⟩
theorem s_slice {v:Expr}{x y z:Option Expr}{q:Pos}(h:subS (mkV C self nm ρ) v (.Slice x y z q) (.slice x y z q)=some d)(c:Cxt W nm env μ ρ A k s):EvOk W env μ A (.Subscript v (.Slice x y z q) p) d s:=
 ob h fun a h1 h=>ob h fun ia h2 h=>ob h fun ib h3 h=> .of rfl (sub_any (S.at_ h1 c fun va s₁ t1 r1=>wpAny_Slice (wpAny_mono (s_part S h2 (c.step t1)) (fun v1 s₂ x1=>wpAny_mono (s_part S h3 (c.step (t1.trans x1.1))) (fun v2 s₃ x2=>by
  have c3:=c.step (t1.trans (x1.1.trans x2.1))
  have t3:=x1.1.trans x2.1
  obtain⟨_,l1,rfl,rfl⟩:=x1
  obtain⟨_,l2,rfl,rfl⟩:=x2
  cases a with
  |list l=>
   refine ob h fun ic h4 h=>om h fun r h5 h=>h▸wpAny_mono (s_part S h4 c3) (fun v3 s₄ x3=> ?_) no
   have t4:=t3.trans x3.1
   have t5:=t1.trans t4
   obtain⟨_,l3,rfl,rfl⟩:=x3
   unfold sliceL at h5
   by_cases hc:l3.map (·.1)=some 0∨lim<l.length
   ·exact nomatch (if_pos hc).symm.trans h5
   ·have h5:=Option.some.inj ((if_neg hc).symm.trans h5)
    refine r1.list_elim fun m vs ω g2 g3=> ?_
    have hl:=(list_kept g2 t4.kept).push {cls:= .type "slice",data:= .fields #[partValue l1,partValue l2,partValue l3]}
    refine⟨_,_,hl.typeIs,PySem.slot_list_getitem.lookup,wpAny_getItem_list_slice hl (Heap.IsSliceOf.new ..) (isPart l1) (isPart l2) (isPart l3) (fun q=>hc (.inl q)) ?_ (List.size_toArray▸g3.1▸Nat.le_trans (Nat.le_of_not_lt fun q=>hc (.inr q)) lim_le)⟩
    have hr:=filterMap_rep (g3.kept t4.kept) (sliceRange (sliceBounds (l1.map (·.1)) (l2.map (·.1)) (l3.map (·.1)) l.length).1 (sliceBounds (l1.map (·.1)) (l2.map (·.1)) (l3.map (·.1)) l.length).2.1 (sliceBounds (l1.map (·.1)) (l2.map (·.1)) (l3.map (·.1)) l.length).2.2)
    have t6:=t5.trans (Stp.push {cls:= .type "slice",data:= .fields #[partValue l1,partValue l2,partValue l3]} s₄.toks)
    have g:=Post.after t6 (.newList (n:=0) (c.mu.step t6.grow) (RepL.keepP (s:=s₄) hr _))
    unfold slicePick
    rw[←h5]
    simp only[List.size_toArray,g3.1,List.getElem?_toArray]
    exact g
  |str w=>
   cases z with
   |some _=>first|exact nf h|exact ns h|cases h
   |none=>
    refine oi h fun h5 h=>os h fun h=>h▸wpAny_pure (r1.str_elim fun t=>⟨_,_,typeIs_str _ _ _,F.slot_str_getitem.lookup,?_⟩)
    exact wpAny_with_toks (Nat.le_refl _)<|wpAny_getItem_str_slice (l:=l1) (u:=l2) (st:=none) ⟨_,Heap.get?_push_size _ rfl,rfl,rfl⟩ rfl (post_val_or_str ⟨Nat.le_trans (Txt.slice_le w _ _) (Nat.le_trans h5 lim_le),fun t' k0 hk=>⟨(t1.trans t3).trans (.push _ _),.str _ _⟩⟩)
  |_=>cases h) no) no)))
theorem s_sub {v j:Expr}(h:subE (mkV C self nm ρ) v j=some d)(c:Cxt W nm env μ ρ A k s):EvOk W env μ A (.Subscript v j p) d s:=by
 unfold subE at h
 generalize view j=w at h
 cases w with
 |slice=>exact s_slice S h c
 |_=>exact s_subV S h c
theorem s_dict {ks:List (Option Expr)}{vs:List Expr}(h:dictE (self nm ρ) ks vs=some d)(c:Cxt W nm env μ ρ A k s):EvOk W env μ A (.Dict ks vs p) d s:=by
 have hne:=c.inv.sys
 cases ks with
 |nil=>cases vs with
  |nil=>exact os h fun h=>h▸wpAny_Dict_empty ⟨.push _ _,.dict (c.mu.fresh (Nat.le_refl _)) hne (Heap.DictOf.new _) rfl .nil,fun ω=>⟨_,rfl,none_of_size (Nat.le_refl _),[],hne,Heap.DictOf.new _,rfl,.nil⟩⟩
  |cons=>first|exact nf h|exact ns h|cases h
 |cons ko r=>cases r with
  |cons=>first|exact nf h|exact ns h|cases h
  |nil=>
   refine ob h fun ke hk h=> ?_
   cases hk
   cases vs with
   |nil=>first|exact nf h|exact ns h|cases h
   |cons ve r=>cases r with
    |cons=>first|exact nf h|exact ns h|cases h
    |nil=>
     refine ob h fun b h1 h=>ob h fun x h2 h=>om h fun d h3 h=>h▸ ?_
     refine wpAny_Dict_pairs (knd:=SK W) (pairs:=[(eval ke env,do let y←eval ve env;standAt p;pure y)]) rfl (fun z=>nomatch z) (Nat.le_of_ble_eq_true rfl) ?_
     have t0:Stp W s {s with heap:=s.heap.push {cls:= .type "dict",data:= .dict #[]}}:= .push _ _
     have c0:=c.more (μ':=fun b=>μ b∨b=s.heap.objs.size) t0 fun a q=>q.imp id fun(e:a=s.heap.objs.size)=>e▸⟨none_of_size (Nat.le_refl _),_,Heap.get?_push_size _ rfl⟩
     refine evalPairs_cons (S.at_ h1 c0 fun kv s₁ t1 r1=>wpAny_bind (S.at_ h3 (c0.step t1) fun vv s₂ t2 r2=>wpAny_bind (wpAny_standAt (wpAny_pure (evalPairs_nil ((asStr_inv h2▸r1:Rep W s₁.heap _ kv (.str x)).str_elim fun t=> ?_))))))
     have t2:=t1.trans t2
     refine⟨[(x,vv)],⟨strKind_is PW W.w _ _,rfl,trivial⟩,dictOf_kept (Heap.DictOf.new s.heap) t2.kept,fun h' hd hs=> ?_⟩
     have hd:h'.DictOf (SK W) s.heap.objs.size [(x,vv)]:=hd
     have old: ∀b o,s₂.heap.get? b=some o→b≠s.heap.objs.size→h'.get? b=some o:=fun b o e n=>hs.extBut b o n e
     have rv:=RepL.cons (r2.but fun b o e ω n=>old b o e fun q=>n (.inr q)) .nil
     exact⟨(t0.trans t2).but fun b o e x=>old b o e (Nat.ne_of_lt (Heap.lt_size x.choose_spec)),.dict (c.mu.fresh (Nat.le_refl _)) hne hd rfl (rv.mu fun ω ω ω q=> .inl q),fun ω=>⟨_,rfl,none_of_size (Nat.le_refl _),_,hne,hd,rfl,rv⟩⟩
end
end Mine
namespace Mine
open PySem PyProof.Rows
section
variable {W:Wd}{s s' s'':Shared}{μ:Addr→Prop}{A:Around}{E:Value→Shared→Prop}{nm:Names}{ρ:Rho}{env:Env}{k:Nat}{self:Ev}
theorem str_ext {a b:Str}(h:a.cps.toList=b.cps.toList):a=b:=match a,b,h with
 |⟨⟨_⟩⟩,⟨⟨_⟩⟩,h=>congrArg (fun l=>Str.mk ⟨l⟩) h
noncomputable def leS (a b:Str):Bool:=decide (¬b.cps.toList<a.cps.toList)
theorem leS_trans (a b c:Str)(h1:leS a b=true)(h2:leS b c=true):leS a c=true:=by
 have h1:=of_decide_eq_true h1;have h2:=of_decide_eq_true h2
 exact decide_eq_true (List.not_lt.mpr (List.le_trans (List.not_lt.mp h1) (List.not_lt.mp h2)))
theorem leS_total (a b:Str):(leS a b||leS b a)=true:=Bool.or_eq_true_iff.mpr ((List.le_total a.cps.toList b.cps.toList).imp (fun h=>decide_eq_true (List.not_lt.mpr h)) fun h=>decide_eq_true (List.not_lt.mpr h))
theorem leS_anti {a b:Str}(h1:leS a b=true)(h2:leS b a=true):a=b:=
 str_ext (List.le_antisymm (List.not_lt.mp (of_decide_eq_true h1)) (List.not_lt.mp (of_decide_eq_true h2)))
theorem rising_pair: ∀(p:Str) (l:List Str),risingS p l=true→(p::l).Pairwise (fun a b=>leS a b=true)
 |p,[],_=>List.pairwise_singleton _ _
 |p,x::r,h=>by
  have h2:=Bool.and_eq_true_iff.mp (show(!Spec.ltCps x.cps.toList p.cps.toList&&risingS x r)=true from h)
  have ih:=rising_pair x r h2.2
  have hpx:leS p x=true:=by
   have h1:=h2.1
   rw[ltCps_eq] at h1
   exact decide_eq_true fun q=>nomatch (congrArg (!·) (decide_eq_true q)).symm.trans h1
  exact List.pairwise_cons.mpr ⟨fun y hy=>(List.mem_cons.mp hy).elim (fun q=>q▸hpx) fun hy=>leS_trans _ _ _ hpx ((List.pairwise_cons.mp ih).1 y hy),ih⟩
theorem sorted_unique {l l':List Str}(hp:l'.Perm l)(hs:sortedS l'=true):l'=sortS l:=by
 have h1:l'.Pairwise (fun a b=>leS a b=true):=by
  cases l' with
  |nil=>exact .nil
  |cons p r=>exact rising_pair p r hs
 have h2:(sortS l).Pairwise (fun a b=>leS a b=true):=List.pairwise_mergeSort leS_trans leS_total l
 exact List.Perm.eq_of_pairwise (fun a b ω ω q1 q2=>leS_anti q1 q2) h1 h2 (hp.trans (List.mergeSort_perm _ _).symm)
theorem sorted_of {v:Value}{Q:Value→Shared→Prop}{ss:List Str}
  (hc:wpAny (MD W) A.in1 (collect v) (fun us s₁=>StrsAre us ss∧us.length<64∧ ∀h' a (out:List Value),(∀b o,s₁.heap.get? b=some o→h'.get? b=some o)→s₁.heap.objs.size≤a→h'.IsList a out.toArray→
    StrsAre out (sortS ss)→Q (.ref a) {s₁ with heap:=h'}) E s):
  wpAny (MD W) A (call (.builtin "sorted") [v]) Q E s:=by
 refine Calls.call_function_entry kind_sorted plain_sorted entry_sorted (args_sorted1 _) ?_
 unfold Builtin.«sorted»
 refine wpAny_bind (m:=checkCount "sorted" 1 1 _) (wpAny_pure (wpAny_bind (wpAny_mono hc (fun us s₁ h₁=> ?_) fun ω ω x=>x)))
 obtain⟨hU,hU64,hq⟩:=h₁
 refine wpAny_bind (wpAny_newList ?_ (by rw[sizeLine_eq];omega))
 have hoL:(s₁.heap.push (seqObj "list" us.toArray 0)).get? s₁.heap.objs.size=some (seqObj "list" us.toArray 0):=Heap.get?_push_size _ rfl
 refine wpAny_bind (wpAny_holding (wpAny_call_entry slot_list_sort ⟨_,hoL,rfl⟩ entry_list_sort
  (list_sort_treeK strKind_oneLt (s:={s₁ with heap:=s₁.heap.push (seqObj "list" us.toArray 0)}) hoL hU.keysOf (fun v₁ v₂ rest e=>keyKind_strs (e▸hU)) hU64 fun st' a1 a2=>⟨_,rfl,?_⟩) (args_list_sort _)))
 obtain⟨ss',h1,h2,h3⟩:=sorted_out_str hU a1 a2
 obtain⟨e,he⟩:=sortedHeap_at (out:=(arrOf st').map (·.2)) hoL
 refine wpAny_pure ⟨_,rfl,hq _ _ ((arrOf st').map (·.2)).toList (fun b o q=> ?_) (Nat.le_refl _) ⟨_,he,rfl,e,rfl⟩ (sorted_unique h2 h3▸h1)⟩
 have hlt:=Heap.lt_size q
 exact(sortedHeap_old (Nat.ne_of_lt hlt) ((size_push' ..).symm▸Nat.lt_succ_of_lt hlt)).trans (Heap.get?_push_of_some _ q)
theorem sorted_post {s₁:Shared}{h':Heap}{a:Addr}{out:List Value}{ss:List Str}(m:MuOk W μ s.heap)(t:Stp W s {s₁ with heap:=h'})(ha: ∀b o,s.heap.get? b=some o→b<a)(hl:h'.IsList a out.toArray)(ho:StrsAre out ss):
  Post W μ s (.list (ss.map .str)) (.ref a) {s₁ with heap:=h'}:=⟨t,.list (fun q=>by obtain⟨_,e⟩:=m.hi _ q;exact Nat.lt_irrefl _ (ha _ _ e)) hl (repL_strs ho)⟩
theorem each_strs {α:Type}(f:α→Str): ∀{l:List Value} {cs:List α},l.length=cs.length→(∀(j:Nat) v,l[j]?=some v→ ∃c u,cs[j]?=some c∧v= .str (f c) u)→StrsAre l (cs.map f)
 | [],[],_,_=> .nil
 | [],_::_,h,_=>nomatch h
 |_::_,[],h,_=>nomatch h
 |v::l,c::cs,h,g=>by obtain⟨_,u,e,q⟩:=g 0 v rfl;exact Option.some.inj e▸q▸ .cons _ _ (each_strs f (Nat.succ.inj h) fun j=>g (j+1))
theorem items_strs {α:Type}(f:α→Str){P:Nat→Value→Prop}{acc:Array Value}{cs:List α}{n:Nat}(hn:cs.length=n)(h:ItemsOf P acc n)(hp: ∀j v,P j v→ ∃c u,cs[j]?=some c∧v= .str (f c) u):StrsAre acc.toList (cs.map f):=
 each_strs f (Array.length_toList.trans (h.1.trans hn.symm)) fun j v q=>hp j v (h.2 j v (Array.getElem?_toList.symm.trans q))
theorem sort_sound {d d0:D}{v:Value}(hh:A.handled=none)(m:MuOk W μ s.heap)(e:sortD d0=some d)(r:RepR W s.heap μ v d0):wpAny (MD W) A (call (.builtin "sorted") [v]) (Post W μ s d) No s:=by
 cases d0 with
 |list ds=>
  refine oi e fun h64 e=>om e fun ss hs e=>e▸r.list_elim fun a vs g=> ?_
  have hS:=strs_of g.r hs
  have h64:vs.length<64:=g.r.1▸h64
  have hz: ∀f c o,s.heap.get? c=some o→((s.heap.push (seqObj "list" #[] 0)).update s.heap.objs.size f).get? c=some o:=fun f c o q=>(Heap.get?_update_ne _ _ _ _ (Nat.ne_of_lt (Heap.lt_size q))).trans (Heap.get?_push_of_some _ q)
  exact wpAny_with_toks (Nat.le_refl _)<|sorted_of (collect_list g.l ⟨hS,h64,fun h' b out hk hb hl ho hq=>sorted_post m (.keep (fun c o q=>hk c o (hz _ c o q)) hq) (fun c o q=>Nat.lt_of_lt_of_le (Heap.lt_size (hz _ c o q)) hb) hl ho⟩ (by rw[sizeLine_eq];omega))
 |str x=>
  refine oi e fun h64 e=>os e fun e=>e▸(r.out rfl).str_elim fun t=> ?_
  exact wpAny_with_toks (Nat.le_refl _)<|sorted_of (wpAny_collect_str (A:=A.in1) hh x t (fun s₁ acc hk hg hd ho hi=>⟨items_strs _ Array.length_toList hi fun j v z0=>by obtain⟨c,u,e,r⟩:=z0;exact⟨c,u,Array.getElem?_toList.trans e,r⟩,Nat.lt_of_le_of_lt (Nat.le_of_eq (Array.length_toList.trans hi.1)) h64,fun h' b out hk' hb hl ho' hq=>
   sorted_post m (.of (fun c o q=>hk' c o (hk c o q)) ho hg hq) (fun c o q=>Nat.lt_of_lt_of_le (Heap.lt_size (hk c o q)) hb) hl ho'⟩) (by rw[sizeLine_eq];exact Nat.le_trans (Nat.le_of_lt h64) (by decide)))
 |dict kvs=>
  refine oi e fun h64 e=>os e fun e=>e▸r.dict_elim fun a l g=> ?_
  have hlen:l.length=kvs.length:=(List.length_map (·.1)).symm.trans ((congrArg List.length g.k).trans (List.length_map _))
  obtain⟨ep,h5⟩:=g.d.dictAt
  rw[←g.k]
  exact wpAny_with_toks (Nat.le_refl _)<|sorted_of (PySem.W.kdu_collect (A:=A.in1) (PySem.W.kdl_dict (by simpa using g.n)) hh h5 (by rw[sizeLine_eq];omega) fun h' tk acc hk hi=>⟨items_strs (·.1) rfl hi fun j v z1=>by obtain⟨y,x,e,hy⟩:=z1;obtain⟨t,q⟩:=Value.isStrOf_shape hy;exact⟨_,t,e,q⟩,Nat.lt_of_le_of_lt (Nat.le_of_eq (Array.length_toList.trans (hi.1.trans hlen))) h64,fun h'' b out hk' hb hl ho' hq=>
   sorted_post m (.keep (fun c o q=>hk' c o (hk c o q)) hq) (fun c o q=>Nat.lt_of_lt_of_le (Heap.lt_size (hk c o q)) hb) hl ho'⟩)
 |_=>first|exact nf e|exact ns e|cases e
theorem arg_min (a:Int)(r:List Int): ∀n,n≤r.length→(a::r).getD (argBest (fun i j=>decide ((a::r).getD i 0<(a::r).getD j 0)) n) 0=(r.take n).foldl (fun m x=>if x<m then x else m) a
 |0,_=>rfl
 |n+1,h=>by
  have ih:=arg_min a r n (Nat.le_of_succ_le h)
  have e1:(a::r).getD (n+1) 0=r[n]:=by rw[List.getD_cons_succ,List.getD_eq_getElem?_getD,List.getElem?_eq_getElem h];rfl
  rw[argBest,List.take_succ_eq_append_getElem h,List.foldl_append,List.foldl_cons,List.foldl_nil,←ih,←e1]
  by_cases hc:(a::r).getD (n+1) 0<(a::r).getD (argBest (fun i j=>decide ((a::r).getD i 0<(a::r).getD j 0)) n) 0
  ·rw[if_pos (decide_eq_true hc),if_pos hc]
  ·rw[if_neg (fun q=>hc (of_decide_eq_true q)),if_neg hc]
inductive ArgR (W:Wd) (h:Heap) (μ:Addr→Prop) (vs:List Value) (ds:List D):Prop
 |one {v d}:vs= [v]→ds= [d]→RepR W h μ v d→ArgR W h μ vs ds
 |all:RepL W h μ vs ds→ArgR W h μ vs ds
@[elab_as_elim] theorem ArgR.single {h:Heap} {vs:List Value} {d:D} {P:List Value→Prop} (r:ArgR W h μ vs [d]) (k: ∀v,RepR W h μ v d→P [v]):P vs:=match r with
  | .one e f r=>e▸k _ ((List.cons.inj f).1▸r)
  | .all r=>r.one_elim fun v r=>k v (.rep r)
theorem lim_int {n:Nat}(h:n≤lim):(n:Int)<2^63:=by
 have:n≤4194304:=h
 omega
theorem len_sound {d d0:D}{v:Value}(e:lenD d0=some d)(r:RepR W s.heap μ v d0):wpAny (MD W) A (call (.builtin "len") [v]) (Post W μ s d) No s:=by
 cases d0 with
 |tup ds=>exact oi e fun hl e=>os e fun e=>e▸(r.out rfl).tup_elim fun a vs ω h1 h2=>wpAny_with_toks (Nat.le_refl _)<|PyProof.Rows.len_tuple h1 (by rw[List.size_toArray,h2.1];exact lim_int hl) fun ω=>List.size_toArray.symm▸h2.1▸ .int
 |list ds=>exact oi e fun hl e=>os e fun e=>e▸r.list_elim fun a vs g=>wpAny_with_toks (Nat.le_refl _)<|Calls.call_len_list g.l (by rw[List.size_toArray,g.r.1];exact lim_int hl) fun ω=>List.size_toArray.symm▸g.r.1▸ .int
 |str x=>exact oi e fun hl e=>os e fun e=>e▸(r.out rfl).str_elim fun t=>wpAny_with_toks (Nat.le_refl _)<|P.len_str (Int.not_le.mpr (lim_int hl)) fun ω=> .int
 |_=>first|exact nf e|exact ns e|cases e
theorem sum_sound {d:D}{ds:List D}{v:Value}(hh:A.handled=none)(e:((intsOf ds).map fun l=>D.int l.sum)=some d)(r:RepR W s.heap μ v (.list ds)):wpAny (MD W) A (call (.builtin "sum") [v]) (Post W μ s d) No s:=
 om e fun l hl e=>e▸r.list_elim fun a vs g=>by
  obtain⟨xs,rfl,rfl⟩:=ints_of g.r hl
  refine wpAny_with_toks (Nat.le_refl _)<|sum_intListG hh (Array.toArray_toList▸g.l) fun h' tk t' hk hq=>⟨.keep hk hq,?_⟩
  rw[preSum_eq,List.take_of_length_le (Nat.le_of_eq ((List.length_map _).trans Array.length_toList))]
  exact .int _ _
theorem min_sound {d:D}{ds:List D}{v:Value}(hh:A.handled=none)(e:((intsOf ds).bind fun l=>(minL l).map D.int)=some d)(r:RepR W s.heap μ v (.list ds)):wpAny (MD W) A (call (.builtin "min") [v]) (Post W μ s d) No s:=
 ob e fun l hl e=>om e fun i hm e=>e▸r.list_elim fun a vs g=>by
  obtain⟨xs,rfl,hx⟩:=ints_of g.r hl
  cases l with
  |nil=>first|exact nf hm|exact ns hm|cases hm
  |cons b r=>
   have hsz:xs.size=r.length+1:=Array.length_toList.symm.trans ((List.length_map _).symm.trans (congrArg List.length hx).symm)
   refine wpAny_with_toks (Nat.le_refl _)<|min_intList hh (Array.toArray_toList▸g.l) (by omega) fun v h' tk hv hk hq=>⟨.keep hk hq,?_⟩
   obtain⟨t,rfl⟩:=intItems_at hv
   have e1:=arg_min b r r.length (Nat.le_refl _)
   rw[List.take_of_length_le (Nat.le_refl _),hx,show r.length=xs.size - 1 by omega] at e1
   simp only[←numAt_eq] at e1
   exact Option.some.inj hm▸e1▸ .int _ _
theorem isi_sound {d:D}{e2:D×D}{v w:Value}(e:isiD e2=some d)(ra:Rep W s.heap μ v e2.1)(rb:Rep W s.heap μ w e2.2):wpAny (MD W) A (call (.builtin "isinstance") [v,w]) (Post W μ s d) No s:=by
 obtain⟨a,b⟩:=e2
 cases a with
 |tup ds=>exact ob e fun t e1 e=>oi e fun ht e=>os e fun e=>e▸(asTy_inv e1▸rb:Rep W s.heap μ w (.ty t)).ty_elim (ht▸ra.tup_elim fun a vs ω h ω=>wpAny_with_toks (Nat.le_refl _)<|call_isinstance (isinstance_true (Tx:= "tuple") F.isi_meta_tuple isSubtype_tuple_tuple) ⟨h.typeIs,fun ω=>⟨.refl _,.bool _⟩⟩)
 |_=>first|exact nf e|exact ns e|cases e
theorem dite_some {α:Type}{c:Prop}[Decidable c]{x y:Option α}{r:α}{P:Prop}(h:(if c then x else y)=some r)(k1:c→x=some r→P)(k2:y=some r→P):P:=if q:c then k1 q ((if_pos q).symm.trans h) else k2 ((if_neg q).symm.trans h)
theorem bi_sound {n:String}{ds:List D}{d:D}{vs:List Value}(hh:A.handled=none)(m:MuOk W μ s.heap)(e:biD n ds=some d)(ra:ArgR W s.heap μ vs ds):
  wpAny (MD W) A (call (.builtin n) vs) (Post W μ s d) No s:=
 dite_some e (fun hn e=>hn▸ob e fun b e1 e=>(one_inv e1▸ra:ArgR W s.heap μ vs [b]).single fun v r=>len_sound e r) fun e=>
 dite_some e (fun hn e=>hn▸ob e fun b e1 e=>ob e fun l e2 e=>(asList_inv e2▸one_inv e1▸ra:ArgR W s.heap μ vs [.list l]).single fun v r=>sum_sound hh e r) fun e=>
 dite_some e (fun hn e=>hn▸ob e fun b e1 e=>ob e fun l e2 e=>(asList_inv e2▸one_inv e1▸ra:ArgR W s.heap μ vs [.list l]).single fun v r=>min_sound hh e r) fun e=>
 dite_some e (fun hn e=>hn▸ob e fun b e1 e=>(one_inv e1▸ra:ArgR W s.heap μ vs [b]).single fun v r=>sort_sound hh m e r) fun e=>
 dite_some e (fun hn e=>hn▸ob e fun b e1 e=>match (two?_inv e1▸ra:ArgR W s.heap μ vs [b.1,b.2]) with
  | .one _ f _=>nomatch f
  | .all r=>r.two_elim fun v w ra rb=>isi_sound e ra rb) fun e=>nomatch e
theorem tuple_sound {d:D}{ds:List D}{v:Value}(m:MuOk W μ s.heap)(e:iteO (ds.length≤lim) (some (D.tup ds))=some d)(r:RepR W s.heap μ v (.list ds)):wpAny (MD W) A (call (.type "tuple") [v]) (Post W μ s d) No s:=
 oi e fun hl e=>os e fun e=>e▸r.list_elim fun a vs g=>wpAny_with_toks (Nat.le_refl _)<|call_tuple_list g.l (fun h' hk hq=>
  have hk': ∀b o,s.heap.get? b=some o→(h'.push _).get? b=some o:=fun b o q=>Heap.get?_push_of_some _ (hk b o q)
  ⟨.keep hk' hq,.tup (fun q=>by obtain⟨_,e⟩:=m.hi _ q;exact Nat.lt_irrefl _ (Heap.lt_size (hk _ _ e))) ⟨_,Heap.get?_push_size _ rfl,rfl,_,rfl⟩ (g.r.kept (.of hk'))⟩) (Nat.le_trans (Nat.le_of_eq (List.size_toArray.trans g.r.1)) (Nat.le_trans hl lim_le))
theorem list_sound {d:D}{ds:List D}{v:Value}(m:MuOk W μ s.heap)(e:iteO (ds.length≤lim) (some (D.list ds))=some d)(r:RepR W s.heap μ v (.list ds)):wpAny (MD W) A (call (.type "list") [v]) (Post W μ s d) No s:=
 oi e fun hl e=>os e fun e=>e▸r.list_elim fun a vs g=>by
  obtain⟨_,ho,hc,_,hd⟩:=g.l
  exact wpAny_with_toks (Nat.le_refl _)<|call_list_seq a (.inl rfl) ho hc hd (fun h' c' hk hD hq=>⟨.keep hk hq,.list (m.fresh (Nat.le_refl _)) ⟨_,hD,rfl,_,rfl⟩ (g.r.kept (.of hk))⟩) (Nat.le_trans (Nat.le_of_eq (List.size_toArray.trans g.r.1)) (Nat.le_trans hl lim_le))
theorem ty_sound {n:String}{ds:List D}{d:D}{vs:List Value}(m:MuOk W μ s.heap)(e:tyD n ds=some d)(ra:ArgR W s.heap μ vs ds):
  wpAny (MD W) A (call (.type n) vs) (Post W μ s d) No s:=
 dite_some e (fun hn e=>hn▸ob e fun b e1 e=>ob e fun l e2 e=>(asList_inv e2▸one_inv e1▸ra:ArgR W s.heap μ vs [.list l]).single fun v r=>tuple_sound m e r) fun e=>
 dite_some e (fun hn e=>hn▸ob e fun b e1 e=>ob e fun l e2 e=>(asList_inv e2▸one_inv e1▸ra:ArgR W s.heap μ vs [.list l]).single fun v r=>list_sound m e r) fun e=>
 dite_some e (fun hn e=>hn▸ob e fun b e1 e=>om e fun z e2 e=>e▸(asBool_inv e2▸one_inv e1▸ra:ArgR W s.heap μ vs [.bool z]).single fun v r=>(r.out rfl).bool_elim (wpAny_with_toks (Nat.le_refl _) (call_int_bool fun ω=> .int))) fun e=>nomatch e
end
end Mine
namespace Mine
open PySem PyProof.Rows
inductive OMeth (W:Wd) (k:Nat) (a:Addr) (m:Str) (ds:List D) (d:D):Prop
 |mk (T id:String) (o:Obj) (pa:PlainAttrs T) (sl:Slot T m id) (ty:typeOf (.builtin id)=pure (.type "method_descriptor")) (ho:W.T.get? a=some o) (hc:o.cls= .type T) (hd:o.dict=none) (hs: ¬Soft o)
  (call: ∀A s (μ:Addr→Prop) vs,Room A k→Inv W s→MuOk W μ s.heap→RepL W s.heap μ vs ds→wpAny (MD W) A (call (.builtin id) (.ref a::vs)) (Post W μ s d) No s)
structure CfgOk (W:Wd)(C:Cfg)(k:Nat):Prop where
 glob:GlobOk W C
 con: ∀a ds d,C.F a ds=some d→Con W k a ds d
 callee: ∀a ds d,C.F a ds=some d→ ∀A s pos first args (Q:Value→Shared→Prop),args.any (·.1)=false→
  wpAny (MD W) A (evalArgs (.ref a) true args []) (fun x s₁=>Inv W s₁∧x.kw= []∧wpAny (MD W) A (call (.ref a) (first++x.pos) []) Q No s₁) No s→wpAny (MD W) A (callWith pos (.ref a) first args []) Q No s
 ometh: ∀a m ds d,C.ometh a m ds=some d→OMeth W k a m ds d
 meth: ∀c m f,C.meth c m=some f→ ∀A s a dx (kvs:List (Str×Value)) pl (Q:Value×List Value→Shared→Prop),Inv W s→s.heap.get? a=some (PySem.W.instObj c dx)→s.heap.Ns dx (fun x=>kvs.lookup x)→kvs.lookup m=none→
  (∀tk,s.toks≤tk→Q (.ref f,[.ref a]) {s with toks:=tk})→wpAny (MD W) A (getMethod (.ref a) m pl) Q No s
 iattr: ∀c m,C.iattr c m=true→ ∀A s a dx (kvs:List (Str×Value)) v (Q:Value→Shared→Prop),Inv W s→s.heap.get? a=some (PySem.W.instObj c dx)→s.heap.Ns dx (fun x=>kvs.lookup x)→kvs.lookup m=some v→PySem.W.handedIn v=true→
  (∀tk,s.toks≤tk→Q v {s with toks:=tk})→wpAny (MD W) A (getAttr (.ref a) m true) Q No s
 cattr: ∀c m d,C.cattr c m=some d→ ∀A s (μ:Addr→Prop) (Q:Value→Shared→Prop),Inv W s→MuOk W μ s.heap→
  (∀v tk,s.toks≤tk→Rep W s.heap μ v d→Q v {s with toks:=tk})→wpAny (MD W) A (getAttr (.ref c) m true) Q No s
section
variable {W:Wd}{s s' s'':Shared}{μ:Addr→Prop}{A:Around}{E:Value→Shared→Prop}{nm:Names}{ρ:Rho}{env:Env}{k:Nat}{self:Ev}{C:Cfg}{as:List Expr}{p ap:Pos}{d:D}{o f:Expr}{Q:Value→Shared→Prop}
theorem Con.call {fa:Addr}{ds:List D}{vs:List Value}(x:Con W k fa ds d)(hr:Room A k)(i:Inv W s)(m:MuOk W μ s.heap)(r:RepL W s.heap μ vs ds):
  wpAny (MD W) A (call (.ref fa) vs []) (Post W μ s d) No s:=wpAny_call (codeAny_mono (x A s μ vs hr i m r) fun r s' z0=>by obtain⟨t,v,e,q⟩:=z0;exact e▸⟨t,q⟩)
noncomputable def PlainA (env:Env) (as:List Expr):Prop:=starEach as env=as.map fun e=>(false,eval e env)
theorem star_eq (P:Plain self): ∀{es:List Expr} {ds:List D},mapO (self nm ρ) es=some ds→PlainA env es
 | [],_,_=>rfl
 |e::es,_,h=>mapO_cons h fun d ds h1 h2=>by
  have ih:starEach es env=_:=star_eq P h2
  unfold PlainA
  rw[List.map_cons,←ih]
  cases e with
  |Starred=>exact nomatch (P.star ..).symm.trans h1
  |_=>rfl
theorem PlainA.back (h:PlainA env as)(p:Pos):backTo p (starEach as env)=as.map fun e=>(false,eval e env):=by
 unfold backTo
 rw[h,List.map_map]
 exact List.map_congr_left fun e ω=>rfl
theorem PlainA.any (h:PlainA env as)(p:Pos):(backTo p (starEach as env)).any (·.1)=false:=by
 rw[h.back p,List.any_map]
 exact List.any_eq_false.mpr fun ω ω q=>nomatch q
theorem PlainA.form (h:PlainA env as)(hn:as.length<29)(p:Pos):methodCallForm (as.length+([]:List Keyword).length) (backTo p (starEach as env)) (backToKw p (keywordEach [] env))=true:=by
 unfold methodCallForm
 rw[h.back p,List.all_map,List.all_eq_true.mpr (fun ω ω=>rfl: ∀x,x∈as→((fun x:Bool×Sem Value=> !x.1)∘fun e=>(false,eval e env)) x=true)]
 exact decide_eq_true (Nat.lt_succ_of_lt hn)
theorem args_of {f:Value}{Q:Args→Shared→Prop}(hs:PlainA env as)(h:wpAny (MD W) A (spliced (backTo p (starEach as env))) (fun vs s'=>Q ⟨vs,[]⟩ s') E s):wpAny (MD W) A (evalArgs f true (backTo p (starEach as env)) []) Q E s:=by
 cases as with
 |nil=>
  unfold evalArgs
  exact wpAny_bind (m:=spliced []) (wpAny_mono h (fun vs s' h'=>wpAny_holding (wpAny_bind (wpAny_pure (wpAny_bind (wpAny_pure (wpAny_pure h')))))) fun ω ω x=>x)
 |cons e es=>
  rw[hs.back] at h⊢
  exact Calls.evalArgs_plain h
theorem base_eq (hb:baseOk o=true){m:Str}:attributeBase o m env (eval o env)=eval o env:=by
 cases o with
 |Call=>first|exact nf hb|exact ns hb|cases hb
 |_=>rfl
theorem meth_call {name:Str}(hb:baseOk o=true∧ap.endLine=p.line∧as.length<29)(hs:PlainA env as)
  (h:wpAny (MD W) A (eval o env) (fun ov s₁=> ∃T id,PlainAttrs T∧Slot T name id∧typeOf (.builtin id)=pure (.type "method_descriptor")∧s₁.TypeIs ov T∧(∀a,ov= .ref a→ ∃ob,s₁.heap.get? a=some ob∧ob.dict=none)∧
    wpAny (MD W) A (spliced (backTo p (starEach as env))) (fun vs s₂=>wpAny (MD W) A (call (.builtin id) (ov::vs)) Q E s₂) E s₁) E s):
  wpAny (MD W) A (eval (.Call (.Attribute o name ap) as [] p) env) Q E s:=
 wpAny_Call_method_lateS (base_eq hb.1) (hs.form hb.2.2 p) (beq_iff_eq.mpr hb.2.1) (wpAny_mono h (fun ov s₁ z1=>by obtain⟨T,id,h1,h2,h3,h4,h5,h6⟩:=z1;exact⟨T,id,h1,h2,h3,h4,h5,Calls.callWith_builtin (hs.any p) (args_of hs h6)⟩) fun ω ω x=>x)
theorem strValues_of {vs:List Value}{l:List Str}(h:StrsAre vs l): ∃ps:List (Str×Tok),vs=strValues ps∧ps.map (·.1)=l:=by
 induction h with
 |nil=>exact⟨[],rfl,rfl⟩
 |cons x t _ ih=>exact by obtain⟨ps,h1,h2⟩:=ih;exact⟨(x,t)::ps,h1▸rfl,h2▸rfl⟩
inductive SMeth (W:Wd) (m x:Str) (ds:List D) (d:D):Prop
 |mk (id:String) (sl:Slot "str" m id) (ty:typeOf (.builtin id)=pure (.type "method_descriptor"))
  (call: ∀A s (μ:Addr→Prop) vs t,RepL W s.heap μ vs ds→wpAny (MD W) A (call (.builtin id) (.str x t::vs)) (Post W μ s d) No s)
theorem lim_long {x:Str}(h:x.length≤lim):Builtin.Str.tooLong x.length=false:=decide_eq_false (Nat.not_lt.mpr (Nat.le_trans h lim_le))
theorem none?_inv {ds:List D}{x:Option D}(h:none? ds x=some d):ds= []∧x=some d:=match ds,h with
 | [],h=>⟨rfl,h⟩
 |_::_,h=>nomatch h
theorem str_arg {ds:List D}{f:Str→D}{m x:Str}{id:String}(e:strArg ds f=some d)(sl:Slot "str" m id)(ty:typeOf (.builtin id)=pure (.type "method_descriptor"))
  (h: ∀A s (μ:Addr→Prop) t y u,wpAny (MD W) A (call (.builtin id) [.str x t,.str y u]) (Post W μ s (f y)) No s):SMeth W m x ds d:=
 ob e fun b e1 e=>om e fun y e2 e=>e▸⟨id,sl,ty,fun A s μ vs t r=>(asStr_inv e2▸one_inv e1▸r:RepL W s.heap μ vs [.str y]).one_elim fun v r=>r.str_elim fun u=>h A s μ t y u⟩
theorem methS_sound {m x:Str}{ds:List D}(e:methS m x ds=some d):SMeth W m x ds d:=
 dite_some e (fun hm e=>hm▸oi (none?_inv e).2 fun hl e'=>os e' fun e'=>(none?_inv e).1▸e'▸⟨_,F.slot_str_lower,F.type_str_lower,fun A s μ vs t r=>r.nil_elim (SC.lower (lim_long hl) .str)⟩) fun e=>
 dite_some e (fun hm e=>hm▸oi (none?_inv e).2 fun hl e'=>os e' fun e'=>(none?_inv e).1▸e'▸⟨_,F.slot_str_upper,F.type_str_upper,fun A s μ vs t r=>r.nil_elim (SC.upper (lim_long hl) .str)⟩) fun e=>
 dite_some e (fun hm e=>hm▸str_arg e F.slot_str_find F.type_str_find fun ω ω ω ω ω ω=>SC.find .int) fun e=>
 dite_some e (fun hm e=>hm▸str_arg e F.slot_str_startswith F.type_str_startswith fun ω ω ω ω ω ω=>SC.startswith (.val (.bool _))) fun e=>
 dite_some e (fun hm e=>hm▸str_arg e F.slot_str_endswith F.type_str_endswith fun ω ω ω ω ω ω=>SC.endswith (.val (.bool _))) fun e=>
 dite_some e (fun hm e=>hm▸ob e fun b e1 e=>ob e fun l' e2 e=>ob e fun l hl e=>oi e fun hj e=>os e fun e=>e▸⟨_,F.slot_str_join,F.type_str_join,fun A s μ vs t r=>(asList_inv e2▸one_inv e1▸r:RepL W s.heap μ vs [.list l']).one_elim fun v r=>r.list_elim fun a us ω g2 g3=>by
  obtain⟨ps,rfl,h2⟩:=strValues_of (strs_of g3 hl)
  exact wpAny_with_toks (Nat.le_refl _)<|SC.join g2 h2 hj fun t' k0 hk=> .str⟩) fun e=>nomatch e
variable (S:EvS W k self)
include S
theorem s_methS (P:Plain self){m x:Str}(hb:baseOk o=true∧ap.endLine=p.line∧as.length<29)(h1:self nm ρ o=some (.str x))(h2:(mapO (self nm ρ) as).bind (methS m x)=some d)(c:Cxt W nm env μ ρ A k s):EvOk W env μ A (.Call (.Attribute o m ap) as [] p) d s:=
 ob h2 fun ds h2 h3=>by
  obtain⟨id,g1,g2,g3⟩:=methS_sound (W:=W) h3
  exact .of rfl (meth_call hb (star_eq P h2) (S.at_ h1 c fun ov s₁ t1 r1=>r1.str_elim fun t=>⟨"str",id,F.plainAttrs_str,g1,g2,typeIs_str _ _ _,(fun ω e=>nomatch e),
   wpAny_mono (s_items S P h2 (c.step t1)) (fun vs s₂ y=>wpAny_mono (g3 A s₂ μ vs _ y.2) (fun v s₃=> .after (t1.trans y.1)) no) no⟩))
theorem s_replace {x:Str}(hb:baseOk o=true∧ap.endLine=p.line∧as.length<29)(h1:self nm ρ o=some (.str x))(h:((two as).bind fun e=>(strConst e.1).bind fun y=>(strConst e.2).bind fun z=>replD nm x y z)=some d)
  (c:Cxt W nm env μ ρ A k s):EvOk W env μ A (.Call (.Attribute o "replace" ap) as [] p) d s:=
 ob h fun e ha h=>ob h fun y hy h=>ob h fun z hz h=>by
  cases two_inv ha
  obtain⟨e1,e2⟩:=e
  obtain⟨k1,p1,rfl⟩:=strConst_inv hy
  obtain⟨k2,p2,rfl⟩:=strConst_inv hz
  unfold replD at h
  by_cases hc:y=z∨16777216<x.length+(x.length+1)*z.length∨nm.lookup txtMark≠some .local
  ·exact nomatch (if_pos hc).symm.trans h
  ·refine os ((if_neg hc).symm.trans h) fun h=>h▸ .of rfl (meth_call hb rfl (S.at_ h1 c fun ov s₁ t1 r1=>r1.str_elim fun t=>⟨"str",_,F.plainAttrs_str,F.slot_str_replace,F.type_str_replace,typeIs_str _ _ _,(fun ω e=>nomatch e),
    wpAny_items_cons (wpAny_Constant_str (wpAny_items_cons (wpAny_Constant_str (wpAny_items_nil ?_))))⟩))
   have h0:=(c.step t1).tk (Decidable.not_not.mp fun q=>hc (.inr (.inr q)))
   refine wpAny_with_toks (Nat.le_refl _)<|SC.replace (by show s₁.toks≠0;omega) (by show s₁.toks+1≠0;omega) (by show s₁.toks≠s₁.toks+1;omega) (beq_false_of_ne fun q=>hc (.inl q)) (Nat.le_of_not_lt fun q=>hc (.inr (.inl q))) fun t' k0 hk=>⟨t1.trans (.toks _ ?_),.str _ _⟩
   exact Nat.le_trans (Nat.le_add_right _ 2) hk
theorem s_get (P:Plain self){kvs:List (Str×D)}(hb:baseOk o=true∧ap.endLine=p.line∧as.length<29)(h1:self nm ρ o=some (.dict kvs))(h:((two as).bind fun e=>(self nm ρ e.1).bind fun d=>(asStr d).bind fun k=>(self nm ρ e.2).map fun d=>(getK kvs k).getD d)=some d)
  (c:Cxt W nm env μ ρ A k s):EvOk W env μ A (.Call (.Attribute o "get" ap) as [] p) d s:=
 ob h fun e ha h=>ob h fun y h2 h=>ob h fun x hx h=>om h fun dd h3 h5=>by
  cases two_inv ha
  have h4:mapO (self nm ρ) [e.1,e.2]=some [.str x,dd]:=by rw[mapO,mapO,mapO,h2,h3,asStr_inv hx];rfl
  refine .of rfl (meth_call hb (star_eq P h4) (S.at_ h1 c fun ov s₁ t1 r1=>r1.dict_elim fun a l ω g1 g2 g3 g4=>⟨"dict",_,F.plainAttrs_dict,F.slot_dict_get,F.type_dict_get,g2.typeIs,g2.mapOf.noDict,wpAny_mono (s_items S P h4 (c.step t1)) (fun vs s₂ z=> ?_) no⟩))
  obtain⟨t2,r2⟩:=z
  refine r2.two_elim fun v w a b=>a.str_elim fun t=> ?_
  have hm:=(dictOf_kept g2 t2.kept).mapOf
  refine call_meetsIn F.slot_dict_get hm.typeIs F.entry_dict_get (F.args_dict_get_3 _ _ _) (meets_dict_get_default (SK W) _ (strKind_is PW W.w _ _) (by simpa using g1) _) ⟨_,hm,t1.trans (t2.trans (.toks _)),?_⟩
  rw[←h5]
  exact(find_rep (k:=x) g3 g4).elim (fun q=>by rw[q.1,q.2];exact b) fun z2=>by obtain⟨v,d',q1,q2,q3⟩:=z2;rw[q1,q2];exact q3.kept t2.kept
omit S in
theorem eval_call (hf:isAttr f=false):eval (.Call f as [] p) env=(do callWith p (←eval f env) [] (backTo p (starEach as env)) []):=by
 cases f with
 |Attribute=>first|exact nf hf|exact ns hf|cases hf
 |_=>rfl
end
end Mine
namespace Mine
open PySem PyProof.Rows
section
variable {W:Wd}{s s' s'':Shared}{μ:Addr→Prop}{A:Around}{E:Value→Shared→Prop}{nm:Names}{ρ:Rho}{env:Env}{k:Nat}{self:Ev}{C:Cfg}{as:List Expr}{p ap:Pos}{d:D}{o f:Expr}
structure PostA (W:Wd)(μ:Addr→Prop)(s:Shared)(ds:List D)(vs:List Value)(s':Shared):Prop where
 t:Stp W s s'
 r:ArgR W s'.heap μ vs ds
inductive AOk (W:Wd) (nm:Names) (env:Env) (μ:Addr→Prop) (ρ:Rho) (A:Around) (k:Nat) (p:Pos) (as:List Expr) (f:List D→Option D) (d:D):Prop
 |mk (ds) (e:f ds=some d) (pl:PlainA env as) (w: ∀s,Cxt W nm env μ ρ A k s→wpAny (MD W) A (spliced (backTo p (starEach as env))) (PostA W μ s ds) No s)
theorem AOk.name {x:Str}{q:Pos}{f:List D→Option D}(h:((o1? ρ x).bind fun d=>f [d])=some d):AOk W nm env μ ρ A k p [.Name x q] f d:=
 ob h fun d' h1 h2=>⟨[d'],h2,rfl,fun s c=>wpAny_items_cons (s_nameR h1 c fun v r=>wpAny_items_nil ⟨.refl _,.one rfl rfl r⟩)⟩
theorem lookup_find {α:Type}(x:Str): ∀l:List (Str×α),l.lookup x=(l.find? fun kv=>kv.1=x).map (·.2)
 | []=>rfl
 |kv::l=>by
  rw[List.lookup_cons,List.find?_cons,lookup_find x l]
  by_cases h:kv.1=x
  ·rw[decide_eq_true h,beq_iff_eq.mpr h.symm]
   rfl
  ·rw[decide_eq_false h,beq_false_of_ne (Ne.symm h)]
theorem lookup_rep {kvs:List (Str×Value)}{fs:List (Str×D)}{h:Heap}(e:kvs.map (·.1)=fs.map (·.1))(r:RepL W h μ (kvs.map (·.2)) (fs.map (·.2)))(x:Str):
  (kvs.lookup x=none∧getK fs x=none)∨ ∃v d,kvs.lookup x=some v∧getK fs x=some d∧Rep W h μ v d:=(lookup_find x kvs)▸find_rep e r
variable (S:EvS W k self)
include S
theorem AOk.all (P:Plain self){f:List D→Option D}(h:(mapO (self nm ρ) as).bind f=some d):AOk W nm env μ ρ A k p as f d:=
 ob h fun ds h1 h2=>⟨ds,h2,star_eq P h1,fun s c=>wpAny_mono (s_items S P h1 c) (fun vs s' x=>⟨x.1,.all x.2⟩) no⟩
theorem AOk.arg (P:Plain self){f:List D→Option D}(h:argE (mkV C self nm ρ) as f=some d):AOk W nm env μ ρ A k p as f d:=by
 cases as with
 |nil=>first|exact nf h|exact ns h|cases h
 |cons a r=>cases r with
  |cons=>exact .all S P h
  |nil=>
   have h:loneV (mkV C self nm ρ) f [a] (view a)=some d:=h
   generalize view a=w at h
   cases w with
   |name=>exact .name h
   |_=>exact .all S P h
theorem s_call {fd:D}(hf:isAttr f=false)(h1:self nm ρ f=some fd)(c:Cxt W nm env μ ρ A k s)(h: ∀fv s₁,Stp W s s₁→Rep W s₁.heap μ fv fd→wpAny (MD W) A (callWith p fv [] (backTo p (starEach as env)) []) (Post W μ s d) No s₁):
  EvOk W env μ A (.Call f as [] p) d s:=by
 refine .of rfl ?_
 rw[eval_call hf]
 exact wpAny_bind (S.at_ h1 c h)
theorem s_bi {n:String}(hf:isAttr f=false)(h1:self nm ρ f=some (.bi n))(a:AOk W nm env μ ρ A k p as (biD n) d)(c:Cxt W nm env μ ρ A k s):EvOk W env μ A (.Call f as [] p) d s:=by
 obtain⟨_,e,pl,w⟩:=a
 exact s_call S hf h1 c fun fv s₁ t1 r1=>r1.bi_elim fun ω=>Calls.callWith_builtin (pl.any p) (args_of pl (wpAny_mono (w s₁ (c.step t1)) (fun vs s₂ y=>wpAny_mono (bi_sound c.room.handled (c.mu.step (t1.trans y.1).grow) e y.2) (fun v s₃=> .after (t1.trans y.1)) no) no))
theorem s_ty {n:String}(hf:isAttr f=false)(h1:self nm ρ f=some (.ty n))(a:AOk W nm env μ ρ A k p as (tyD n) d)(c:Cxt W nm env μ ρ A k s):EvOk W env μ A (.Call f as [] p) d s:=by
 obtain⟨_,e,pl,w⟩:=a
 exact s_call S hf h1 c fun fv s₁ t1 r1=>r1.ty_elim (PySem.callWith_type (pl.any p) (args_of pl (wpAny_mono (w s₁ (c.step t1)) (fun vs s₂ y=>wpAny_mono (ty_sound (c.mu.step (t1.trans y.1).grow) e y.2) (fun v s₃=> .after (t1.trans y.1)) no) no)))
theorem own_call (K:CfgOk W C k)(P:Plain self){a:Addr}{ds0 ds:List D}{first:List Value}(h2:mapO (self nm ρ) as=some ds)(h3:C.F a (ds0++ds)=some d)(c:Cxt W nm env μ ρ A k s)(r0:RepL W s.heap μ first ds0):
  wpAny (MD W) A (callWith p (.ref a) first (backTo p (starEach as env)) []) (Post W μ s d) No s:=
 have pl:=star_eq (env:=env) P h2
 K.callee a _ d h3 _ _ _ _ _ _ (pl.any p) (args_of pl (wpAny_mono (s_items S P h2 c) (fun vs s₂ y=>⟨(c.step y.1).inv,rfl,
   wpAny_mono ((K.con a _ d h3).call c.room (c.step y.1).inv (c.step y.1).mu ((r0.kept y.1.kept).append y.2)) (fun v s₃=> .after y.1) no⟩) no))
theorem s_callObj (K:CfgOk W C k)(P:Plain self){a:Addr}(hf:isAttr f=false)(h1:self nm ρ f=some (.obj a))(h:someE (self nm ρ) as (C.F a)=some d)(c:Cxt W nm env μ ρ A k s):EvOk W env μ A (.Call f as [] p) d s:=by
 have h:(mapO (self nm ρ) as).bind (C.F a)=some d:=by
  cases as with
  |nil=>first|exact nf h|exact ns h|cases h
  |cons=>exact h
 exact ob h fun ds h2 h3=>s_call S hf h1 c fun fv s₁ t1 r1=>r1.obj_elim fun o ω ω ω=>wpAny_mono (own_call S K P (ds0:=[]) h2 h3 (c.step t1) .nil) (fun ω ω=> .after t1) no
theorem s_ometh (K:CfgOk W C k)(P:Plain self){m:Str}{a:Addr}(hb:baseOk o=true∧ap.endLine=p.line∧as.length<29)(h1:self nm ρ o=some (.obj a))(h:(mapO (self nm ρ) as).bind (C.ometh a m)=some d)(c:Cxt W nm env μ ρ A k s):
  EvOk W env μ A (.Call (.Attribute o m ap) as [] p) d s:=
 ob h fun ds h2 h3=>by
 obtain⟨T,id,ob,g1,g2,g3,g4,g5,g6,g7,g8⟩:=K.ometh a m ds d h3
 exact .of rfl (meth_call hb (star_eq P h2) (S.at_ h1 c fun ov s₁ t1 r1=>r1.obj_elim fun ω ω ω ω=>
  have ho:=(c.step t1).inv.grow.kept a ob g4 g7
  ⟨T,id,g1,g2,g3,⟨ob,ho,g5⟩,(fun b e=>Value.ref.inj e▸⟨ob,ho,g6⟩),wpAny_mono (s_items S P h2 (c.step t1)) (fun vs s₂ y=>have c2:=c.step (t1.trans y.1);wpAny_mono (g8 A s₂ μ vs c.room c2.inv c2.mu y.2) (fun v s₃=> .after (t1.trans y.1)) no) no⟩))
theorem s_meth (K:CfgOk W C k)(P:Plain self){m:Str}{cl:Addr}{fs:List (Str×D)}(hb:baseOk o=true∧ap.endLine=p.line∧as.length<29)(h1:self nm ρ o=some (.inst cl fs))(h:methI C (self nm ρ) m as cl fs (getK fs m)=some d)
  (c:Cxt W nm env μ ρ A k s):EvOk W env μ A (.Call (.Attribute o m ap) as [] p) d s:=by
 cases h3:getK fs m with
 |some _=>
  rw[h3] at h
  cases h
 |none=>
  rw[h3] at h
  refine ob h fun f h4 h=>ob h fun ds h2 h5=> .of rfl ?_
  rw[arm_eval_Call,base_eq hb.1]
  have pl:=star_eq (env:=env) P h2
  refine wpAny_bind (S.at_ h1 c fun ov s₁ t1 r1=>wpAny_bind (wpAny_standAt (r1.inst_elim fun a dx l g1 g2 g3 g4 g5 g6=> ?_)))
  unfold methodCall
  rw[pl.form hb.2.2]
  refine wpAny_bind (wpAny_holding (K.meth cl m f h4 _ _ _ _ _ _ _ (c.step t1).inv g3 g4 ((lookup_rep g5 g6 m).elim (fun q=>q.1) fun z0=>by obtain⟨_,_,_,q,_⟩:=z0;exact nomatch h3.symm.trans q) fun tk htk=>wpAny_bind (wpAny_of_eq (show methodCallPos true o env ap p=pure p by unfold methodCallPos;simp[hb.2.1]) ?_)))
  have t2:Stp W s {s₁ with toks:=tk}:=t1.trans (.toks _)
  exact wpAny_mono (own_call S K P (ds0:=[.inst cl fs]) h2 h5 (c.step t2) (.cons (.inst g1 g2 g3 g4 g5 g6) .nil)) (fun ω ω=> .after t2) no
omit S in
theorem attr_inst (K:CfgOk W C k){a cl dx:Addr}{m:Str}{kvs:List (Str×Value)}{fs:List (Str×D)}(hi:C.iattr cl m=true)(i:Inv W s)(g:IsI W s.heap μ a cl dx kvs fs)(h:getK fs m=some d):wpAny (MD W) A (getAttr (.ref a) m true) (Post W μ s d) No s:=
 (lookup_rep g.k g.r m).elim (fun q=>nomatch h.symm.trans q.2) fun z1=>by obtain⟨v,_,hv,q,r⟩:=z1;exact Option.some.inj (q.symm.trans h)▸K.iattr cl m hi _ _ _ _ _ _ _ i g.o g.d hv r.handed fun tk htk=>⟨.toks _,r⟩
omit S in
theorem attr_of (K:CfgOk W C k){m:Str}{e:D}{v:Value}(c:Cxt W nm env μ ρ A k s)(r:RepI W s.heap μ v e∨Rep W s.heap μ v e)(h:attD C m e=some d):wpAny (MD W) A (getAttr v m true) (Post W μ s d) No s:=by
 cases e with
 |inst cl fs=>
  refine dite_some h (fun hi h=> ?_) fun h=>nomatch h
  cases r with
  |inl r=>
   obtain⟨a,_,dx,kvs,_,rfl,f,g⟩:=r
   cases f
   exact attr_inst K hi c.inv g h
  |inr r=>exact r.inst_elim fun a dx l ω ω g3 g4 g5 g6=>attr_inst K hi c.inv ⟨g3,g4,g5,g6⟩ h
 |obj cl=>
  cases r with
  |inl r=>
   obtain⟨_,_,_,_,_,_,f,_⟩:=r
   cases f
  |inr r=>exact r.obj_elim fun ω ω ω ω=>K.cattr cl m d h _ _ μ _ c.inv c.mu fun v tk htk r=>⟨.toks _,r⟩
 |_=>first|exact nf h|exact ns h|cases h
omit S in
theorem oi_see {x:Str}(h:oi? ρ x=some d)(c:Cxt W nm env μ ρ A k s){Q:Value→Shared→Prop}(hq: ∀v,RepI W s.heap μ v d→Q v s):wpAny (MD W) A (eval (.Name x p) env) Q E s:=ob h fun q h1 h2=>by
 have hl:=lk_inv h1
 obtain⟨t,d'⟩:=q
 obtain⟨v,hv,r⟩:=c.see x _ _ hl.2
 refine wpAny_Name (load_held c.ok hv (hq v ?_)) (dbg_of hl.1)
 cases t with
 |oi=>exact os h2 fun h2=>h2▸r
 |_=>first|exact nf h2|exact ns h2|cases h2
theorem s_attr (K:CfgOk W C k){m:Str}(h:attE C (mkV C self nm ρ) o m=some d)(c:Cxt W nm env μ ρ A k s):EvOk W env μ A (.Attribute o m p) d s:=
 ob h fun x hx h=>ob h fun e h1 h2=>by
  obtain⟨q,rfl⟩:=nameOf_inv hx
  refine .of rfl (Attribute_any_ ?_ rfl)
  have h1:orE (self nm ρ (.Name x q)) (oi? ρ x)=some e:=h1
  cases ho:oi? ρ x with
  |some d'=>
   rw[ho] at h1
   exact oi_see ho c fun v r=>attr_of K c (.inl (os h1 fun h1=>h1▸r)) h2
  |none=>
   rw[ho] at h1
   exact S.at_ h1 c fun v s₁ t1 r1=>wpAny_mono (attr_of K (c.step t1) (.inr r1) h2) (fun ω ω=> .after t1) no
end
end Mine
namespace Mine
open PySem PyProof.Rows
structure Mv (W:Wd)(X:Addr→Prop)(s s':Shared):Prop where
 grow: ∀b o,s.heap.get? b=some o→ ¬X b→Nx W.Pac s'.heap b o
 tab:TabI W s.heap→TabI W s'.heap
 os:s'.os=s.os
 bare:AllBare s.gens→AllBare s'.gens
 tk:s.toks≤s'.toks
section
variable {W:Wd}{s s' s'':Shared}{μ μ':Addr→Prop}{A:Around}{E:Value→Shared→Prop}{nm:Names}{ρ:Rho}{env:Env}{X Y:Addr→Prop}{h h':Heap}{b:Addr}{F:List Addr}{v:Value}{d:D}{t:Tag}
theorem Stp.mv (t:Stp W s s'):Mv W X s s':=⟨fun b o e ω=>t.grow b o e,t.tab,t.os,t.bare,t.tk⟩
theorem Mv.refl:Mv W X s s:=(Stp.refl s).mv
theorem Mv.stp (m:Mv W X s s')(h: ∀b o,X b→s.heap.get? b=some o→False):Stp W s s':=⟨fun b o e=>m.grow b o e fun q=>h b o q e,m.tab,m.os,m.bare,m.tk⟩
theorem Mv.wider (m:Mv W X s s')(h: ∀b,X b→Y b):Mv W Y s s':=⟨fun b o e n=>m.grow b o e fun q=>n (h b q),m.tab,m.os,m.bare,m.tk⟩
theorem Mv.trans (x:Mv W X s s')(y:Mv W X s' s''):Mv W X s s'':=⟨fun b o e n=>(x.grow b o e n).trans fun o e=>y.grow b o e n,fun t=>y.tab (x.tab t),y.os.trans x.os,fun t=>y.bare (x.bare t),Nat.le_trans x.tk y.tk⟩
theorem Mv.fresh (x:Mv W Y s s')(h: ∀b o,s.heap.get? b=some o→Y b→X b):Mv W X s s':=⟨fun b o e n=>x.grow b o e fun q=>n (h b o e q),x.tab,x.os,x.bare,x.tk⟩
theorem Mv.kept (m:Mv W X s s'):KeptBut X s.heap s'.heap:=fun b o e n q=>(m.grow b o e q).hard n
theorem Mv.of {h':Heap}{t:Nat}(hk: ∀b o,s.heap.get? b=some o→ ¬X b→h'.get? b=some o)(hX: ∀b o,X b→W.T.get? b=some o→False)
  (ht:s.toks≤t:=by first|assumption|omega):Mv W X s {s with heap:=h',toks:=t}:=
 ⟨fun b o e n=> .inl (hk b o e n),fun q=>q.at2 fun b o e hb=>hk b o e fun x=>hb.elim (fun r=>W.there.1.elim fun o ho=>hX b o x (r▸ho)) fun r=>W.there.2.elim fun o ho=>hX b o x (r▸ho),rfl,id,ht⟩
theorem Mv.there (m:Mv W X s s')(h: ∃o,s.heap.get? b=some o)(n: ¬X b): ∃o,s'.heap.get? b=some o:=by obtain⟨o,e⟩:=h;exact(m.grow b o e n).there
theorem Mv.inv (m:Mv W X s s')(i:Inv W s)(h: ∀b o,X b→W.T.get? b=some o→False):Inv W s':=⟨fun b o e=>(i.grow b o e).trans fun o' e'=>m.grow b o' e' fun q=>h b o q e,m.tab i.tab,m.bare i.bare⟩
theorem ns1_at {a m}(x:h.Ns1 a m)(n: ¬μ a)(k:KeptBut μ h h'):h'.Ns1 a m:=
 by obtain⟨o,es,ep,ho,hd,r⟩:=x;exact⟨o,es,ep,k a o ho (soft_dict hd) n,hd,r⟩
theorem RepL.go {vs:List Value}{ds:List D}(k:KeptBut μ h h')(m: ∀b o,h.get? b=some o→ ¬μ b→ ¬μ' b)(r:RepL W h μ vs ds):RepL W h' μ' vs ds:=⟨r.1,fun i v d a b=>(r.2 i v d a b).go k m⟩
inductive F1 (W:Wd) (h:Heap) (μ:Addr→Prop) (F:List Addr) (v:Value) (d:D):Prop
 |list (a vs ds) (f:F= [a]) (e:v= .ref a) (g:d= .list ds) (p:h.PlainList a vs.toArray) (r:RepL W h μ vs ds)
 |dict (a kvs ds) (f:F= [a]) (e:v= .ref a) (g:d= .dict ds) (x:IsD W h μ a kvs ds)
inductive F2 (W:Wd) (h:Heap) (μ:Addr→Prop) (F:List Addr) (v:Value) (d:D):Prop
 |mk (a kvs ds bs) (f:F=a::bs) (e:v= .ref a) (g:d= .dict ds) (n:a≠sysModules) (x:h.DictOf (SK W) a kvs) (k:kvs.map (·.1)=ds.map (·.1)) (nd:(a::bs).Nodup) (b:kvs.map (·.2)=bs.map .ref)
   (r: ∀(i:Nat) b d,bs[i]?=some b→(ds.map (·.2))[i]?=some d→ ∃kvs' ds',d= .dict ds'∧IsD W h μ b kvs' ds')
inductive FI (W:Wd) (h:Heap) (μ:Addr→Prop) (F:List Addr) (v:Value) (d:D):Prop
 |mk (a C dx:Addr) (kvs:List (Str×Value)) (fs) (f:F= [a,dx]) (e:v= .ref a) (g:d= .inst C fs) (n:a≠dx) (o:h.get? a=some (PySem.W.instObj C dx)) (ns:h.Ns1 dx (fun x=>kvs.lookup x)) (k:kvs.map (·.1)=fs.map (·.1))
   (r:RepL W h μ (kvs.map (·.2)) (fs.map (·.2)))
noncomputable def RepF (W:Wd) (h:Heap) (μ:Addr→Prop) (t:Tag) (F:List Addr) (v:Value) (d:D):Prop:=match t with
 | .fr=>F= []∧Rep W h μ v d
 | .o1=>F1 W h μ F v d
 | .o2=>F2 W h μ F v d
 | .oi=>FI W h μ F v d
theorem RepF.fr (r:Rep W h μ v d):RepF W h μ .fr [] v d:=⟨rfl,r⟩
theorem RepF.toO (r:RepF W h μ t F v d):RepO W h μ t v d:=match t,r with
 | .fr,r=>r.2
 | .o1,.list a vs ds _ e g p r=> .ls ⟨a,vs,ds,e,g,p.isList,r⟩
 | .o1,.dict a kvs ds _ e g x=> .dc ⟨a,kvs,ds,e,g,x⟩
 | .o2,.mk a kvs ds bs _ e g n x k _ b r=>⟨a,kvs,ds,e,g,n,x,k,fun i v d q1 q2=>by
   obtain⟨b0,e1,e2⟩:=map_at (b▸q1)
   obtain⟨k1,d1,z1,z2⟩:=r i b0 d e1 q2
   exact⟨b0,k1,d1,e2.symm,z1,z2⟩⟩
 | .oi,.mk a C dx kvs fs _ e g _ o ns k r=>⟨a,C,dx,kvs,fs,e,g,o,ns.ns,k,r⟩
theorem RepF.go (hX: ∀a,X a→μ a)(hF: ∀a∈F,¬X a)(k:KeptBut X h h')(m: ∀b o,h.get? b=some o→ ¬μ b→ ¬μ' b)(r:RepF W h μ t F v d):RepF W h' μ' t F v d:=
 have k':KeptBut μ h h':=fun b o e n m=>k b o e n fun q=>m (hX b q)
 have dk: ∀{a kvs ds},a∈F→IsD W h μ a kvs ds→IsD W h' μ' a kvs ds:=fun f x=>⟨x.1,dictOf_at x.2 (hF _ f) k,x.3,x.4.go k' m⟩
 match t,r with
 | .fr,r=>⟨r.1,r.2.go k' m⟩
 | .o1,.list a vs ds f e g p r=> .list a vs ds f e g (by obtain⟨n,z⟩:=p;exact⟨n,k _ _ z (soft_seq rfl) (hF _ (f▸ .head _))⟩) (r.go k' m)
 | .o1,.dict a kvs ds f e g x=> .dict a kvs ds f e g (dk (f▸ .head _) x)
 | .o2,.mk a kvs ds bs f e g n x c d b r=> .mk a kvs ds bs f e g n (dictOf_at x (hF _ (f▸ .head _)) k) c d b fun i b0 d q1 q2=>by
   obtain⟨k1,d1,z1,z2⟩:=r i b0 d q1 q2
   exact⟨k1,d1,z1,dk (f▸ .tail _ (List.mem_of_getElem? q1)) z2⟩
 | .oi,.mk a C dx kvs fs f e g n o ns c r=> .mk a C dx kvs fs f e g n (k _ _ o (soft_cls fun q=>nomatch q) (hF _ (f▸ .head _))) (ns1_at ns (hF _ (f▸ .tail _ (.head _))) k) c (r.go k' m)
theorem RepF.but (hX: ∀a,X a→μ a)(hF: ∀a∈F,¬X a)(k:KeptBut X h h')(r:RepF W h μ t F v d):RepF W h' μ t F v d:=r.go hX hF k fun ω ω ω q=>q
theorem RepF.mu (k: ∀a o,h.get? a=some o→μ' a→μ a)(r:RepF W h μ t F v d):RepF W h μ' t F v d:=r.go (X:=fun ω=>False) (fun ω q=>q.elim) (fun ω ω q=>q) (fun ω ω e ω ω=>e) fun b o e n q=>n (k b o e q)
theorem F2.len {kvs:List (Str×Value)}{ds:List (Str×D)}{bs:List Addr}(k:kvs.map (·.1)=ds.map (·.1))(b:kvs.map (·.2)=bs.map .ref):bs.length=ds.length:=
 (List.length_map Value.ref).symm.trans ((congrArg List.length b).symm.trans ((List.length_map _).trans ((List.length_map (·.1)).symm.trans ((congrArg List.length k).trans (List.length_map _)))))
theorem RepF.there (r:RepF W h μ t F v d): ∀a∈F,∃o,h.get? a=some o:=fun x hx=>
 have one: ∀{a:Addr},(∃o,h.get? a=some o)→F= [a]→ ∃o,h.get? x=some o:=fun e f=>List.mem_singleton.mp (f▸hx)▸e
 match t,r with
 | .fr,r=>nomatch r.1▸hx
 | .o1,.list a vs ds f e g p r=>one (by obtain⟨_,e⟩:=p;exact⟨_,e⟩) f
 | .o1,.dict a kvs ds f e g y=>one (by obtain⟨o,_,_,e,_⟩:=y.2;exact⟨o,e⟩) f
 | .o2,.mk a kvs ds bs f e g n y k _ b r=>(List.mem_cons.mp (f▸hx)).elim (fun q=>by obtain⟨o,_,_,e,_⟩:=y;exact⟨o,q▸e⟩) fun q=>by
   obtain⟨i,hi⟩:=List.getElem?_of_mem q
   have hl:i<(ds.map (·.2)).length:=(List.length_map _).symm▸F2.len k b▸(List.getElem?_eq_some_iff.mp hi).1
   obtain⟨_,_,_,z⟩:=r i x _ hi (List.getElem?_eq_getElem hl)
   obtain⟨o,_,_,e,_⟩:=z.2
   exact⟨o,e⟩
 | .oi,.mk a C dx kvs fs f e g n o ns k r=>(List.mem_cons.mp (f▸hx)).elim (fun q=>⟨_,q▸o⟩) fun q=>by obtain⟨o,_,_,e,_⟩:=ns;exact⟨o,List.mem_singleton.mp q▸e⟩
noncomputable def SeeFt (W:Wd) (env:Env) (μ:Addr→Prop) (F:Str→List Addr) (ρ:Rho) (h:Heap):Prop:= ∀x t d,ρ.lookup x=some (t,d)→ ∃v,Holds env h x v∧RepF W h μ t (F x) v d
theorem SeeFt.see {F:Str→List Addr}(x:SeeFt W env μ F ρ h):See W env μ ρ h:=fun n t d e=>by obtain⟨v,a,b⟩:=x n t d e;exact⟨v,a,b.toO⟩
theorem SeeFt.but {F:Str→List Addr}(x:SeeFt W env μ F ρ h)(hX: ∀a,X a→μ a)(hF: ∀n,∀a∈F n,¬X a)(k:KeptBut X h h')(hh: ∀n v,Holds env h n v→Holds env h' n v):SeeFt W env μ F ρ h':=
 fun n t d e=>by obtain⟨v,a,b⟩:=x n t d e;exact⟨v,hh n v a,b.but hX (hF n) k⟩
structure Lay (env:Env)(nm:Names)(h:Heap):Prop where
 kind:env.scope.kind= .function
 loc: ∀x,nm.lookup x=some .local→env.kindOf x=some .local
 cel: ∀x,nm.lookup x=some .cell→env.kindOf x=some .cell∧ ∃c v,env.cells.lookup x=some c∧h.IsCell c v
 ns: ∃m,h.Ns env.locals m
 apart: ∀x c,env.cells.lookup x=some c→c≠env.locals
 one: ∀x y c,nm.lookup x=some .cell→env.cells.lookup x=some c→env.cells.lookup y=some c→y=x
noncomputable def OwnP (env:Env) (nm:Names) (a:Addr):Prop:=a=env.locals∨ ∃x,nm.lookup x=some .cell∧env.cells.lookup x=some a
theorem Lay.at (L:Lay env nm h)(k:KeptBut X h h')(hX: ∀a,X a→ ¬OwnP env nm a):Lay env nm h':=
 ⟨L.kind,L.loc,fun x e=>by obtain⟨a,c,v,b,d⟩:=L.cel x e;exact⟨a,c,v,b,cell_at d (fun q=>hX c q (.inr ⟨x,e,b⟩)) k⟩,by obtain⟨m,n⟩:=L.ns;exact⟨m,ns_at n (fun q=>hX _ q (.inl rfl)) k⟩,L.apart,L.one⟩
theorem Lay.there (L:Lay env nm h): ∀a,OwnP env nm a→ ∃o,h.get? a=some o
 |_,.inl q=>by obtain⟨_,o,_,_,ho,_⟩:=L.ns;exact⟨o,q▸ho⟩
 |_,.inr ⟨x,e,c⟩=>by obtain⟨_,_,_,e1,o,ho,_⟩:=L.cel x e;exact⟨o,Option.some.inj (e1.symm.trans c)▸ho⟩
theorem holds_off {x:Str}(k:KeptBut X h h')(hl: ¬X env.locals)(hc: ∀x c,env.cells.lookup x=some c→ ¬X c):Holds env h x v→Holds env h' x v
 | .inl ⟨a,m,b,c⟩=> .inl ⟨a,m,ns_at b hl k,c⟩
 | .inr ⟨a,c,b,d⟩=> .inr ⟨a,c,b,cell_at d (hc x c b) k⟩
structure Named (env:Env)(nm:Names)(h:Heap)(x:Str)(v:Value)(h':Heap):Prop where
 own: ∃a,OwnP env nm a∧Heap.SameBut a h h'
 lay:Lay env nm h'
 holds:Holds env h' x v
 old: ∀y u,y≠x→Holds env h y u→Holds env h' y u
theorem Named.old' {x:Str}(n:Named env nm h x v h')(b:Addr)(o:Obj)(e:h.get? b=some o)(q: ¬OwnP env nm b):h'.get? b=some o:=by obtain⟨_,a,s⟩:=n.own;exact s.extBut b o (fun z=>q (z▸a)) e
theorem Named.but {x:Str}(n:Named env nm h x v h'):KeptBut (OwnP env nm) h h':=fun b o e ω=>n.old' b o e
theorem ns_fun {a:Addr}{m m':Str→Option Value}(x:h.Ns a m)(y:h.Ns a m')(n:Str):m n=m' n:=by
 obtain⟨o,es,ep,ho,hd,hk,hm⟩:=x
 obtain⟨o',es',ep',ho',hd',hk',hm'⟩:=y
 cases ho.symm.trans ho'
 cases hd.symm.trans hd'
 exact(hm n).symm.trans (hm' n)
theorem store_name {x:Str}{Q:Unit→Shared→Prop}(L:Lay env nm s.heap)(hx:nm.lookup x=some .local∨nm.lookup x=some .cell)
  (h: ∀h' tk,Named env nm s.heap x v h'→s.toks≤tk→Q () {s with heap:=h',toks:=tk}):wpAny (MD W) A (storeName env x v) Q E s:=by
 obtain⟨m,hn⟩:=L.ns
 refine hx.elim (fun hx=> ?_) fun hx=> ?_
 ·refine wpAny_storeName_local (L.loc x hx) hn (fun h' hn' hs=> ?_) (by rw[L.kind];rfl)
  refine h h' _ ⟨⟨_,.inl rfl,hs⟩,⟨L.kind,L.loc,fun y e=>by obtain⟨a,c,v,b,d⟩:=L.cel y e;exact⟨a,c,v,b,d.sameBut hs (L.apart y c b)⟩,⟨_,hn'⟩,L.apart,L.one⟩,.inl ⟨L.loc x hx,_,hn',if_pos rfl⟩,fun y u hy q=> ?_⟩ (Nat.le_succ _)
  exact q.elim (fun z0=>by obtain⟨a,m1,b,c⟩:=z0;exact .inl ⟨a,_,hn',(if_neg hy).trans ((ns_fun hn b y).trans c)⟩) fun z1=>by obtain⟨a,c,b,d⟩:=z1;exact .inr ⟨a,c,b,d.sameBut hs (L.apart y c b)⟩
 ·obtain⟨hk,c,v0,hc,hv⟩:=L.cel x hx
  refine wpAny_storeName_cell L.kind hk hc hv fun h' hv' hs=> ?_
  have hne:env.locals≠c:=fun q=>L.apart x c hc q.symm
  refine h h' s.toks ⟨⟨c,.inr ⟨x,hx,hc⟩,hs⟩,⟨L.kind,L.loc,fun y e=> ?_,⟨m,hn.sameBut hs hne⟩,L.apart,L.one⟩,.inr ⟨hk,c,hc,hv'⟩,fun y u hy q=> ?_⟩ (Nat.le_refl _)
  ·obtain⟨a,c1,v1,b,d⟩:=L.cel y e
   exact if hcc:c1=c then⟨a,c1,_,b,hcc▸hv'⟩ else⟨a,c1,v1,b,d.sameBut hs hcc⟩
  ·exact q.elim (fun z2=>by obtain⟨a,m1,b,e⟩:=z2;exact .inl ⟨a,m1,b.sameBut hs hne,e⟩) fun z3=>by obtain⟨a,c1,b,d⟩:=z3;exact .inr ⟨a,c1,b,d.sameBut hs fun q=>hy (L.one x y c hx hc (q▸b))⟩
theorem bind_name {x:Str}{p:Pos}{Q:Unit→Shared→Prop}(L:Lay env nm s.heap)(hx:nm.lookup x=some .local∨nm.lookup x=some .cell)
  (h: ∀h' tk,Named env nm s.heap x v h'→s.toks≤tk→Q () {s with heap:=h',toks:=tk}):wpAny (MD W) A (assign (.Name x p) env v) Q E s:=wpAny_assign_Name (store_name L hx h)
end
end Mine
namespace Mine
open PySem PyProof.Rows
section
variable {W:Wd}{A:Around}{E:Value→Shared→Prop}{s:Shared}
theorem draw_list {it t:Addr}(hne:t≠it): ∀(l:List Value) (i:Nat) (s:Shared) (items:Array Value) (Q:List Value→Shared→Prop),items.toList.drop i=l→s.heap.IsListIter it t i→s.heap.IsList t items→
  (∀h',h'.IsListIter it t (i+l.length)→Heap.SameBut it s.heap h'→Q l {s with heap:=h'})→wpAny (MD W) A (draw (.ref it) l.length) Q E s
 | [],i,s,_,Q,_,hit,_,hQ=>wpAny_pure (hQ s.heap hit (Heap.SameBut.refl ..))
 |x::l,i,s,items,Q,hd,hit,ht,hQ=>by
  have hlt:i<items.toList.length:=Nat.lt_of_not_le fun q=>nomatch hd.symm.trans (List.drop_of_length_le q)
  have hx:items[i]?=some x:=Array.getElem?_toList.symm.trans (List.head?_drop.symm.trans (congrArg List.head? hd))
  have hl:items.toList.drop (i+1)=l:=List.tail_drop.symm.trans (congrArg List.tail hd)
  show wpAny _ _ (pyNext (.ref it)>>=_) Q E s
  refine wpAny_bind (wpAny_pyNext_list_item hit ht hx fun h₁ hit₁ hs₁=>wpAny_bind (wpAny_holding (draw_list hne l (i+1) _ _ _ hl hit₁ (ht.extBut hs₁.extBut hne) fun h₂ hit₂ hs₂=>wpAny_pure (hQ h₂ ?_ (hs₁.trans hs₂)))))
  rw[List.length_cons,←Nat.add_assoc,Nat.add_right_comm]
  exact hit₂
theorem unpackItems_list {t:Addr}{vs:List Value}{Q:List Value→Shared→Prop}(hh:A.handled=none)(ht:s.heap.IsList t vs.toArray)
  (hQ: ∀h',Heap.ExtBut s.heap.objs.size s.heap h'→Q vs {s with heap:=h'}):wpAny (MD W) A (unpackItems (.ref t) vs.length none) Q E s:=by
 have hlt:t≠s.heap.objs.size:=by obtain⟨_,ho,_⟩:=ht;exact Nat.ne_of_lt (Heap.lt_size ho)
 unfold unpackItems
 refine wpAny_bind ?_
 unfold notIterableAtAll
 refine wpAny_bind (wpAny_specialOf ht.typeIs slot_list_iter.lookup (wpAny_pure ?_))
 simp only[Bool.false_eq_true,if_false]
 refine wpAny_bind (wpAny_holding (wpAny_pyIter_list ht (wpAny_bind (wpAny_holding (draw_list hlt vs 0 _ _ _ rfl ⟨_,Heap.get?_push_size _ rfl,rfl,rfl⟩ (ht.push _) fun h₁ hit₁ hs₁=> ?_)))))
 rw[if_neg (fun q=>absurd (beq_self_eq_true vs.length) (by simpa [bne] using q))]
 refine wpAny_bind (wpAny_holding (wpAny_pyNext_list_end hh hit₁ ((ht.push _).extBut hs₁.extBut hlt) (by simp) fun h₂ he₂=> ?_))
 exact wpAny_pure (hQ h₂ fun b o hb e=>he₂ b o hb (hs₁.extBut b o hb (Heap.get?_push_of_some _ e)))
end
inductive ItemIs (W:Wd) (h:Heap) (μ:Addr→Prop) (v:Value) (d:D):Prop
 |rep:Rep W h μ v d→ItemIs W h μ v d
 |pair (T:Addr) (vs ds):v= .ref T→d= .tup ds→IsTup h T vs.toArray→RepL W h μ vs ds→ItemIs W h μ v d
section
variable {W:Wd}{s s' s'':Shared}{μ:Addr→Prop}{A:Around}{E:Value→Shared→Prop}{nm:Names}{ρ ρ':Rho}{env:Env}{X Y:Addr→Prop}{F:Str→List Addr}{h h':Heap}{x n:Str}{v:Value}{d:D}
theorem lookup_filter_ne (h:n≠x): ∀{ρ:Rho},(ρ.filter fun e=>e.1≠x).lookup n=ρ.lookup n
 | []=>rfl
 |(k,e)::ρ=>by
  rw[List.filter_cons,List.lookup_cons]
  by_cases hk:k=x
  ·rw[if_neg (fun q=>(of_decide_eq_true q:k≠x) hk),beq_false_of_ne (hk▸h)]
   exact lookup_filter_ne h
  ·rw[if_pos (decide_eq_true hk),List.lookup_cons,lookup_filter_ne h]
theorem lookup_setV {t:Tag}:(setV ρ x t d).lookup n=if n=x then some (t,d) else ρ.lookup n:=by
 unfold setV
 rw[List.lookup_cons]
 by_cases h:n=x
 ·rw[if_pos h,beq_iff_eq.mpr h]
 ·rw[if_neg h,beq_false_of_ne h]
  exact lookup_filter_ne h
structure Bound (W:Wd)(env:Env)(nm:Names)(μ:Addr→Prop)(F:Str→List Addr)(ρ':Rho)(s s':Shared):Prop where
 old: ∀b o,s.heap.get? b=some o→ ¬OwnP env nm b→s'.heap.get? b=some o
 rest:s'={s with heap:=s'.heap,toks:=s'.toks}
 tk:s.toks≤s'.toks
 lay:Lay env nm s'.heap
 see: ∃F',SeeFt W env μ F' ρ' s'.heap∧ ∀n,F' n=F n∨F' n= []
noncomputable def offF (F:Str→List Addr) (x:Str):Str→List Addr:=fun n=>if n=x then [] else F n
theorem offF_or:offF F x n=F n∨offF F x n= []:=if h:n=x then .inr (if_pos h) else .inl (if_neg h)
theorem SeeFt.set (S:SeeFt W env μ F ρ h)(hX: ∀a,X a→μ a)(hF: ∀n,∀a∈F n,¬X a)(k:KeptBut X h h')(hv:Holds env h' x v)(ho: ∀y u,y≠x→Holds env h y u→Holds env h' y u)
  (r:Rep W h' μ v d):SeeFt W env μ (offF F x) (setV ρ x .fr d) h':=fun n t e q=>by
 rw[lookup_setV] at q
 unfold offF
 by_cases hn:n=x
 ·rw[if_pos hn] at q
  cases q
  rw[if_pos hn]
  exact⟨v,hn▸hv,.fr r⟩
 ·rw[if_neg hn] at q⊢
  exact by obtain⟨u,a,b⟩:=S n t e q;exact⟨u,ho n u hn a,b.but hX (hF n) k⟩
theorem Named.bound {tk:Nat}(S:SeeFt W env μ F ρ s.heap)(hY: ∀a,OwnP env nm a→μ a)(hF: ∀n,∀a∈F n,¬OwnP env nm a)(n:Named env nm s.heap x v h')(ht:s.toks≤tk)(r:Rep W s.heap μ v d):
  Bound W env nm μ F (setV ρ x .fr d) s {s with heap:=h',toks:=tk}:=
 ⟨n.old',rfl,ht,n.lay,_,S.set hY hF n.but n.holds n.old (r.but fun b o e p m=>n.but b o e p fun q=>m (hY b q)),fun ω=>offF_or⟩
theorem bindN_inv (e:bindN nm ρ x d=some ρ'):(nm.lookup x=some .local∨nm.lookup x=some .cell)∧setV ρ x .fr d=ρ':=dite_some e (fun h e=>⟨of_decide_eq_true h,Option.some.inj e⟩) fun e=>nomatch e
theorem Bound.chain {F':Str→List Addr}(b:Bound W env nm μ F ρ s s')(hf: ∀n,F' n=F n∨F' n= [])(c:Bound W env nm μ F' ρ' s' s''):Bound W env nm μ F ρ' s s'':=by
 obtain⟨F2,s2,h2⟩:=c.see
 exact⟨fun a o e n=>c.old a o (b.old a o e n) n,c.rest.trans (congrArg (fun q:Shared=>{q with heap:=s''.heap,toks:=s''.toks}) b.rest),Nat.le_trans b.tk c.tk,c.lay,F2,s2,fun n=>(h2 n).elim (fun q=>(hf n).imp q.trans q.trans) .inr⟩
theorem bindNames_sound (hY: ∀a,OwnP env nm a→μ a): ∀(ts:List Expr) (vs:List Value) (ds:List D) (ρ ρ':Rho) (F:Str→List Addr) (s:Shared),bindTs nm ρ ts ds=some ρ'→(∀n,∀a∈F n,¬OwnP env nm a)→Lay env nm s.heap→SeeFt W env μ F ρ s.heap→RepL W s.heap μ vs ds→
  wpAny (MD W) A (assignInOrder ((assignEach ts env).map (·.2)) vs) (fun ω s'=>Bound W env nm μ F ρ' s s') No s
 | [],vs,ds,ρ,ρ',F,s,e,hF,L,S,r=>by
   cases ds with
   |nil=>exact os e fun e=>e▸r.nil_elim (wpAny_pure ⟨fun b o e ω=>e,rfl,Nat.le_refl _,L,F,S,fun ω=> .inl rfl⟩)
   |cons=>first|exact nf e|exact ns e|cases e
 |t::ts,vs,ds,ρ,ρ',F,s,e,hF,L,S,r=>by
  cases ds with
  |nil=>first|exact nf e|exact ns e|cases e
  |cons d ds=>
   refine ob e fun x e1 e=>ob e fun ρ1 e2 e=>r.cons_elim fun v vs a b=> ?_
   obtain⟨p,rfl⟩:=nameOf_inv e1
   obtain⟨hx,rfl⟩:=bindN_inv e2
   show wpAny (MD W) A (do holding _ (assign (.Name x p) env _);assignInOrder ((assignEach ts env).map (·.2)) _) _ _ s
   refine wpAny_bind (wpAny_holding (bind_name L hx fun h' tk n htk=> ?_))
   have bd:=n.bound S hY hF htk a
   obtain⟨F',sf,hf⟩:=bd.see
   exact wpAny_mono (bindNames_sound hY ts vs ds _ _ F' {s with heap:=h',toks:=tk} e (fun m a ha=>(hf m).elim (fun q=>hF m a (q▸ha)) fun q=>nomatch q▸ha) n.lay sf (b.but fun b o e n' m=>n.but b o e n' fun q=>m (hY b q))) (fun ω s' z=>bd.chain hf z) no
theorem each_length: ∀ts:List Expr,(assignEach ts env).length=ts.length
 | []=>rfl
 |t::ts=>by
  have ih:=each_length ts
  cases t<;>exact congrArg (· +1) ih
theorem bindTs_names: ∀{ts:List Expr} {ds:List D} {ρ ρ':Rho},bindTs nm ρ ts ds=some ρ'→ts.length=ds.length∧(assignEach ts env).findIdx? (·.1)=none
 | [],[],_,_,_=>⟨rfl,rfl⟩
 | [],_::_,_,_,e=>nomatch e
 |_::_,[],_,_,e=>nomatch e
 |t::ts,d::ds,ρ,ρ',e=>ob e fun x e1 e=>ob e fun ρ1 e2 e3=>by
  obtain⟨p,rfl⟩:=nameOf_inv e1
  have ih:=bindTs_names e3
  refine⟨congrArg (· +1) ih.1,?_⟩
  show List.findIdx? _ ((false,_)::assignEach ts env)=none
  rw[List.findIdx?_cons,ih.2]
  rfl
theorem bindTup_sound (hY: ∀a,OwnP env nm a→μ a){T:Addr}{vs:List Value}{ds:List D}{ts:List Expr}{k0:Nat}{p:Pos}(e:bindTs nm ρ ts ds=some ρ')(hF: ∀n,∀a∈F n,¬OwnP env nm a)(L:Lay env nm s.heap)(S:SeeFt W env μ F ρ s.heap)(r:RepL W s.heap μ vs ds)
  (h: ∀Q:Unit→Shared→Prop,(∀h',Heap.ExtBut s.heap.objs.size s.heap h'→wpAny (MD W) A (assignInOrder ((assignEach ts env).map (·.2)) vs) Q No {s with heap:=h'})→wpAny (MD W) A (assign (.Tuple ts k0 p) env (.ref T)) Q No s):
  wpAny (MD W) A (assign (.Tuple ts k0 p) env (.ref T)) (fun ω s'=>Bound W env nm μ F ρ' s s') No s:=h _ fun h' hx=>
 have hk: ∀b o,s.heap.get? b=some o→h'.get? b=some o:=fun b o q=>hx b o (Nat.ne_of_lt (Heap.lt_size q)) q
 have kb:KeptBut (fun ω=>False) s.heap h':=fun b o q ω ω=>hk b o q
 wpAny_mono (bindNames_sound (W:=W) hY ts vs ds ρ ρ' F {s with heap:=h'} e hF (L.at kb fun ω q=>q.elim) (S.but (fun ω q=>q.elim) (fun ω ω ω q=>q) kb fun n v q=>q.kept (.of hk)) (r.kept (.of hk)))
  (fun ω s' z=>⟨fun b o q n=>z.old b o (hk b o q) n,z.rest,z.tk,z.lay,z.see⟩) no
theorem bind_sound (hh:A.handled=none)(hY: ∀a,OwnP env nm a→μ a){t:Expr}(e:bindT nm ρ t d=some ρ')(hF: ∀n,∀a∈F n,¬OwnP env nm a)(L:Lay env nm s.heap)
  (S:SeeFt W env μ F ρ s.heap) (r:ItemIs W s.heap μ v d) (hn:isTupT t=true∨Rep W s.heap μ v d):wpAny (MD W) A (assign t env v) (fun ω s'=>Bound W env nm μ F ρ' s s') No s:=by
 unfold bindT at e
 generalize view t=w at e
 cases w with
 |name x p=>
  obtain⟨hx,rfl⟩:=bindN_inv e
  exact bind_name L hx fun h' tk n htk=>n.bound S hY hF htk (hn.resolve_left fun q=>nomatch q)
 |tuple ts k0 p=>
  refine ob e fun ds e1 e=> ?_
  have h12:=bindTs_names (env:=env) e
  have tup: ∀{T:Addr} {vs:List Value},IsTup s.heap T vs.toArray→RepL W s.heap μ vs ds→wpAny (MD W) A (assign (.Tuple ts k0 p) env (.ref T)) (fun ω s'=>Bound W env nm μ F ρ' s s') No s:=fun hT hr=>
   bindTup_sound hY e hF L S hr fun Q h=>assign_Tuple_tuple hh hT ((each_length ts).trans (h12.1.trans (hr.1.symm.trans List.size_toArray.symm))) h12.2 h
  cases r with
  |pair T vs ds' hv hd hT hr=>
   cases hv
   cases hd
   exact os e1 fun e1=>tup hT (e1▸hr)
  |rep r=>
   refine(asSeq_inv e1).elim (fun q=>(q▸r:Rep W s.heap μ v (.tup ds)).tup_elim fun T vs ω b c=>tup b c) fun q=>(q▸r:Rep W s.heap μ v (.list ds)).list_elim fun T vs ω b c=>bindTup_sound hY e hF L S c fun Q h=> ?_
   rw[assign_Tuple]
   refine wpAny_bind (wpAny_standAt ?_)
   unfold unpack
   rw[h12.2,each_length,h12.1,←c.1]
   exact wpAny_bind (wpAny_holding (unpackItems_list hh b h))
 |_=>first|exact nf e|exact ns e|cases e
end
end Mine
namespace Mine
open PySem PyProof.Rows
noncomputable def Fit (tgt:Expr) (d:D):Prop:=(∃x p,tgt= .Name x p)∨((∃ts k p,tgt= .Tuple ts k p)∧(asSeq d).isSome=true)
theorem fit_of {nm:Names}{ρ ρ':Rho}{t:Expr}{d:D}(e:bindT nm ρ t d=some ρ'):Fit t d:=by
 unfold bindT at e
 generalize view t=w at e
 cases w with
 |name=>exact .inl ⟨_,_,rfl⟩
 |tuple=>exact .inr ⟨⟨_,_,_,rfl⟩,ob e fun ω e1 ω=>e1▸rfl⟩
 |_=>first|exact nf e|exact ns e|cases e
noncomputable def Nu (h₁:Heap) (μ:Addr→Prop) (a:Addr):Prop:=μ a∨h₁.get? a=none
structure ItOk (W:Wd)(A:Around)(I:Addr)(fp wr:List Addr)(h₁:Heap)(μ:Addr→Prop)(ds:List D)(pr:Bool)(St:Nat→Heap→Prop):Prop where
 sub: ∀b∈wr,b∈fp
 new: ∀b∈wr,h₁.get? b=none
 off: ∀b∈fp,b∈wr∨(¬μ b∧ ∃o,h₁.get? b=some o)
 ex: ∀i h,St i h→ ∀b∈fp,∃o,h.get? b=some o∧ ¬Soft o
 frame: ∀i h h',St i h→(∀b∈fp,∀o,h.get? b=some o→h'.get? b=some o)→St i h'
 item: ∀i d (s:Shared) (tgt:Expr) (Q:Option Value→Shared→Prop) (E:Value→Shared→Prop),ds[i]?=some d→Fit tgt d→(pr=true→isTupT tgt=true)→St i s.heap→KeptBut (Nu h₁ μ) h₁ s.heap→
  (∀v h' tk,(∀b o,b∉wr→s.heap.get? b=some o→h'.get? b=some o)→s.toks≤tk→
    (∀(Q':Unit→Shared→Prop) (E':Value→Shared→Prop),(∀h'',St (i+1) h''→(∀b o,b∉wr→s.heap.get? b=some o→h''.get? b=some o)→ItemIs W h'' (Nu h₁ μ) v d→(isTupT tgt=true∨Rep W h'' (Nu h₁ μ) v d)→
      Q' () {s with heap:=h'',toks:=tk})→wpAny (MD W) A (letOwnedTupleGo tgt (.ref I) v) Q' E' {s with heap:=h',toks:=tk})→
    Q (some v) {s with heap:=h',toks:=tk})→wpAny (MD W) A (pyNext (.ref I)) Q E s
 done: ∀(s:Shared) (Q:Option Value→Shared→Prop) (E:Value→Shared→Prop),St ds.length s.heap→
  (∀h' tk,(∀b o,b∉wr→s.heap.get? b=some o→h'.get? b=some o)→s.toks≤tk→Q none {s with heap:=h',toks:=tk})→wpAny (MD W) A (pyNext (.ref I)) Q E s
 self: ∀i (s:Shared) (Q:Value→Shared→Prop) (E:Value→Shared→Prop),St i s.heap→Q (.ref I) s→wpAny (MD W) A (pyIter (.ref I)) Q E s
section
variable {W:Wd}{s s' s'':Shared}{μ:Addr→Prop}{A:Around}{E:Value→Shared→Prop}{nm:Names}{ρ:Rho}{env:Env}{k:Nat}{self:Ev}{C:Cfg}{X Y:Addr→Prop}{F:Str→List Addr}{h₁:Heap}
theorem nu_of (a:Addr)(o:Obj)(e:h₁.get? a=some o)(q:Nu h₁ μ a):μ a:=q.resolve_right fun z=>nomatch z.symm.trans e
theorem RepL.nu {vs:List Value}{ds:List D}(r:RepL W h₁ μ vs ds):RepL W h₁ (Nu h₁ μ) vs ds:=r.mu nu_of
inductive IterOk (W:Wd) (A:Around) (μ:Addr→Prop) (s:Shared) (ds:List D) (pr:Bool) (it:Value) (s₂:Shared):Prop
 |mk (t:Stp W s s₂) (I:Addr) (fp wr:List Addr) (h₁:Heap) (St:Nat→Heap→Prop) (e:it= .ref I) (ok:ItOk W A I fp wr h₁ μ ds pr St) (st:St 0 s₂.heap) (kb:KeptBut (Nu h₁ μ) h₁ s₂.heap)
  (th: ∀b o,s.heap.get? b=some o→ ∃o',h₁.get? b=some o') (th2: ∀b o,h₁.get? b=some o→ ∃o',s₂.heap.get? b=some o')
theorem IterOk.of_walks {o:Obj}{rest:List Addr}{n:Nat}{P:Nat→Value→Prop}{St:Nat→Heap→Prop}{ds:List D}(Wk:Walks PW W.w A s.heap.objs.size (s.heap.objs.size::rest) [s.heap.objs.size] n P St)(hn:n=ds.length)
  (hr: ∀b∈rest,¬μ b∧ ∃o,s.heap.get? b=some o) (ex: ∀i h,St i h→ ∀b∈s.heap.objs.size::rest,∃o,h.get? b=some o∧ ¬Soft o) (hP: ∀i v d,P i v→ds[i]?=some d→Rep W s.heap (Nu s.heap μ) v d)
  (go: ∀i d tgt (s':Shared) v (Q:Unit→Shared→Prop) (E:Value→Shared→Prop),ds[i]?=some d→Fit tgt d→St (i+1) s'.heap→Q () s'→wpAny (MD W) A (letOwnedTupleGo tgt (.ref s.heap.objs.size) v) Q E s')
  (st:St 0 (s.heap.push o)):IterOk W A μ s ds false (.ref s.heap.objs.size) {s with heap:=s.heap.push o}:=
 have new: ∀b∈ [s.heap.objs.size],s.heap.get? b=none:=fun b hb=>List.mem_singleton.mp hb▸none_of_size (Nat.le_refl _)
 ⟨.push _ _,_,_,_,s.heap,St,rfl,{
   sub:=Wk.sub
   new:=new
   off:=fun b hb=>(List.mem_cons.mp hb).imp (fun q=>List.mem_singleton.mpr q) (hr b)
   ex:=ex
   frame:=Wk.frame
   item:=fun i d s' tgt Q E hd hf ω st hk hQ=>wpAny_with_toks (Nat.le_refl _) (Wk.item i s' _ _ (hn▸(List.getElem?_eq_some_iff.mp hd).1) st fun v h' tk hp hst hkk htk=>hQ v h' tk hkk htk fun Q' E' hq=>
    have r:=(hP i v d hp hd).but fun b o e n m=>hkk b o (fun q=>m (.inr (new b q))) (hk b o e n m)
    go i d tgt _ v _ _ hd hf hst (hq h' hst hkk (.rep r) (.inr r)))
   done:=fun s Q E st hQ=>wpAny_with_toks (Nat.le_refl _) (Wk.done s _ _ (hn▸st) hQ)
   self:=Wk.self},st,(Kept.push _ _).toBut,fun b o e=>⟨o,e⟩,fun b o e=>⟨o,Heap.get?_push_of_some _ e⟩⟩
theorem go_name {I:Addr}{tgt:Expr}{v:Value}{d:D}{Q:Unit→Shared→Prop}(hf:Fit tgt d)(hd:asSeq d=none)(q:Q () s):wpAny (MD W) A (letOwnedTupleGo tgt (.ref I) v) Q E s:=by
 cases hf with
 |inl h=>
  obtain⟨x,p,rfl⟩:=h
  exact wpAny_pure q
 |inr h=>exact nomatch (congrArg Option.isSome hd).symm.trans h.2
theorem go_list {I l:Addr}{i:Nat}{tgt:Expr}{d:D}{v:Value}{Q:Unit→Shared→Prop}(hf:Fit tgt d)(hit:s.heap.IsListIter I l i)(q:Q () s):wpAny (MD W) A (letOwnedTupleGo tgt (.ref I) v) Q E s:=by
 cases hf with
 |inl h=>
  obtain⟨x,p,rfl⟩:=h
  exact wpAny_pure q
 |inr h=>
  obtain⟨⟨ts,k,p,rfl⟩,_⟩:=h
  obtain⟨o,ho,hc,hd⟩:=hit
  unfold letOwnedTupleGo
  cases v with
  |ref a=>
   refine wpAny_bind (wpAny_load ho ?_)
   rw[hc,hd]
   exact wpAny_pure q
  |_=>exact wpAny_pure q
@[elab_as_elim] theorem mem_one {I a b:Addr} {P:Addr→Prop} (h:b∈ [I,a]) (h1:P I) (h2:P a):P b:=(List.mem_cons.mp h).elim (fun q=>q▸h1) fun q=>List.mem_singleton.mp q▸h2
theorem hard_of {h:Heap}{b:Addr}{o:Obj}{n:String}(e:h.get? b=some o)(c:o.cls= .type n): ∃o,h.get? b=some o∧ ¬Soft o:=⟨o,e,soft_cls fun q=>nomatch c.symm.trans q⟩
theorem iter_list {l:Addr}{vs:List Value}{ds:List D}(hh:A.handled=none)(hμ: ¬μ l)(hl:s.heap.IsList l vs.toArray)(r:RepL W s.heap μ vs ds):wpAny (MD W) A (pyIter (.ref l)) (IterOk W A μ s ds false) No s:=
 have⟨ob,ho,_⟩:=id hl
 wpAny_pyIter_list hl (.of_walks (Walks.list hh _ l (Nat.ne_of_lt (Heap.lt_size ho)) vs.toArray) (List.size_toArray.trans r.1) (fun b hb=>List.mem_singleton.mp hb▸⟨hμ,ob,ho⟩) (fun i h st b hb=>mem_one hb (by obtain⟨_,e,c,_⟩:=st.1;exact hard_of e c) (by obtain⟨_,e,c,_⟩:=st.2;exact hard_of e c))
  (fun i v d hv hd=>r.nu.2 i v d (List.getElem?_toArray.symm.trans hv) hd) (fun i d tgt s v Q E hd hf st q=>go_list hf st.1 q) ⟨⟨_,Heap.get?_push_size _ rfl,rfl,rfl⟩,hl.push _⟩)
theorem iter_tup {l:Addr}{vs:List Value}{ds:List D}(hh:A.handled=none)(hμ: ¬μ l)(hl:IsTup s.heap l vs.toArray)(r:RepL W s.heap μ vs ds):wpAny (MD W) A (pyIter (.ref l)) (IterOk W A μ s ds false) No s:=
 have⟨ob,ho,_⟩:=id hl
 iter_tuple hl (.of_walks (Walks.tuple hh _ l (Nat.ne_of_lt (Heap.lt_size ho)) vs.toArray) (List.size_toArray.trans r.1) (fun b hb=>List.mem_singleton.mp hb▸⟨hμ,ob,ho⟩) (fun i h st b hb=>mem_one hb (by obtain⟨_,e,c,_⟩:=st.1;exact hard_of e c) (by obtain⟨_,e,c,_⟩:=st.2;exact hard_of e c))
  (fun i v d hv hd=>r.nu.2 i v d (List.getElem?_toArray.symm.trans hv) hd) (fun i d tgt s v Q E hd hf st q=>letGo_tupleiter st.1 q) ⟨⟨_,Heap.get?_push_size _ rfl,rfl,rfl⟩,hl.push _⟩)
theorem str_ok {x:Str}{t:Tok}{o:Obj}{ty:String}{St:Nat→Heap→Prop}(hs: ∀i h,St i h→h.IsStrIter s.heap.objs.size ty x t i)(Wk:Walks PW W.w A s.heap.objs.size [s.heap.objs.size] [s.heap.objs.size] x.cps.size (SignAt x) St)(st:St 0 (s.heap.push o)):
  IterOk W A μ s (x.cps.toList.map fun c=> .str ⟨#[c]⟩) false (.ref s.heap.objs.size) {s with heap:=s.heap.push o}:=
 .of_walks (rest:=[]) Wk (List.length_map _).symm (fun ω h=>nomatch h) (fun i h st b hb=>List.mem_singleton.mp hb▸(by obtain⟨_,e,c,_⟩:=hs i h st;exact hard_of e c))
   (fun i v d z0 hd=>by obtain⟨c,u,e,hv⟩:=z0;obtain⟨c',e',hd⟩:=map_at hd;exact hd▸hv▸Option.some.inj (e.symm.trans (Array.getElem?_toList.symm.trans e'))▸ .str _ _)
   (fun i d tgt s v Q E hd hf st q=>go_name hf (by obtain⟨_,_,h⟩:=map_at hd;exact h▸rfl) q) st
theorem iter_str {x:Str}{t:Tok}(hh:A.handled=none):wpAny (MD W) A (pyIter (.str x t)) (IterOk W A μ s (x.cps.toList.map fun c=> .str ⟨#[c]⟩) false) No s:=by
 cases ha:x.cps.all (· <128)
 ·exact wpAny_pyIter_wide ha (str_ok (fun ω ω st=>st) (Walks.strWide hh _ x t) ⟨_,Heap.get?_push_size _ rfl,rfl,rfl⟩)
 ·exact wpAny_pyIter_ascii ha (str_ok (fun ω ω st=>st) (Walks.strAscii hh _ x t) ⟨_,Heap.get?_push_size _ rfl,rfl,rfl⟩)
theorem keys_len' {kvs:List (Str×Value)}{ds:List (Str×D)}(hk:kvs.map (·.1)=ds.map (·.1)):kvs.length=ds.length:=(List.length_map (·.1)).symm.trans ((congrArg List.length hk).trans (List.length_map _))
theorem key_at {kvs:List (Str×Value)}{ds:List (Str×D)}(hk:kvs.map (·.1)=ds.map (·.1)){i:Nat}{x:Str×Value}{y:Str×D}(e:kvs[i]?=some x)(f:ds[i]?=some y):x.1=y.1:=
 Option.some.inj ((congrArg (Option.map Prod.fst) e).symm.trans ((List.getElem?_map (f:=Prod.fst) (l:=kvs)).symm.trans ((congrArg (·[i]?) hk).trans ((List.getElem?_map (f:=Prod.fst) (l:=ds)).trans (congrArg (Option.map Prod.fst) f)))))
theorem iter_keys {a:Addr}{kvs:List (Str×Value)}{ds:List (Str×D)}(hh:A.handled=none)(hμ: ¬μ a)(hs:a≠sysModules)(hd:s.heap.DictOf (SK W) a kvs)(hk:kvs.map (·.1)=ds.map (·.1)):
  wpAny (MD W) A (pyIter (.ref a)) (IterOk W A μ s (ds.map fun kv=> .str kv.1) false) No s:=
 have⟨ep,h5⟩:=hd.dictAt
 have⟨ob,_,ho,_⟩:=id h5
 wpAny_pyIter_dict (by simpa using hs) h5 (.of_walks (Walks.dictKeys hh _ a (Nat.ne_of_lt (Heap.lt_size ho)) kvs ep) ((keys_len' hk).trans (List.length_map _).symm) (fun b hb=>List.mem_singleton.mp hb▸⟨hμ,ob,ho⟩)
  (fun i h st b hb=>mem_one hb (by obtain⟨_,e,c,_⟩:=st.1;exact hard_of e c) (by obtain⟨o,_,e,_,hd,_⟩:=st.2;exact⟨o,e,soft_dict hd⟩))
  (fun i v d z1 hd=>by obtain⟨y,x,e,hy⟩:=z1;obtain⟨t,q⟩:=Value.isStrOf_shape hy;exact by obtain⟨kv,e',hd⟩:=map_at hd;exact hd▸q▸(key_at hk e e':y=kv.1)▸ .str _ _)
  (fun i d tgt s v Q E hd hf st q=>go_name hf (by obtain⟨_,_,h⟩:=map_at hd;exact h▸rfl) q) ⟨⟨_,Heap.get?_push_size _ rfl,rfl,rfl⟩,h5.push _⟩)
theorem rep_iter {v:Value}{d:D}{ds:List D}(hh:A.handled=none)(e:itemsD d=some ds)(r:Rep W s.heap μ v d):wpAny (MD W) A (pyIter v) (IterOk W A μ s ds false) No s:=by
 cases d with
 |tup=>exact os e fun e=>e▸r.tup_elim fun ω ω a b c=>iter_tup hh a b c
 |list=>exact os e fun e=>e▸r.list_elim fun ω ω a b c=>iter_list hh a b c
 |str=>exact os e fun e=>e▸r.str_elim fun ω=>iter_str hh
 |dict=>exact os e fun e=>e▸r.dict_elim fun ω ω a b c e f=>iter_keys hh a b c e
 |_=>first|exact nf e|exact ns e|cases e
theorem iter_range {a b:Int}{r:Addr}{t u v:Tok}(hh:A.handled=none)(ha:small a=true)(hb:small b=true)(hr:IsRange s.heap r a b 1 t u v):wpAny (MD W) A (pyIter (.ref r)) (IterOk W A μ s (rangeL a b) false) No s:=by
 have ha':=small_lt ha
 have hb':=small_lt hb
 have hsz:Builtin.Range.rangeSize a b 1=((b - a).toNat:Int) - ((0:Nat):Int):=by rw[rangeSize_one];split<;>omega
 have h0:IsRangeIter (s.heap.push {cls:= .type "range_iterator",data:= .fields #[rawInt a,rawInt (Builtin.Range.rangeSize a b 1),rawInt 1]}) s.heap.objs.size (a+((0:Nat):Int)*1) (((b - a).toNat:Int) - ((0:Nat):Int)) 1:=
  hsz▸(Int.add_zero a).symm▸Heap.get?_push_size _ rfl
 have at_: ∀(i:Nat) d,(rangeL a b)[i]?=some d→d=D.int (a+(i:Int)):=fun i d hd=>by obtain⟨j,hj,e⟩:=map_at hd;exact(by
  have hlt:=(List.getElem?_eq_some_iff.mp hj).1
  rw[List.length_range] at hlt
  rw[List.getElem?_range hlt] at hj
  exact Option.some.inj hj▸e.symm)
 refine wpAny_pyIter_range hr (small_one (by omega) (by omega) (by omega) (by omega)) (.of_walks (rest:=[]) (Walks.range hh _ a 1 (b - a).toNat) (by simp[rangeL]) (fun ω h=>nomatch h) (fun i h st b hb=>List.mem_singleton.mp hb▸hard_of st rfl)
  (fun i v d z2 hd=>by obtain⟨t,e⟩:=z2;exact e▸at_ i d hd▸(Int.mul_one (i:Int)).symm▸ .int _ _) (fun i d tgt s v Q E hd hf st q=>go_name hf (at_ i d hd▸rfl) q) h0)
end
end Mine
namespace Mine
open PySem PyProof.Rows
open PySem.AutoSeq1 (wpAny_loadPart')
section
variable {W:Wd}{A:Around}{E:Value→Shared→Prop}{s:Shared}
theorem nextOf_tuple_item {it l:Addr}{i:Nat}{items}{x:Value}{Q:Value→Shared→Prop}(hit:IsTupIter s.heap it l i)
  (hl:IsTup s.heap l items) (hx:items[i]?=some x)
  (hQ: ∀h',IsTupIter h' it l (i+1)→Heap.SameBut it s.heap h'→Q x {s with heap:=h'}):
  wpAny (MD W) A (Builtin.SmallTypes.nextOf (.ref it)) Q E s:=by
 obtain⟨o,ho,hc,hd⟩:=id hit
 obtain⟨ol,hol,_,nl,hdl⟩:=hl
 unfold Builtin.SmallTypes.nextOf
 refine wpAny_bind (wpAny_callSpecial?_slot (name:=Str.ofString "__next__") hit.typeIs slot_tupleiter_next
  (wpAny_call_entry slot_tupleiter_next hit.typeIs entry_tupleiter_next ?_ (args_tupleiter_next _)))
 show wpAny _ _ (field (.ref it) 0>>=_) _ _ s
 refine wpAny_bind (wpAny_field ho hd (x:= .ref l) rfl ?_)
 show wpAny _ _ (if(Value.ref l==Value.none)=true then _ else _) _ _ s
 rw[if_neg (show¬((Value.ref l==Value.none)=true) from Bool.false_ne_true)]
 show wpAny _ _ (field (.ref it) 1>>=_) _ _ s
 refine wpAny_bind (wpAny_field ho hd (x:= .int i 0) rfl ?_)
 show wpAny _ _ (seqItems? (.ref l)>>=_) _ _ s
 refine wpAny_bind (wpAny_seqItems hol hdl ?_)
 simp only[Int.toNat_natCast,hx]
 refine wpAny_bind (wpAny_setField ho hd (by simp) (wpAny_pure ⟨x,rfl,wpAny_pure (hQ _ ?_ (Heap.SameBut.update ..))⟩))
 exact⟨_,Heap.get?_update_self _ ho (Obj.isFreed_of_fields (Obj.data_mapFields hd _)),(Obj.cls_mapFields ..).trans hc,by
  rw[Obj.data_mapFields hd];simp[rawInt]⟩
theorem nextOf_tuple_end {it l:Addr}{i:Nat}{items}{Q:Value→Shared→Prop}(hh:A.handled=none)
  (hit:IsTupIter s.heap it l i) (hl:IsTup s.heap l items) (hx:items[i]?=none)
  (hE: ∀h' e,Heap.ExtBut it s.heap h'→(∃o,h'.get? e=some o∧o.cls= .type "StopIteration")→E (.ref e) {s with heap:=h'}):
  wpAny (MD W) A (Builtin.SmallTypes.nextOf (.ref it)) Q E s:=by
 obtain⟨o,ho,hc,hd⟩:=id hit
 obtain⟨ol,hol,_,nl,hdl⟩:=hl
 unfold Builtin.SmallTypes.nextOf
 refine wpAny_bind (wpAny_callSpecial?_slot (name:=Str.ofString "__next__") hit.typeIs slot_tupleiter_next
  (wpAny_call_entry slot_tupleiter_next hit.typeIs entry_tupleiter_next ?_ (args_tupleiter_next _)))
 show wpAny _ _ (field (.ref it) 0>>=_) _ _ s
 refine wpAny_bind (wpAny_field ho hd (x:= .ref l) rfl ?_)
 show wpAny _ _ (if(Value.ref l==Value.none)=true then _ else _) _ _ s
 rw[if_neg (show¬((Value.ref l==Value.none)=true) from Bool.false_ne_true)]
 show wpAny _ _ (field (.ref it) 1>>=_) _ _ s
 refine wpAny_bind (wpAny_field ho hd (x:= .int i 0) rfl ?_)
 show wpAny _ _ (seqItems? (.ref l)>>=_) _ _ s
 refine wpAny_bind (wpAny_seqItems hol hdl ?_)
 simp only[Int.toNat_natCast,hx]
 refine wpAny_bind (wpAny_rule (wpAny_bind (wpAny_setField ho hd (by simp) ?_)))
 show wpAny _ _ (newExc (.type "StopIteration") []>>=_) _ _ _
 refine wpAny_bind ?_
 simp only[newExc,newTuple]
 refine wpAny_bind (wpAny_newObj_type ?_ (by size_fits))
 refine wpAny_bind (m:=firstArgMember _ _) (wpAny_of_eq (a:=Value.none) (by first|rfl|(simp only[firstArgMember];rfl)) ?_)
 refine wpAny_newObj_type ?_ (by size_fits)
 simp only[raiseNew]
 refine wpAny_bind (wpAny_handled ?_)
 first|rw[show A.in1.handled=none from hh]|rw[hh]
 refine wpAny_bind (wpAny_pure (wpAny_throw ?_))
 exact hE _ _ (((Heap.SameBut.update ..).extBut.push _).push _) ⟨_,Heap.get?_push_size _ rfl,rfl⟩
end
theorem draws_tuple {W:Wd}{A:Around}(hh:A.handled=none)(it l:Addr)(hne:l≠it)(items:Array Value):
  Draws PW W.w A it [it,l] items.size (fun i v=>items[i]?=some v) (fun i h=>IsTupIter h it l i∧IsTup h l items) where
 live:=fun ω ω st=>by obtain⟨o,ho,_⟩:=st.1;exact⟨o,ho⟩
 frame:=fun ω ω ω st hk=>⟨(by obtain⟨o,ho,r⟩:=st.1;exact⟨o,hk it (by simp) o ho,r⟩),(by obtain⟨o,ho,r⟩:=st.2;exact⟨o,hk l (by simp) o ho,r⟩)⟩
 item:=fun i s Q E hi st hQ=>by
  refine nextOf_tuple_item st.1 st.2 (x:=items[i]) (by simp[hi]) fun h' hit' hs'=> ?_
  exact hQ _ h' s.toks (by simp[hi]) ⟨hit',st.2.extBut hs'.extBut hne⟩ hs'
 done:=fun s Q E st hE=>nextOf_tuple_end hh st.1 st.2 (by simp) hE
theorem wpAny_pure_any {M:Model}{α:Type}{a:α}{A:Around}{E:Value→Shared→Prop}{s:Shared}{Q:α→Shared→Prop}(h: ∀a,Q a s):wpAny M A (pure a) Q E s:=wpAny_pure (h a)
theorem meets_enumerate_tup (l:Addr)(items:Array Value)(n:Nat)(dd:Option Addr)(sl:Array (Option Value)):
  Meets (Builtin.«enumerate.__new__» ⟨[.type "enumerate",.ref l],[]⟩) (fun ω R s=>s.heap.get? l=some {cls:= .type "tuple",dict:=dd,data:= .seq items n,slots:=sl}∧
   R (.ok (.ret (.ref (s.heap.push {cls:= .type "tuple_iterator",data:= .fields #[.ref l,.int 0 0]}).objs.size)))
     {s with heap:=(s.heap.push {cls:= .type "tuple_iterator",data:= .fields #[.ref l,.int 0 0]}).push {cls:= .type "enumerate",data:= .fields #[.none,.bool false,.ref s.heap.objs.size,rawInt 0,.none,.none]}}):=
 .of_wp fun prog w A R s h=>by
   obtain⟨hp,g,d,tk,os⟩:=s;obtain⟨hl,h⟩:=h
   have hsub:=sub_enumerate
   have hL:IsTup (Shared.heap ⟨hp,g,d,tk,os⟩) l items:=⟨_,hl,rfl,n,rfl⟩
   wp_walk using wpAny_loadPart' hl
   refine wpAny_stack_any fun st=>wpAny_pure_any fun b=> ?_
   cases b<;>wp_walk using wpAny_loadPart' hl,iter_tuple hL<;>exact⟨_,rfl,h⟩
section
variable {W:Wd}{A:Around}{E:Value→Shared→Prop}{s:Shared}
theorem call_enumerate_tup {l:Addr}{items:Array Value}{Q:Value→Shared→Prop}
  (hl:IsTup s.heap l items)
  (h: ∀h',IsEnum h' (s.heap.objs.size+1) s.heap.objs.size 0 .none→IsTupIter h' s.heap.objs.size l 0→h'.objs.size=s.heap.objs.size+2→
    (∀b o,s.heap.get? b=some o→h'.get? b=some o)→Q (.ref (s.heap.objs.size+1)) {s with heap:=h'}):
  wpAny (MD W) A (call (.type "enumerate") [.ref l]) Q E s:=by
 obtain⟨⟨cls,dd,data,sl⟩,ho,hc,n,hd⟩:=hl
 simp only at hc hd
 subst hc hd
 refine callType_new F.called_enumerate (by decide) (F.typeCall_enumerate_1 _) (F.newCall_enumerate_1 _) (fun obj=>F.args_object_init_2 obj _) F.entry_enumerate_new
  (meets_enumerate_tup l items n dd sl) ⟨ho,?_⟩
 have hz:(s.heap.push {cls:= .type "tuple_iterator",data:= .fields #[.ref l,.int 0 0]}).objs.size=s.heap.objs.size+1:=Heap.size_push ..
 show _∧_
 rw[hz]
 have he:IsEnum ((s.heap.push {cls:= .type "tuple_iterator",data:= .fields #[.ref l,.int 0 0]}).push
   {cls:= .type "enumerate",data:= .fields #[.none,.bool false,.ref s.heap.objs.size,rawInt 0,.none,.none]}) (s.heap.objs.size+1) s.heap.objs.size 0 .none:=by
  have:=Heap.get?_push_size (s.heap.push {cls:= .type "tuple_iterator",data:= .fields #[.ref l,.int 0 0]})
   (o:={cls:= .type "enumerate",data:= .fields #[.none,.bool false,.ref s.heap.objs.size,rawInt 0,.none,.none]}) rfl
  rw[hz] at this;exact this
 refine⟨⟨_,he,rfl⟩,h _ he ⟨_,Heap.get?_push_of_some _ (Heap.get?_push_size _ rfl),rfl,rfl⟩ (by rw[Heap.size_push,hz]) fun b o x=>Heap.get?_push_of_some _ (Heap.get?_push_of_some _ x)⟩
end
section
variable {W:Wd}{s s' s'':Shared}{μ:Addr→Prop}{A:Around}{E:Value→Shared→Prop}{nm:Names}{ρ:Rho}{env:Env}{k:Nat}{self:Ev}{C:Cfg}{X Y:Addr→Prop}{F:Str→List Addr}{h₁:Heap}
theorem IterOk.of_walksU {s1:Shared}{I:Addr}{wr rest:List Addr}{n:Nat}{Pt:Nat→Array Value→Prop}{St:Nat→Heap→Prop}{Mid:Nat→Addr→Heap→Prop}{ds:List D}(t:Stp W s s1)(hk: ∀b o,s.heap.get? b=some o→s1.heap.get? b=some o)
  (Wk:WalksU PW W.w A I (wr++rest) wr n Pt St Mid) (hn:n=ds.length)
  (new: ∀b∈wr,s.heap.get? b=none) (hr: ∀b∈rest,¬μ b∧ ∃o,s.heap.get? b=some o) (ex: ∀i h,St i h→ ∀b∈wr++rest,∃o,h.get? b=some o∧ ¬Soft o)
  (hP: ∀i vals d,Pt i vals→ds[i]?=some d→ ∃l dl,vals=List.toArray l∧d= .tup dl∧RepL W s.heap (Nu s.heap μ) l dl) (st:St 0 s1.heap):IterOk W A μ s ds true (.ref I) s1:=
 ⟨t,I,_,_,s.heap,St,rfl,{
   sub:=Wk.sub
   new:=new
   off:=fun b hb=>(List.mem_append.mp hb).imp id (hr b)
   ex:=ex
   frame:=Wk.frame
   item:=fun i d s tgt Q E hd hf hpr st hk hQ=>wpAny_with_toks (Nat.le_refl _) (Wk.item i s _ _ (hn▸(List.getElem?_eq_some_iff.mp hd).1) st fun T vals h' tk hp hT hmid hkk htk=>hQ (.ref T) h' tk hkk htk fun Q' E' hq=>by
    obtain⟨l,dl,rfl,rfl,r⟩:=hP i vals d hp hd
    cases hf with
    |inl h=>
     obtain⟨x,p,rfl⟩:=h
     exact nomatch hpr rfl
    |inr h=>
     obtain⟨⟨ts,k,p,rfl⟩,_⟩:=h
     exact Wk.go _ _ _ i T _ _ _ hmid fun h'' hst'' hk''=>hq h'' hst'' (fun b o hb e=>hk'' b o hb (hkk b o hb e)) (.pair T l dl rfl rfl (by obtain⟨o,ho,q⟩:=hT;exact⟨o,hk'' _ _ (Wk.apart _ _ _ hmid) ho,q⟩)
      (r.but fun b o e n m=>hk'' b o (fun q=>m (.inr (new b q))) (hkk b o (fun q=>m (.inr (new b q))) (hk b o e n m)))) (.inl rfl))
   done:=fun s Q E st hQ=>wpAny_with_toks (Nat.le_refl _) (Wk.done s _ _ (hn▸st) hQ)
   self:=Wk.self},st,(Kept.of hk).toBut,fun b o e=>⟨o,e⟩,fun b o e=>⟨o,hk b o e⟩⟩
theorem iter_enum {l:Addr}{vs:List Value}{ds:List D}(hh:A.handled=none)(hμ: ¬μ l)(hl:IsTup s.heap l vs.toArray)(r:RepL W s.heap μ vs ds):
  wpAny (MD W) A (call (.type "enumerate") [.ref l]) (fun x s₁=>wpAny (MD W) A (pyIter x) (IterOk W A μ s (ds.zipIdx.map fun(d,i)=> .tup [.int i,d]) true) No s₁) No s:=by
 obtain⟨ob,ho,_⟩:=id hl
 have hlt:=Heap.lt_size ho
 refine call_enumerate_tup hl fun h' he hit hsz hk=>wpAny_pyIter_enum he ?_
 have D:=draws_tuple (W:=W) (A:=A.in1) hh s.heap.objs.size l (Nat.ne_of_lt hlt) vs.toArray
 have Wk:=(WalksT.enumerateD D (s.heap.objs.size+1) (Nat.succ_ne_self _) (fun q=>mem_one q (P:=fun b=>s.heap.objs.size+1=b→False) (Nat.succ_ne_self _) (fun e=>Nat.lt_irrefl _ (Nat.lt_of_lt_of_le hlt (Nat.le_of_succ_le (Nat.le_of_eq e)))) rfl) (.head _)).toU
 refine .of_walksU (wr:=[s.heap.objs.size+1,s.heap.objs.size]) (rest:=[l]) (.keep hk) hk Wk (List.size_toArray.trans (r.1.trans (by simp))) (fun b hb=>mem_one hb (none_of_size (Nat.le_succ _)) (none_of_size (Nat.le_refl _))) (fun b hb=>List.mem_singleton.mp hb▸⟨hμ,ob,ho⟩) ?_ ?_ ⟨⟨_,he⟩,hit,IsTup.keeps hl hk⟩
 ·intro i h ⟨⟨old,q1⟩,⟨o2,q2,c2,_⟩,⟨o3,q3,c3,_⟩⟩ b hb
  exact(List.mem_cons.mp hb).elim (fun q=>q▸hard_of q1 rfl) fun hb=>mem_one hb (hard_of q2 c2) (hard_of q3 c3)
 ·intro i vals d ⟨t,x,hx,hv⟩ hd
  obtain⟨⟨d',j⟩,hj,rfl⟩:=map_at hd
  obtain⟨d0,hd0,e0⟩:=Option.map_eq_some_iff.mp (List.getElem?_zipIdx.symm.trans hj)
  cases e0
  exact⟨[.int i t,x],[.int ((0+i:Nat):Int),d'],hv,rfl,.cons ((Nat.zero_add i).symm▸ .int _ _) (.cons (r.nu.2 i x d' (List.getElem?_toArray.symm.trans hx) hd0) .nil)⟩
theorem entry_itemiter_iter:entryFor table "dict_itemiterator.__iter__" =some Builtin.«dict_keyiterator.__iter__»:=
 entryFor_alias (id':= "dict_keyiterator.__iter__") (by kernel_rfl) (by first|rfl|decide+kernel|(unfold String.splitOn;simp+decide [String.splitOnAux])) (by decide+kernel) (by kernel_rfl)
theorem walks_items (hh:A.handled=none)(I d:Addr)(hne:d≠I)(kvs:List (Str×Value))(ep:Nat):
  WalksU PW W.w A I [I,d] [I] kvs.length (fun i vals=> ∃x v t,kvs[i]?=some (x,v)∧vals= #[.str x t,v])
   (fun i h=>(∃ok ov,IsItemIter h I d i kvs.length ep ok ov)∧h.DictAt (SK W) d kvs ep)
   (fun i T h=>(∃ok ov,IsItemIterOut h I d (i+1) kvs.length ep ok ov T)∧h.DictAt (SK W) d kvs ep∧T≠I) where
 sub:=fun b hb=>List.mem_singleton.mp hb▸ .head _
 frame:=fun ω ω ω z0 hk=>by obtain⟨⟨ok,ov,a⟩,b⟩:=z0;exact⟨⟨ok,ov,hk I (.head _) _ a⟩,b.at' fun o e=>hk d (.tail _ (.head _)) o e⟩
 item:=fun i s Q E hi ⟨⟨ok,ov,a⟩,b⟩ hQ=>by
  have hx:=List.getElem?_eq_getElem hi
  generalize kvs[i]=xv at hx
  refine wpAny_pyNext_items_item a b hx fun key h' hkey hit' hT hsz hk=> ?_
  obtain⟨t,rfl⟩:=Value.isStrOf_shape hkey
  exact hQ s.heap.objs.size _ h' s.toks ⟨_,_,t,hx,rfl⟩ ⟨_,hT,rfl,_,rfl⟩ ⟨⟨_,_,hit'⟩,b.at' fun o e=>hk d o hne e,(Nat.ne_of_lt (Heap.lt_size a)).symm⟩ fun b o hb e=>hk b o (fun h=>hb (List.mem_singleton.mpr h)) e
 go:=fun elts k pos i T s Q E ⟨⟨ok,ov,a⟩,b,_⟩ hQ=>
  wpAny_letOwnedTupleGo_items a fun h' hit' hs=>hQ h' ⟨⟨_,_,hit'⟩,b.at' fun o e=>hs.extBut d o hne e⟩ fun b o hb e=>hs.extBut b o (fun h=>hb (List.mem_singleton.mpr h)) e
 apart:=fun i T h hm hT=>hm.2.2 (List.mem_singleton.mp hT)
 done:=fun s Q E z1 hQ=>by obtain⟨⟨ok,ov,a⟩,b⟩:=z1;exact wpAny_pyNext_items_end hh a b (List.getElem?_eq_none (Nat.le_refl _)) fun h' he'=>hQ h' s.toks fun b o hb e=>he' b o (fun h=>hb (List.mem_singleton.mpr h)) e
 self:=fun i s Q E ⟨⟨ok,ov,a⟩,b⟩ hQ=>
  have hT:s.TypeIs (.ref I) "dict_itemiterator" :=⟨_,a,rfl⟩
  wpAny_pyIter_slot hT F.slot_dict_itemiterator_iter (wpAny_call_entry F.slot_dict_itemiterator_iter hT entry_itemiter_iter (show wpAny _ _ (ret (.ref I)) _ _ s from wpAny_pure ⟨_,rfl,"dict_itemiterator",_,hT,F.slot_dict_itemiterator_next.lookup,hQ⟩) (F.args_dict_itemiterator_iter_1 _))
theorem iter_items {v a:Addr}{kvs:List (Str×Value)}{ds:List (Str×D)}(hh:A.handled=none)(hμ: ¬μ a)(hv:s.heap.IsItemsView v a)(hd:s.heap.DictOf (SK W) a kvs)(hk:kvs.map (·.1)=ds.map (·.1))
  (hr:RepL W s.heap μ (kvs.map (·.2)) (ds.map (·.2))):wpAny (MD W) A (pyIter (.ref v)) (IterOk W A μ s (ds.map fun kv=> .tup [.str kv.1,kv.2]) true) No s:=by
 obtain⟨ep,h5⟩:=hd.dictAt
 obtain⟨ob,_,ho,_⟩:=id h5
 refine wpAny_pyIter_items hv h5 (.of_walksU (wr:=[s.heap.objs.size]) (rest:=[a]) (.push _ _) (fun b o=>Heap.get?_push_of_some _) (walks_items hh _ a (Nat.ne_of_lt (Heap.lt_size ho)) kvs ep) ((keys_len' hk).trans (List.length_map _).symm)
  (fun b hb=>List.mem_singleton.mp hb▸none_of_size (Nat.le_refl _)) (fun b hb=>List.mem_singleton.mp hb▸⟨hμ,ob,ho⟩) (fun i h z2 b hb=>by obtain⟨⟨ok,ov,q1⟩,o,_,ho,_,hdd,_⟩:=z2;exact mem_one hb (hard_of q1 rfl) ⟨o,ho,soft_dict hdd⟩) ?_ ⟨⟨_,_,Heap.get?_push_size _ rfl⟩,h5.push _⟩)
 intro i vals d ⟨x,v,t,hx,hv⟩ hd
 obtain⟨y,hj,rfl⟩:=map_at hd
 exact⟨[.str x t,v],[.str y.1,y.2],hv,rfl,.cons ((key_at hk hx hj:x=y.1)▸ .str _ _) (.cons (hr.nu.2 i _ _ (List.getElem?_map.trans (congrArg (Option.map (·.2)) hx)) (List.getElem?_map.trans (congrArg (Option.map (·.2)) hj))) .nil)⟩
end
end Mine
namespace Mine
open PySem PyProof.Rows
section
variable {W:Wd}{s s' s'':Shared}{μ:Addr→Prop}{A:Around}{E:Value→Shared→Prop}{nm:Names}{ρ:Rho}{env:Env}{k:Nat}{self:Ev}{C:Cfg}{t e o:Expr}{ds:List D}{pr:Bool}{as:List Expr}{p fp:Pos}{f:Str}
theorem IterOk.from {it:Value}{s₁ s₂:Shared}(t:Stp W s s₁):IterOk W A μ s₁ ds pr it s₂→IterOk W A μ s ds pr it s₂
 |⟨t',I,fp,wr,h₁,St,e,ok,st,kb,th,th2⟩=>⟨t.trans t',I,fp,wr,h₁,St,e,ok,st,kb,fun b o q=>(t.grow.there ⟨o,q⟩).elim fun o' q'=>th b o' q',th2⟩
noncomputable def isSetE (e:Expr):Bool:=Nat.beq e.ctorIdx 7
theorem folded_pure (h:isSetE e=false)(x:Value):foldedSetIterable e env x=pure x:=by
 cases e with
 |Set=>first|exact nf h|exact ns h|cases h
 |_=>rfl
noncomputable abbrev ItW (W:Wd) (A:Around) (env:Env) (μ:Addr→Prop) (s:Shared) (ds:List D) (pr:Bool) (e:Expr):Prop:=wpAny (MD W) A (eval e env) (fun x s₁=>wpAny (MD W) A (pyIter x) (IterOk W A μ s ds pr) No s₁) No s
inductive ItE (W:Wd) (A:Around) (env:Env) (μ:Addr→Prop) (s:Shared) (ds:List D) (t e:Expr):Prop
 |mk (pr:Bool) (ns:isSetE e=false) (hp:pr=true→isTupT t=true) (w:ItW W A env μ s ds pr e)
variable (S:EvS W k self)
include S
theorem ItE.plain (P:Plain self)(h:(self nm ρ e).bind itemsD=some ds)(c:Cxt W nm env μ ρ A k s):ItE W A env μ s ds t e:=
 ob h fun d h1 h2=>⟨false,by
  cases e with
  |Set=>exact nomatch (P.set ..).symm.trans h1
  |_=>rfl,(fun q=>nomatch q),S.at_ h1 c fun v s₁ t r=>wpAny_mono (rep_iter c.room.handled h2 r) (fun it s₂ y=>y.from t) no⟩
theorem ty_iter (G:GlobOk W C)(P:Plain self){n:String}{es:List D}(hn:nameD C nm ρ f=some (.ty n))(h:mapO (self nm ρ) as=some es)(c:Cxt W nm env μ ρ A k s)
  (q: ∀s₂ vs,Stp W s s₂→RepL W s₂.heap μ vs es→wpAny (MD W) A (call (.type n) vs) (fun x s₃=>wpAny (MD W) A (pyIter x) (IterOk W A μ s ds pr) No s₃) No s₂):ItW W A env μ s ds pr (.Call (.Name f fp) as [] p):=by
 unfold ItW
 rw[eval_call rfl]
 have pl:=star_eq (env:=env) P h
 exact wpAny_bind (wpAny_mono (s_name G hn c) (fun v s₁ x=>x.r.ty_elim (PySem.callWith_type (pl.any p) (args_of pl (wpAny_mono (s_items S P h (c.step x.t)) (fun vs s₂ y=>q s₂ vs (x.t.trans y.t) y.r) no)))) no)
theorem range_sound (G:GlobOk W C)(P:Plain self)(hn:nameD C nm ρ f=some (.ty "range"))(h:rangeE (self nm ρ) as=some ds)(c:Cxt W nm env μ ρ A k s):ItE W A env μ s ds t (.Call (.Name f fp) as [] p):=by
 cases as with
 |nil=>first|exact nf h|exact ns h|cases h
 |cons a r=>cases r with
  |nil=>
   refine ob h fun x h1 h=>ob h fun i h2 h=>oi h fun hs h=>os h fun h=>h▸⟨false,rfl,(fun q=>nomatch q),ty_iter S G P hn (es:=[.int i]) (by rw[mapO,h1,asInt_inv h2];rfl) c fun s₂ vs t r=>r.one_elim fun v r=>r.int_elim fun u=>call_range_1 ?_⟩
   exact wpAny_mono (iter_range (μ:=μ) c.room.handled (by decide) hs (r:=s₂.heap.objs.size) (t:=s₂.toks) (u:=_) (v:=s₂.toks+1) (Heap.get?_push_size _ rfl)) (fun it s₃ z=>z.from (t.trans (Stp.push _ _))) no
  |cons b r=>cases r with
   |cons=>first|exact nf h|exact ns h|cases h
   |nil=>
    refine ob h fun x h1 h=>ob h fun i h2 h=>ob h fun y h3 h=>ob h fun j h4 h=>oi h fun hs h=>os h fun h=>h▸⟨false,rfl,(fun q=>nomatch q),ty_iter S G P hn (es:=[.int i,.int j]) (by rw[mapO,mapO,h1,asInt_inv h2,h3,asInt_inv h4];rfl) c fun s₂ vs t r=>
     r.two_elim fun v w r1 r2=>r1.int_elim fun u=>r2.int_elim fun u'=>call_range_2 ?_⟩
    exact wpAny_mono (iter_range (μ:=μ) c.room.handled (Bool.and_eq_true_iff.mp hs).1 (Bool.and_eq_true_iff.mp hs).2 (r:=s₂.heap.objs.size) (t:=_) (u:=_) (v:=s₂.toks) (Heap.get?_push_size _ rfl)) (fun it s₃ z=>z.from (t.trans (Stp.push _ _))) no
theorem enum_sound (G:GlobOk W C)(P:Plain self)(hn:nameD C nm ρ f=some (.ty "enumerate"))(h:enumE (self nm ρ) t as=some ds)(c:Cxt W nm env μ ρ A k s):ItE W A env μ s ds t (.Call (.Name f fp) as [] p):=by
 cases as with
 |nil=>first|exact nf h|exact ns h|cases h
 |cons a r=>cases r with
  |cons=>first|exact nf h|exact ns h|cases h
  |nil=>exact ob h fun x h1 h=>ob h fun xs h2 h=>oi h fun ht h=>os h fun h=>h▸⟨true,rfl,(fun ω=>ht),ty_iter S G P hn (es:=[.tup xs]) (by rw[mapO,h1,asTup_inv h2];rfl) c fun s₂ vs t r=>
   r.one_elim fun v r=>r.tup_elim fun a us g1 g2 g3=>wpAny_mono (iter_enum c.room.handled g1 g2 g3) (fun x s₃ z=>wpAny_mono z (fun it s₄ z=>z.from t) no) no⟩
theorem items_sound {mp:Pos}(h:itemsE (self nm ρ) t o mp p as=some ds)(c:Cxt W nm env μ ρ A k s):ItE W A env μ s ds t (.Call (.Attribute o "items" mp) as [] p):=by
 cases as with
 |cons=>first|exact nf h|exact ns h|cases h
 |nil=>exact oi h fun hc h=>ob h fun x h1 h=>om h fun kvs h2 h=>h▸⟨true,rfl,(fun ω=>hc.1),meth_call ⟨hc.2.1,hc.2.2,Nat.le_of_ble_eq_true rfl⟩ rfl (S.at_ h1 c fun ov s₁ t1 r=>(asDict_inv h2▸r:Rep W s₁.heap μ ov (.dict kvs)).dict_elim fun a l g0 g1 g2 g3 g4=>
   ⟨"dict",_,F.plainAttrs_dict,F.slot_dict_items,F.type_dict_items,g2.typeIs,g2.mapOf.noDict,wpAny_items_nil (call_meetsIn F.slot_dict_items g2.typeIs F.entry_dict_items (F.args_dict_items_1 _) (meets_dict_items (SK W) _ (by simpa using g1))
     ⟨⟨_,g2⟩,wpAny_mono (iter_items c.room.handled g0 ⟨_,Heap.get?_push_size _ rfl,rfl,rfl⟩ (g2.push _) g3 (RepL.keepP g4 _)) (fun it s₃ z=>z.from (t1.trans (Stp.push _ _))) no⟩)⟩)⟩
theorem iterE_sound (G:GlobOk W C)(P:Plain self)(h:iterE self C nm ρ t e=some ds)(c:Cxt W nm env μ ρ A k s):ItE W A env μ s ds t e:=by
 have plain:=fun h=>ItE.plain (t:=t) (e:=e) (ds:=ds) S P h c
 unfold iterE iterN at h
 generalize view e=w at h
 cases w with
 |call f as kw p=>
  cases kw with
  |cons=>first|exact nf h|exact ns h|cases h
  |nil=>
   have h:iterF (self nm ρ) (nameD C nm ρ) t as p ((self nm ρ (.Call f as [] p)).bind itemsD) (view f)=some ds:=h
   generalize view f=w at h
   cases w with
   |name x q=>
    have h:iterT (self nm ρ) t as ((self nm ρ (.Call (.Name x q) as [] p)).bind itemsD) ((nameD C nm ρ x).bind asTy)=some ds:=h
    cases hn:(nameD C nm ρ x).bind asTy with
    |none=>
     rw[hn] at h
     exact plain h
    |some n=>
     rw[hn] at h
     have hn:nameD C nm ρ x=some (.ty n):=ob hn fun d h1 h2=>asTy_inv h2▸h1
     exact dite_some h (fun hr h=>range_sound S G P (hr▸hn) h c) fun h=>dite_some h (fun hr h=>enum_sound S G P (hr▸hn) h c) plain
   |attr o m mp=>exact dite_some h (fun hm h=>hm▸items_sound S h c) plain
   |_=>exact plain h
 |_=>exact plain h
omit S in
theorem tests_false {Q:Bool→Shared→Prop}(h:Q false s): ∀ifs:List Expr,wpAny (MD W) A (forIn ifs false fun c r=>if r=true then do let ok←isTrue c env (eval c env);pure (ForInStep.yield ok) else pure (ForInStep.yield r)) Q E s
 | []=>wpAny_pure h
 |c::r=>by
  rw[List.forIn_cons]
  exact wpAny_bind (m:=pure (ForInStep.yield false)) (wpAny_pure (tests_false h r))
theorem ifs_sound: ∀{ifs:List Expr} {b:Bool} {s:Shared},ifsE self nm ρ ifs=some b→Cxt W nm env μ ρ A k s→
  wpAny (MD W) A (forIn ifs true fun c r=>if r=true then do let ok←isTrue c env (eval c env);pure (ForInStep.yield ok) else pure (ForInStep.yield r)) (Tr W s b) No s
 | [],_,_,h,_=>os h fun h=>h▸wpAny_pure ⟨rfl,.refl _⟩
 |e::r,b,s,h,c=>ob h fun z h1 h2=>by
  rw[List.forIn_cons]
  refine wpAny_bind (m:=(do let ok←isTrue e env (eval e env);pure (ForInStep.yield ok))) (wpAny_bind (wpAny_mono (tst_sound S _ _ _ _ h1 c) (fun v s₁ x=>wpAny_pure ?_) no))
  cases x.1
  cases z with
  |true=>exact wpAny_mono (ifs_sound h2 (c.step x.2)) (fun r s'=> .after x.2) no
  |false=>exact os h2 fun h=>h▸tests_false ⟨rfl,x.2⟩ r
end
end Mine
namespace Mine
open PySem PyProof.Rows
structure JOk {α:Type}(D:Addr)(J:(Addr→Prop)→List α→Heap→Prop):Prop where
 keep: ∀ν xs h h',J ν xs h→KeptBut ν h h'→(∀o,h.get? D=some o→h'.get? D=some o)→J ν xs h'
 mu: ∀(ν ν':Addr→Prop) xs h,J ν xs h→(∀a o,h.get? a=some o→ν' a→ν a)→J ν' xs h
 there: ∀ν xs h,J ν xs h→ ∃o,h.get? D=some o∧ ¬Soft o
noncomputable def EmOk {α:Type} (W:Wd) (k:Nat) (A:Around) (nmE:Names) (cenv:Env) (D:Addr) (J:(Addr→Prop)→List α→Heap→Prop) (emitD:Rho→Option α) (em:Sem Unit):Prop:=
 ∀ν ρ a xs s,ν D→emitD ρ=some a→Cxt W nmE cenv ν ρ A k s→J ν xs s.heap→xs.length+1≤lim→
  wpAny (MD W) A em (fun ω s'=>Mv W (fun b=>b=D) s s'∧J ν (xs++[a]) s'.heap) No s
noncomputable def partS (e:Expr) (gens:List Comprehension) (acc:Value) (env:Env) (d:Nat) (em:Sem Unit):Sem Unit:=
 match gens[d+1]? with
 |some g'=>do
  let x←eval g'.iter env
  standAt g'.iter.pos
  let x←if g'.is_async !=0 then foldedIterable g'.iter x else foldedSetIterable g'.iter env x
  let _←runOwn (.compStart e (d+1) (←holding [x] (if g'.is_async !=0 then asyncIter x else pyIter x)) acc env) env
 |none=>em
noncomputable def testsS (env:Env) (ifs:List Expr):Sem Bool:=forIn ifs true fun c r=>if r=true then do let ok←isTrue c env (eval c env);pure (ForInStep.yield ok) else pure (ForInStep.yield r)
noncomputable def turnS (e:Expr) (gens:List Comprehension) (acc:Value) (env:Env) (d:Nat) (em:Sem Unit) (it:Value) (t:Expr) (ifs:List Expr) (v:Value):Sem PySem.Fin:=do
 letOwnedTupleGo t it v
 assign t env v
 let ok←testsS env ifs
 if ok=true then do
  partS e gens acc env d em
  again (.compLoop e d it acc env)
 else again (.compLoop e d it acc env)
structure CompSem (W:Wd)(A:Around)(e:Expr)(gens:List Comprehension)(acc:Value)(env:Env)(em:Sem Unit):Prop where
 clauses:clausesOf e=gens
 turn: ∀(d:Nat) it t iter ifs,gens[d]?=some ⟨t,iter,ifs,0⟩→compTurn e d it acc env=(do
   standAt iter.pos
   match←pyNext it with
   |none=>pure (.done .next)
   |some v=>turnS e gens acc env d em it t ifs v)
 loop: ∀d it R s,wpAny (MD W) A (compTurn e d it acc env) (fun fin s'=>match fin with| .done f=>R (.ok f) s'| .again c'=>c'.quiet=true∧codeAny (MD W) A c' R s') No s→
  codeAny (MD W) A (.compLoop e d it acc env) R s
 start: ∀d it R s,wpAny (MD W) A (compStart e d it acc env) (fun fin s'=>match fin with| .done f=>R (.ok f) s'| .again c'=>c'.quiet=true∧codeAny (MD W) A c' R s') No s→
  codeAny (MD W) A (.compStart e d it acc env) R s
 quiet: ∀d it,(Code.compLoop e d it acc env).quiet=true
section
variable {W:Wd}{A:Around}{s:Shared}
theorem part_key {e:Expr}{gens:List Comprehension}{acc:Value}{env:Env}{d:Nat}{em:Sem Unit}{z:Sem PySem.Fin}:(partS e gens acc env d em>>=fun ω=>z)=(match gens[d+1]? with
  |some g'=>do
   let x←eval g'.iter env
   standAt g'.iter.pos
   let x←if g'.is_async !=0 then foldedIterable g'.iter x else foldedSetIterable g'.iter env x
   let _←runOwn (.compStart e (d+1) (←holding [x] (if g'.is_async !=0 then asyncIter x else pyIter x)) acc env) env
   z
  |none=>do em;z):=by
 unfold partS
 cases gens[d+1]? with
 |none=>rfl
 |some g'=>
  dsimp only
  cases g'.is_async !=0<;>simp only[if_true,if_false,bind_assoc,pure_bind,Bool.false_eq_true]
theorem turn_eq {e:Expr}{gens:List Comprehension}{acc:Value}{env:Env}{d:Nat}{em:Sem Unit}{it:Value}{t iter:Expr}{ifs:List Expr}{m:Sem PySem.Fin}(h:m=(do
   standAt iter.pos
   match←pyNext it with
   |none=>pure (.done .next)
   |some v=>
    letOwnedTupleGo t it v
    assign t env v
    let mut ok:=true
    for c in ifs do
     if ok then ok←isTrue c env (eval c env)
    if ok then
     match gens[d+1]? with
     |some g'=>
      let x←eval g'.iter env
      standAt g'.iter.pos
      let x←if g'.is_async !=0 then foldedIterable g'.iter x else foldedSetIterable g'.iter env x
      let _←runOwn (.compStart e (d+1) (←holding [x] (if g'.is_async !=0 then asyncIter x else pyIter x)) acc env) env
     |none=>em
    again (.compLoop e d it acc env))):m=(do
   standAt iter.pos
   match←pyNext it with
   |none=>pure (.done .next)
   |some v=>turnS e gens acc env d em it t ifs v):=h.trans (by
 refine congrArg (fun f:Option Value→Sem PySem.Fin=>standAt iter.pos>>=fun ω=>pyNext it>>=f) (funext fun r=> ?_)
 cases r with
 |none=>rfl
 |some v=>
  refine congrArg (fun f:Bool→Sem PySem.Fin=>letOwnedTupleGo t it v>>=fun ω=>assign t env v>>=fun ω=>testsS env ifs>>=f) (funext fun ok=> ?_)
  cases ok with
  |false=>rfl
  |true=>exact part_key.symm)
theorem compSem_list (elt:Expr)(gens:List Comprehension)(scope pos)(acc:Value)(env:Env):
  CompSem W A (.ListComp elt gens scope pos) gens acc env (do let _←call (.builtin "list.append") [acc,←eval elt env]) where
 clauses:=rfl
 turn:=fun d it t iter ifs hg=>turn_eq (by
  unfold compTurn
  simp only[hg]
  rfl)
 loop:=fun d it R s h=>codeAny_of_tree (by
  show wpAny _ A ((compTurn (.ListComp elt gens scope pos) d it acc env).onRaise (fun x=>do noteFrame x env;theTreesLotGoes x)) _ _ s
  exact wpAny_noted (wpAny_mono h (fun ω ω x=>x) no))
 start:=fun d it R s h=>codeAny_of_tree (by
  show wpAny _ A ((compStart (.ListComp elt gens scope pos) d it acc env).onRaise (fun x=>do noteFrame x env;standAt theWindowsPlace)) _ _ s
  exact wpAny_notedAt (wpAny_mono h (fun ω ω x=>x) no))
 quiet:=fun ω ω=>rfl
noncomputable def emD (kx vx:Expr) (env:Env) (D:Addr):Sem Unit:=do
 let kv←eval kx env
 let vv←holding [kv] (eval vx env)
 standAt {kx.pos with endLine:=vx.pos.endLine,endCol:=vx.pos.endCol}
 holding [kv,vv] (dictSet D kv vv)
theorem compSem_dict (kx vx:Expr)(gens:List Comprehension)(scope pos)(D:Addr)(env:Env):
  CompSem W A (.DictComp kx vx gens scope pos) gens (.ref D) env (emD kx vx env D) where
 clauses:=rfl
 turn:=fun d it t iter ifs hg=>turn_eq (by
  unfold compTurn
  simp only[hg]
  rfl)
 loop:=fun d it R s h=>codeAny_of_tree (by
  show wpAny _ A ((compTurn (.DictComp kx vx gens scope pos) d it (.ref D) env).onRaise (fun x=>do noteFrame x env;theTreesLotGoes x)) _ _ s
  exact wpAny_noted (wpAny_mono h (fun ω ω x=>x) no))
 start:=fun d it R s h=>codeAny_of_tree (by
  show wpAny _ A ((compStart (.DictComp kx vx gens scope pos) d it (.ref D) env).onRaise (fun x=>do noteFrame x env;standAt theWindowsPlace)) _ _ s
  exact wpAny_notedAt (wpAny_mono h (fun ω ω x=>x) no))
 quiet:=fun ω ω=>rfl
theorem CompSem.begin {e:Expr}{gens:List Comprehension}{acc:Value}{env:Env}{em:Sem Unit}(H:CompSem W A e gens acc env em){d:Nat}{t iter:Expr}{ifs:List Expr}{it:Value}{R:Result→Shared→Prop}(hg:gens[d]?=some ⟨t,iter,ifs,0⟩)
  (hs: ∀(Q:Value→Shared→Prop),Q it s→wpAny (MD W) A (pyIter it) Q No s) (h:codeAny (MD W) A (.compLoop e d it acc env) R s):codeAny (MD W) A (.compStart e d it acc env) R s:=by
 refine H.start d it R s ?_
 unfold compStart
 rw[H.clauses,hg]
 show wpAny _ A (ask>>=_) _ _ s
 have fin:=And.intro (H.quiet d it) h
 exact wpAny_bind (wpAny_askSetting (wpAny_ite_split (fun ω=>wpAny_bind (wpAny_pure (wpAny_pure fin))) fun ω=>wpAny_bind (wpAny_rule (wpAny_bind (wpAny_standAt (wpAny_bind (hs _ (wpAny_pure fin))))))))
end
section
variable {α:Type}{self:Ev}{C:Cfg}{nm0 nm:Names}{emit:Rho→Option α}{ρ ρ':Rho}{x:Str}
theorem compE_nil {g:Comprehension}{gs:List Comprehension}{ys:List α}(h:compE self C nm0 nm emit (g::gs) [] ρ=some ys):ys= []:=(Option.some.inj h).symm
noncomputable abbrev oneE (self:Ev) (C:Cfg) (nm0 nm:Names) (emit:Rho→Option α) (g:Comprehension) (gs:List Comprehension) (ρ:Rho) (d:D):Option (List α):=itemE self C nm0 nm emit g gs (compE self C nm0 nm emit gs) ρ d
theorem compE_cons {g:Comprehension}{gs:List Comprehension}{d:D}{ds:List D}{ys:List α}{P:List α→Prop}(h:compE self C nm0 nm emit (g::gs) (d::ds) ρ=some ys)
  (k: ∀y1 y2,oneE self C nm0 nm emit g gs ρ d=some y1→compE self C nm0 nm emit (g::gs) ds ρ=some y2→P (y1++y2)):P ys:=
 om h fun r hr h=>ob hr fun b h1 hr=>om hr fun bs h2 hr=>h▸hr▸k b bs.flatten h1 (congrArg (Option.map List.flatten) h2)
theorem bindTs_lookup: ∀{ts:List Expr} {ds:List D} {ρ ρ':Rho},bindTs nm ρ ts ds=some ρ'→x∉ts.filterMap nameOf→ρ'.lookup x=ρ.lookup x
 | [],[],_,_,e,_=>Option.some.inj e▸rfl
 | [],_::_,_,_,e,_=>nomatch e
 |_::_,[],_,_,e,_=>nomatch e
 |t::ts,d::ds,ρ,ρ',e,hx=>ob e fun y e1 e=>ob e fun ρ1 e2 e3=>by
  rw[List.filterMap_cons,e1] at hx
  have hx:=not_or.mp fun q=>hx (List.mem_cons.mpr q)
  rw[bindTs_lookup e3 hx.2,←(bindN_inv e2).2,lookup_setV,if_neg hx.1]
theorem bindT_lookup {t:Expr}{d:D}(e:bindT nm ρ t d=some ρ')(hx:x∉tnames t):ρ'.lookup x=ρ.lookup x:=by
 unfold tnames at hx
 unfold bindT at e
 generalize view t=w at e hx
 cases w with
 |name y p=>rw[←(bindN_inv e).2,lookup_setV,if_neg fun(q:x=y)=>hx (List.mem_singleton.mpr q)]
 |tuple ts k p=>exact ob e fun ds ω e=>bindTs_lookup e hx
 |_=>first|exact nf e|exact ns e|cases e
end
theorem ItemIs.mu {W:Wd}{h:Heap}{μ μ':Addr→Prop}{v:Value}{d:D}(k: ∀a,μ' a→μ a):ItemIs W h μ v d→ItemIs W h μ' v d
 | .rep r=> .rep (r.mu fun a ω ω q=>k a q)
 | .pair T vs ds e f a b=> .pair T vs ds e f a (b.mu fun a ω ω q=>k a q)
end Mine
namespace Mine
open PySem PyProof.Rows
structure Fx (α:Type)(W:Wd)(k:Nat)(A:Around) where
 sf:Ev
 C:Cfg
 nmE:Names
 nm0:Names
 cenv:Env
 D:Addr
 J:(Addr→Prop)→List α→Heap→Prop
 emitD:Rho→Option α
 em:Sem Unit
 e:Expr
 gens:List Comprehension
 acc:Value
 S:EvS W k sf
 P:Plain sf
 G:GlobOk W C
 room:Room A k
 ok:EnvOk cenv nmE
 jok:JOk D J
 emo:EmOk W k A nmE cenv D J emitD em
 sem:CompSem W A e gens acc cenv em
 dO: ¬OwnP cenv nm0 D
 dC: ∀x c,cenv.cells.lookup x=some c→c≠D
 code:nmE.lookup genMark=some .local→cenv.code= .ref W.cac
 txt:nmE.lookup txtMark≠some .local
 hasy: ∀g∈gens,g.is_async=0
section
variable {α:Type}{W:Wd}{s s' s'':Shared}{A:Around}{k:Nat}{X:Fx α W k A}{ν μ:Addr→Prop}{ρ ρ':Rho}{xs ys:List α}{Y:Addr→Prop}{d:Nat}{g:Comprehension}{gs:List Comprehension}{wr:List Addr}
noncomputable def ZP (X:Fx α W k A) (b:Addr):Prop:=b=X.D∨OwnP X.cenv X.nm0 b
noncomputable abbrev tnL (gs:List Comprehension):List Str:=gs.flatMap fun g=>tnames g.target
noncomputable abbrev offN:Str→List Addr:=fun ω=>[]
structure LI (X:Fx α W k A)(ν:Addr→Prop)(ρ:Rho)(xs:List α)(s:Shared):Prop where
 inv:Inv W s
 mu:MuOk W ν s.heap
 lay:Lay X.cenv X.nm0 s.heap
 see:SeeFt W X.cenv ν offN ρ s.heap
 j:X.J ν xs s.heap
 cel: ∀x c,X.cenv.cells.lookup x=some c→ ∃o,s.heap.get? c=some o
theorem LI.cxt (L:LI X ν ρ xs s):Cxt W X.nmE X.cenv ν ρ A k s:=⟨X.ok,X.room,L.inv,L.mu,L.see.see,L.cel,X.code,fun h=>absurd h X.txt⟩
theorem off_nil {Y:Addr→Prop}: ∀n:Str,∀a∈offN n,¬Y a:=fun ω ω h=>nomatch h
theorem there_or (m:Mv W Y s s')(hex: ∀b,Y b→ ∃o,s'.heap.get? b=some o){b:Addr}(h: ∃o,s.heap.get? b=some o): ∃o,s'.heap.get? b=some o:=Classical.byCases (hex b) (m.there h)
theorem LI.jkeep {h':Heap}(L:LI X ν ρ xs s)(k:KeptBut Y s.heap h')(hY: ∀b,Y b→ν b)(hD: ¬Y X.D):X.J ν xs h':=
 X.jok.keep _ _ _ _ L.j (k.wider fun b ω ω q=>hY b q) fun o h=>by obtain⟨_,h',hs⟩:=X.jok.there _ _ _ L.j;exact k _ o h (Option.some.inj (h'.symm.trans h)▸hs) hD
theorem LI.mv (L:LI X ν ρ xs s)(m:Mv W Y s s')(hY: ∀b,Y b→ν b)(hZ: ∀b,Y b→ ¬ZP X b)(hC: ∀x c,X.cenv.cells.lookup x=some c→ ¬Y c)(hex: ∀b,Y b→ ∃o,s'.heap.get? b=some o):LI X ν ρ xs s':=
 ⟨m.inv L.inv fun b o q h=>L.mu.lo b (hY b q) o h,⟨L.mu.lo,fun a q=>there_or m hex (L.mu.hi a q)⟩,L.lay.at m.kept fun a q z=>hZ a q (.inr z),
   L.see.but hY off_nil m.kept fun n v q=>holds_off m.kept (fun z=>hZ _ z (.inr (.inl rfl))) hC q,L.jkeep m.kept hY fun q=>hZ _ q (.inl rfl),fun x c h=>m.there (L.cel x c h) (hC x c h)⟩
theorem LI.stp (L:LI X ν ρ xs s)(t:Stp W s s'):LI X ν ρ xs s':=L.mv (Y:=fun ω=>False) t.mv (fun ω q=>q.elim) (fun ω q=>q.elim) (fun ω ω ω q=>q) fun ω q=>q.elim
theorem LI.bound (L:LI X ν ρ xs s)(hO: ∀b,OwnP X.cenv X.nm0 b→ν b)(b:Bound W X.cenv X.nm0 ν offN ρ' s s'):LI X ν ρ' xs s'∧Mv W (OwnP X.cenv X.nm0) s s':=by
 have lo:=fun a o (q:OwnP X.cenv X.nm0 a) h=>L.mu.lo a (hO a q) o h
 have m:Mv W (OwnP X.cenv X.nm0) s s':=b.rest▸Mv.of b.old lo b.tk
 obtain⟨_,hs,hF⟩:=b.see
 exact⟨⟨m.inv L.inv lo,⟨L.mu.lo,fun a q=>there_or m b.lay.there (L.mu.hi a q)⟩,b.lay,(funext fun n=>(hF n).elim id id:_=offN)▸hs,L.jkeep m.kept hO X.dO,fun x c h=>there_or m b.lay.there (L.cel x c h)⟩,m⟩
theorem LI.restrict (L:LI X ν ρ' xs s)(h: ∀x t d,ρ.lookup x=some (t,d)→ρ'.lookup x=some (t,d)):LI X ν ρ xs s:=⟨L.inv,L.mu,L.lay,fun x t d q=>L.see x t d (h x t d q),L.j,L.cel⟩
theorem LI.emitted (L:LI X ν ρ xs s)(hD:ν X.D)(m:Mv W (fun b=>b=X.D) s s')(j:X.J ν ys s'.heap):LI X ν ρ ys s':=
 ⟨m.inv L.inv fun b o q h=>L.mu.lo _ hD o (q▸h),⟨L.mu.lo,fun a q=>there_or m (fun b q=>by obtain⟨o,ho,_⟩:=X.jok.there _ _ _ j;exact⟨o,q▸ho⟩) (L.mu.hi a q)⟩,L.lay.at m.kept fun a (q:a=X.D) z=>X.dO (q▸z),
   L.see.but (X:=fun b=>b=X.D) (fun a q=>q▸hD) off_nil m.kept fun n v q=>holds_off m.kept (fun z=>X.dO (z▸ .inl rfl)) (fun x c h z=>X.dC x c h z) q,j,fun x c h=>m.there (L.cel x c h) (X.dC x c h)⟩
structure LoopEnd (X:Fx α W k A)(ν:Addr→Prop)(wr:List Addr)(ρ:Rho)(ys:List α)(s:Shared)(r:Result)(s':Shared):Prop where
 e:r= .ok .next
 m:Mv W (fun b=>ZP X b∨b∈wr) s s'
 lay:Lay X.cenv X.nm0 s'.heap
 see:SeeFt W X.cenv ν offN ρ s'.heap
 j:X.J ν ys s'.heap
structure LoopIn (X:Fx α W k A)(ν μ:Addr→Prop)(ρ:Rho)(I:Addr)(fp wr:List Addr)(h₁:Heap)(ds:List D)(pr:Bool)(St:Nat→Heap→Prop)(g:Comprehension)(gs:List Comprehension):Prop where
 ok:ItOk W A I fp wr h₁ μ ds pr St
 tp:pr=true→isTupT g.target=true
 wn: ∀b∈wr,ν b
 nu: ∀a,ν a→Nu h₁ μ a
 zn: ∀b,ZP X b→ν b
 z: ∀b∈wr,¬ZP X b
 nc: ∀x c,X.cenv.cells.lookup x=some c→c∉wr
 nd:(tnL (g::gs)).Nodup
 dis: ∀x∈tnL (g::gs),ρ.lookup x=none
noncomputable abbrev cE (X:Fx α W k A):=compE X.sf X.C X.nm0 X.nmE X.emitD
noncomputable def LoopSpec (X:Fx α W k A) (d:Nat) (g:Comprehension) (gs:List Comprehension):Prop:=
 X.gens.drop d=g::gs→ ∀ν μ ρ I fp wr h₁ ds pr St,LoopIn X ν μ ρ I fp wr h₁ ds pr St g gs→ ∀(l:List D) (i:Nat) (xs ys:List α) (s:Shared),ds.drop i=l→i≤ds.length→St i s.heap→KeptBut (Nu h₁ μ) h₁ s.heap→LI X ν ρ xs s→
   cE X (g::gs) l ρ=some ys→xs.length+ys.length≤lim→codeAny (MD W) A (.compLoop X.e d (.ref I) X.acc X.cenv) (LoopEnd X ν wr ρ (xs++ys) s) s
structure PartEnd (X:Fx α W k A)(ν:Addr→Prop)(ρ:Rho)(ys:List α)(s s':Shared):Prop where
 m:Mv W (ZP X) s s'
 l:LI X ν ρ ys s'
noncomputable def PartSpec (X:Fx α W k A) (d:Nat) (gs:List Comprehension):Prop:=
 ∀ν ρ xs ys s,(∀b,ZP X b→ν b)→(tnL gs).Nodup→(∀x∈tnL gs,ρ.lookup x=none)→LI X ν ρ xs s→xs.length+ys.length≤lim→insE X.sf X.C X.nmE X.emitD (cE X gs) ρ gs=some ys→
  wpAny (MD W) A (partS X.e X.gens X.acc X.cenv d X.em) (fun ω s'=>PartEnd X ν ρ (xs++ys) s s') No s
theorem at_drop {β:Type}{l:List β}{n:Nat}{a:β}{r:List β}(h:l.drop n=a::r):l[n]?=some a∧l.drop (n+1)=r:=⟨List.head?_drop.symm.trans (congrArg List.head? h),List.tail_drop.symm.trans (congrArg List.tail h)⟩
theorem sync {g:Comprehension}(h:g.is_async=0):g=⟨g.target,g.iter,g.ifs,0⟩:=match g,h with
 |⟨_,_,_,_⟩,h=>h▸rfl
theorem turn_ok {I:Addr}{fp wr:List Addr}{h₁:Heap}{ds:List D}{pr:Bool}{St:Nat→Heap→Prop}{i:Nat}{dd:D}{v:Value}{tk:Nat}{h':Heap}{y1:List α}{Q:PySem.Fin→Shared→Prop}(hp:PartSpec X d gs)(In:LoopIn X ν μ ρ I fp wr h₁ ds pr St g gs)(st:St (i+1) h')
  (hk: ∀b o,b∉wr→s.heap.get? b=some o→h'.get? b=some o) (htk:s.toks≤tk) (hit:ItemIs W h' (Nu h₁ μ) v dd) (hrep:isTupT g.target=true∨Rep W h' (Nu h₁ μ) v dd) (kb:KeptBut (Nu h₁ μ) h₁ s.heap) (L:LI X ν ρ xs s)
  (hone:oneE X.sf X.C X.nm0 X.nmE X.emitD g gs ρ dd=some y1) (hlen:xs.length+y1.length≤lim)
  (fin: ∀s₅,Mv W (fun b=>ZP X b∨b∈wr) s s₅→St (i+1) s₅.heap→KeptBut (Nu h₁ μ) h₁ s₅.heap→LI X ν ρ (xs++y1) s₅→Q (.again (.compLoop X.e d (.ref I) X.acc X.cenv)) s₅):
  wpAny (MD W) A (assign g.target X.cenv v>>=fun ω=>testsS X.cenv g.ifs>>=fun ok=>if ok=true then(do partS X.e X.gens X.acc X.cenv d X.em;again (.compLoop X.e d (.ref I) X.acc X.cenv)) else again (.compLoop X.e d (.ref I) X.acc X.cenv)) Q No {s with heap:=h',toks:=tk}:=
 ob hone fun ρ' hb hone=>ob hone fun b hi hone=>by
  have hdis': ∀x t' d',ρ.lookup x=some (t',d')→ρ'.lookup x=some (t',d'):=fun x t' d' q=>(bindT_lookup hb fun hx=>nomatch q.symm.trans (In.dis x (List.mem_append_left _ hx))).trans q
  have m1:Mv W (fun b=>b∈wr) s {s with heap:=h',toks:=tk}:=Mv.of (fun b o q hb=>hk b o hb q) (fun b o q h=>L.mu.lo b (In.wn b q) o h)
  have L2:LI X ν ρ xs {s with heap:=h',toks:=tk}:=L.mv m1 In.wn In.z In.nc fun b q=>by obtain⟨o,ho,_⟩:=In.ok.ex _ _ st b (In.ok.sub b q);exact⟨o,ho⟩
  refine wpAny_bind (wpAny_mono (bind_sound X.room.handled (fun a q=>In.zn a (.inr q)) hb off_nil L2.lay L2.see (hit.mu In.nu) (hrep.imp id fun r=>r.mu fun a ω ω q=>In.nu a q)) (fun ω s₃ b3=> ?_) no)
  obtain⟨L3,m3⟩:=L2.bound (fun a q=>In.zn a (.inr q)) b3
  refine wpAny_bind (wpAny_mono (ifs_sound X.S hi L3.cxt) (fun r s₄ z=> ?_) no)
  have L4:=L3.stp z.2
  have fin': ∀s₅,Mv W (ZP X) s₄ s₅→LI X ν ρ' (xs++y1) s₅→Q (.again (.compLoop X.e d (.ref I) X.acc X.cenv)) s₅:=fun s₅ m5 L5=>
   have mz:=(m3.wider fun b q=> .inr q).trans (z.2.mv.trans m5)
   have mt:=(m1.wider fun b q=> .inr q).trans (mz.wider fun b q=> .inl q)
   fin s₅ mt (In.ok.frame _ _ _ st fun b hb o q=>by
    obtain⟨o',ho',hs'⟩:=In.ok.ex _ _ st b hb
    exact mz.kept b o q (Option.some.inj (ho'.symm.trans q)▸hs') fun zq=>(In.ok.off b hb).elim (fun h=>In.z b h zq) fun z0=>by obtain⟨h1,o,h2⟩:=z0;exact(In.nu b (In.zn b zq)).elim h1 fun h3=>nomatch h3.symm.trans h2)
    (kb.trans (mt.kept.wider fun b ω ω q=>In.nu b (q.elim (In.zn b) (In.wn b)))) (L5.restrict hdis')
  cases z.1
  cases b with
  |false=>exact wpAny_pure (fin' s₄ Mv.refl (os hone fun e=>e▸(List.append_nil xs).symm▸L4))
  |true=>
   refine wpAny_bind (wpAny_mono (hp ν ρ' xs y1 s₄ In.zn (List.nodup_append.mp In.nd).2.1 (fun x hx=>(bindT_lookup hb fun hx'=>(List.nodup_append.mp In.nd).2.2 x hx' x hx rfl).trans (In.dis x (List.mem_append_right _ hx))) L4 hlen hone) (fun ω s₅ z=> ?_) no)
   exact wpAny_pure (fin' s₅ z.1 z.2)
theorem loop_of_part (hp:PartSpec X d gs):LoopSpec X d g gs:=fun hg ν μ ρ I fp wr h₁ ds pr St In l=>by
 have hgd:=(at_drop hg).1
 rw[sync (X.hasy g (List.mem_of_getElem? hgd))] at hgd
 induction l with
 |nil=>
  intro i xs ys s hl hi st kb L hce hlen
  cases compE_nil hce
  cases Nat.le_antisymm hi (List.drop_eq_nil_iff.mp hl)
  refine X.sem.loop _ _ _ _ ?_
  rw[X.sem.turn _ _ _ _ _ hgd]
  refine wpAny_bind (wpAny_standAt (wpAny_bind (In.ok.done s _ _ st fun h' tk hk htk=>wpAny_pure ?_)))
  have m0:Mv W (fun b=>b∈wr) s {s with heap:=h',toks:=tk}:=Mv.of (fun b o q hb=>hk b o hb q) (fun b o q h=>L.mu.lo b (In.wn b q) o h)
  exact⟨rfl,m0.wider fun b q=> .inr q,L.lay.at m0.kept fun a q z=>In.z a q (.inr z),L.see.but In.wn off_nil m0.kept fun n v q=>holds_off m0.kept (fun z=>In.z _ z (.inr (.inl rfl))) (In.nc) q,
   (List.append_nil xs).symm▸L.jkeep m0.kept In.wn fun q=>In.z _ q (.inl rfl)⟩
 |cons dd l ih=>
  intro i xs ys s hl hi st kb L hce hlen
  have hd:=at_drop hl
  refine compE_cons hce (P:=fun ys=>xs.length+ys.length≤lim→codeAny (MD W) A (.compLoop X.e d (.ref I) X.acc X.cenv) (LoopEnd X ν wr ρ (xs++ys) s) s) (fun y1 y2 hone hce2 hlen=> ?_) hlen
  rw[List.length_append,←Nat.add_assoc] at hlen
  refine X.sem.loop _ _ _ _ ?_
  rw[X.sem.turn _ _ _ _ _ hgd]
  have hf:Fit g.target dd:=ob hone fun ω hb ω=>fit_of hb
  refine wpAny_bind (wpAny_standAt (wpAny_bind (In.ok.item i dd s g.target _ _ hd.1 hf In.tp st kb fun v h' tk hk htk hgo=> ?_)))
  refine wpAny_bind (hgo _ _ fun h'' st'' hk'' hit hrep=>turn_ok hp In st'' (fun b o n e=>hk'' b o n e) htk hit hrep kb L hone (Nat.le_trans (Nat.le_add_right _ _) hlen) fun s₅ m5 st5 kb5 L5=> ?_)
  refine⟨X.sem.quiet _ _,codeAny_mono (ih (i+1) (xs++y1) y2 s₅ hd.2 (List.getElem?_eq_some_iff.mp hd.1).1 st5 kb5 L5 hce2 (by rw[List.length_append];exact hlen)) fun r s₆ z=> ?_⟩
  exact⟨z.1,m5.trans z.2,z.3,z.4,List.append_assoc .. ▸z.5⟩
theorem part_nil (hg:X.gens[d+1]?=none):PartSpec X d []:=fun ν ρ xs ys s hZν ω ω L hlen h=>om h fun a ha e=>by
 cases e
 unfold partS
 rw[hg]
 exact wpAny_mono (X.emo ν ρ a xs s (hZν X.D (.inl rfl)) ha L.cxt L.j hlen) (fun ω s' z=>⟨z.1.wider fun b q=> .inl q,L.emitted (hZν X.D (.inl rfl)) z.1 z.2⟩) no
theorem part_cons (hd:X.gens.drop (d+1)=g::gs)(hl:LoopSpec X (d+1) g gs):PartSpec X d (g::gs):=fun ν ρ xs ys s hZν hnd hdis L hlen h=>ob h fun its hits hce=>by
 have hgd:=(at_drop hd).1
 rw[sync (X.hasy g (List.mem_of_getElem? hgd))] at hgd
 unfold partS
 rw[hgd]
 obtain⟨pr,hset,hpr,hit⟩:=iterE_sound X.S X.G X.P hits L.cxt
 show wpAny (MD W) A (do
  let x←eval g.iter X.cenv
  standAt g.iter.pos
  let x←foldedSetIterable g.iter X.cenv x
  let _←runOwn (.compStart X.e (d+1) (←holding [x] (pyIter x)) X.acc X.cenv) X.cenv) _ No s
 refine wpAny_bind (wpAny_mono hit (fun x s₁ h₁=>wpAny_bind (wpAny_standAt (wpAny_bind (wpAny_of_eq (folded_pure hset x) (wpAny_bind (wpAny_holding (wpAny_mono h₁ (fun it s₂ z=> ?_) no))))))) no)
 obtain⟨t2,I,fp,wr,h₁,St,rfl,ok,st,kb,th,_⟩:=z
 have none_at: ∀b∈wr,s.heap.get? b=none:=fun b hb=>Option.eq_none_iff_forall_ne_some.mpr fun o q=>not_there (ok.new b hb) (th b o q)
 have nw: ∀b o,s.heap.get? b=some o→b∉wr:=fun b o e hb=>nomatch (none_at b hb).symm.trans e
 have hZ: ∀b∈wr,¬ZP X b:=fun b hb q=>not_there (none_at b hb) (L.mu.hi b (hZν b q))
 have L2:=L.stp t2
 have L2':LI X (fun b=>ν b∨b∈wr) ρ xs s₂:=⟨L2.inv,⟨fun a q o h=>q.elim (fun q=>L.mu.lo a q o h) fun q=>not_there (none_at a q) (L.inv.grow.there ⟨o,h⟩),fun a q=>q.elim (L2.mu.hi a) fun q=>by obtain⟨o,ho,_⟩:=ok.ex _ _ st a (ok.sub a q);exact⟨o,ho⟩⟩,L2.lay,
  fun x t' d' q=>by obtain⟨v,hv,r⟩:=L.see x t' d' q;exact⟨v,hv.kept t2.kept,(r.mu fun a o h q=>q.resolve_right (nw a o h)).but (X:=fun ω=>False) (fun ω q=>q.elim) (fun ω ω q=>q) t2.kept.toBut⟩,
  X.jok.keep _ _ _ _ (X.jok.mu _ _ _ _ L.j fun a o h q=>q.resolve_right (nw a o h)) t2.kept.toBut (fun o h=>by obtain⟨_,h',hs'⟩:=X.jok.there _ _ _ L.j;exact t2.kept _ o h (Option.some.inj (h'.symm.trans h)▸hs')),L2.cel⟩
 have main:=hl hd _ ν ρ I fp wr h₁ its pr St ⟨ok,hpr,fun b hb=> .inr hb,fun a q=>q.imp id fun hb=>ok.new a hb,fun b q=> .inl (hZν b q),hZ,fun x c h hb=>not_there (none_at c hb) (L.cel x c h),hnd,hdis⟩ its 0 xs ys s₂ rfl (Nat.zero_le _) st kb L2' hce hlen
 refine wpAny_bind (wpAny_runOwn (X.sem.begin hgd (fun Q hq=>ok.self 0 _ _ _ st hq) (codeAny_mono main fun r s₆ z=> ?_)))
 cases z.e
 have m:Mv W (ZP X) s s₆:=(t2.mv.trans z.2).fresh fun b o h q=>q.resolve_right (nw b o h)
 have zt: ∀b,ZP X b→ ∃o,s₆.heap.get? b=some o:=fun b hz=>hz.elim (fun q=>by obtain⟨o,ho,_⟩:=X.jok.there _ _ _ z.5;exact⟨o,q▸ho⟩) (z.3.there b)
 exact wpAny_pure ⟨m,m.inv L.inv fun b o q h=>L.mu.lo b (hZν b q) o h,⟨L.mu.lo,fun a q=>there_or m zt (L.mu.hi a q)⟩,z.3,fun x t' d' q=>by obtain⟨v,hv,r⟩:=z.4 x t' d' q;exact⟨v,hv,r.mu fun a ω ω q=> .inl q⟩,X.jok.mu _ _ _ _ z.5 fun a ω ω q=> .inl q,
  fun x c h=>there_or m zt (L.cel x c h)⟩
theorem loop_sound: ∀(gs:List Comprehension) (g:Comprehension) (d:Nat),X.gens.drop d=g::gs→LoopSpec X d g gs
 | [],g,d,hd=>loop_of_part (part_nil (List.getElem?_eq_none (List.drop_eq_nil_iff.mp (at_drop hd).2)))
 |g'::gs,g,d,hd=>loop_of_part (part_cons (at_drop hd).2 (loop_sound gs g' (d+1) (at_drop hd).2))
end
end Mine
namespace Mine
open PySem PyProof.Rows
noncomputable abbrev NL:=List (Str×NameKind)
theorem lookup_head {α:Type}{x n:Str}{a b:α}{l:List (Str×α)}(h:((n,a)::l).lookup x=some b):(x=n∧a=b)∨l.lookup x=some b:=by
 rw[List.lookup_cons] at h
 by_cases q:x=n
 ·rw[beq_iff_eq.mpr q] at h
  exact .inl ⟨q,Option.some.inj h⟩
 ·rw[beq_false_of_ne q] at h
  exact .inr h
theorem lookup_here {α:Type}{n:Str}{a:α}{l:List (Str×α)}:((n,a)::l).lookup n=some a:=by rw[List.lookup_cons,beq_self_eq_true]
theorem lookup_past {α:Type}{x n:Str}{a:α}{l:List (Str×α)}(h:x≠n):((n,a)::l).lookup x=l.lookup x:=by rw[List.lookup_cons,beq_false_of_ne h]
structure CellsF (h:Heap)(names:NL)(n:Nat)(cs acc:List (Str×Addr))(h':Heap):Prop where
 new: ∀x,(x,NameKind.cell)∈names→ ∃c,cs.lookup x=some c∧n≤c∧h'.IsCell c none
 old: ∀x,(x,NameKind.cell)∉names→cs.lookup x=acc.lookup x
 one: ∀x y c,n≤c→cs.lookup x=some c→cs.lookup y=some c→x=y
theorem tail_of {names:NL}{x nm:Str}{k k':NameKind}(hk:k'≠k)(q:(x,k')∈(nm,k)::names):(x,k')∈names:=(List.mem_cons.mp q).resolve_left fun z=>hk (Prod.mk.inj z).2
theorem CellsF.skip {h h':Heap}{names:NL}{n:Nat}{cs acc:List (Str×Addr)}{nm:Str}{k:NameKind}(hk:NameKind.cell≠k)(f:CellsF h names n cs acc h'):CellsF h ((nm,k)::names) n cs acc h':=
 ⟨fun x q=>f.new x (tail_of hk q),fun x q=>f.old x fun z=>q (.tail _ z),f.one⟩
theorem CellsF.take {h h':Heap}{names:NL}{cs acc:List (Str×Addr)}{nm:Str}(ha: ∀x c,acc.lookup x=some c→c<h.objs.size)(hh:h'.IsCell h.objs.size none)(f:CellsF (h.push {cls:= .type "cell",data:= .cell none}) names (h.objs.size+1) cs ((nm,h.objs.size)::acc) h'):
  CellsF h ((nm,.cell)::names) h.objs.size cs acc h':=
 have low: ∀x c,(x,NameKind.cell)∉names→cs.lookup x=some c→(x=nm∧h.objs.size=c)∨c<h.objs.size:=fun x c q e=>(lookup_head ((f.old x q).symm.trans e)).imp id (ha x c)
 have only: ∀x,cs.lookup x=some h.objs.size→x=nm:=fun x e=>Classical.byContradiction fun z=>if q:(x,NameKind.cell)∈names then
   by obtain⟨c,e1,le,_⟩:=f.new x q;exact Nat.lt_irrefl _ (Option.some.inj (e1.symm.trans e)▸le)
  else(low x _ q e).elim (fun w=>z w.1) fun w=>Nat.lt_irrefl _ w
 ⟨fun x q=>if hr:(x,NameKind.cell)∈names then by obtain⟨c,a,b,d⟩:=f.new x hr;exact⟨c,a,Nat.le_of_succ_le b,d⟩ else
    have hx:x=nm:=(List.mem_cons.mp q).elim (fun z=>(Prod.mk.inj z).1) fun z=>absurd z hr
    ⟨_,(f.old x hr).trans (hx▸lookup_here),Nat.le_refl _,hh⟩,
   fun x q=>(f.old x fun z=>q (.tail _ z)).trans (lookup_past fun z=>q (z▸ .head _)),
   fun x y c hc q1 q2=>(Nat.lt_or_eq_of_le hc).elim (fun lt=>f.one x y c lt q1 q2) fun e=>(only x (e▸q1)).trans (only y (e▸q2)).symm⟩
theorem cells_facts: ∀(names:NL) (h:Heap) (acc:List (Str×Addr)),(∀x c,acc.lookup x=some c→c<h.objs.size)→CellsF h names h.objs.size (cellsFrom h.objs.size names acc) acc (pushCells h names)
 | [],h,acc,ha=>⟨(fun ω q=>nomatch q),fun ω ω=>rfl,fun x y c hc q ω=>absurd (ha x c q) (Nat.not_lt.mpr hc)⟩
 |(name,kind)::r,h,acc,ha=>by
  cases kind with
  |cell=>
   refine .take ha ⟨_,pushCells_keeps r _ _ _ (Heap.get?_push_size _ rfl),rfl⟩ ?_
   have ih:=cells_facts r (h.push {cls:= .type "cell",data:= .cell none}) ((name,h.objs.size)::acc) fun x c q=>Heap.size_push h _▸(lookup_head q).elim (fun z=>z.2▸Nat.lt_succ_self _) fun z=>Nat.lt_succ_of_lt (ha x c z)
   rw[Heap.size_push] at ih
   exact ih
  |_=>exact .skip (fun q=>nomatch q) (cells_facts r h acc ha)
noncomputable def clFrom (env:Env):NL→List (Str×Addr)→List (Str×Addr)
 | [],acc=>acc
 |(n,k)::r,acc=>clFrom env r (if k== .free then(n,(env.cells.lookup n).getD 0)::acc else acc)
theorem closure_eq {scope:Scope}{env:Env}(h: ∀x∈scope.names,x.2= .free→ ∃c,env.cells.lookup x.1=some c):closureFor scope env=pure (clFrom env scope.names []):=by
 have key: ∀(l:NL) (acc:List (Str×Addr)),(∀x∈l,x.2= .free→ ∃c,env.cells.lookup x.1=some c)→
   forIn l acc (fun x r=>(if(x.2==NameKind.free)=true then do let c←cellOf env x.1;pure (ForInStep.yield ((x.1,c)::r)) else pure (ForInStep.yield r):Sem (ForInStep (List (Str×Addr)))))=(pure (clFrom env l acc):Sem (List (Str×Addr))):=by
  intro l
  induction l with
  |nil=>exact fun ω ω=>rfl
  |cons x r ih=>
   intro acc hl
   rw[List.forIn_cons]
   have ih:=fun acc=>ih acc fun x hx=>hl x (.tail _ hx)
   obtain⟨n,k⟩:=x
   cases k with
   |free=>
    obtain⟨c,hc⟩:=hl _ (.head _) rfl
    have e:cellOf env n=pure c:=by unfold cellOf;rw[hc]
    show(cellOf env n>>=fun c=>_)>>=_=_
    rw[e]
    refine(ih _).trans ?_
    show _=pure (clFrom env r ((n,(env.cells.lookup n).getD 0)::acc))
    rw[hc]
    rfl
   |_=>exact ih acc
 unfold closureFor
 exact(congrArg (· >>=fun cs=>pure cs) (key scope.names [] h)).trans rfl
theorem clFrom_lookup {env:Env}(x:Str): ∀(l:NL) (acc:List (Str×Addr)),(∀y∈l,y.2= .free→ ∃c,env.cells.lookup y.1=some c)→
  (clFrom env l acc).lookup x=if(x,NameKind.free)∈l then env.cells.lookup x else acc.lookup x
 | [],acc,_=>(if_neg fun q=>nomatch q).symm
 |(n,k)::r,acc,h=>by
  have ih:=fun acc=>clFrom_lookup x r acc fun y hy=>h y (.tail _ hy)
  by_cases hr:(x,NameKind.free)∈r
  ·rw[if_pos (.tail _ hr)]
   exact(ih _).trans (if_pos hr)
  ·refine(ih _).trans ((if_neg hr).trans ?_)
   cases k with
   |free=>
    obtain⟨c,hc⟩:=h _ (.head _) rfl
    show((n,(env.cells.lookup n).getD 0)::acc).lookup x=_
    by_cases hx:x=n
    ·cases hx
     rw[if_pos (.head _),lookup_here,hc]
     rfl
    ·rw[if_neg fun q=>(List.mem_cons.mp q).elim (fun z=>hx (Prod.mk.inj z).1) hr,lookup_past hx]
   |_=>
    refine Eq.symm (if_neg (t:=env.cells.lookup x) fun q=>hr (tail_of (nm:=n) ?_ q))
    exact fun z=>nomatch z
theorem mem_lookup {names:NL}(hn:(names.map (·.1)).Nodup){x:Str}{k:NameKind}:(x,k)∈names↔names.lookup x=some k:=
 ⟨fun h=>by rw[lookup_find,find_nodup hn h];rfl,fun h=>by
   rw[lookup_find] at h
   exact om h fun kv hf e=>(Prod.ext (of_decide_eq_true (List.find?_some (p:=fun kv:Str×NameKind=>decide (kv.1=x)) hf)) e:kv=(x,k))▸List.mem_of_find?_eq_some hf⟩
theorem lookup_map_kind (P:Str→NameKind→NameKind)(x:Str): ∀(names:NL),(names.map fun e=>(e.1,P e.1 e.2)).lookup x=(names.lookup x).map (P x)
 | []=>rfl
 |(n,k)::r=>by
  rw[List.map_cons]
  by_cases hx:x=n
  ·cases hx
   rw[lookup_here,lookup_here]
   rfl
  ·rw[lookup_past hx,lookup_past hx]
   exact lookup_map_kind P x r
section
variable {M:Model}{A:Around}{E:Value→Shared→Prop}{s:Shared}
theorem new_comp_env {scope:Scope}{g:Addr}{cl:List (Str×Addr)}{qual:Str}{env:Env}{Q:Env→Shared→Prop}
  (h:Q (newEnv scope s.heap.objs.size g (cellsFrom (s.heap.objs.size+1) scope.names cl) qual none .none (some env) builtinsNs) {s with heap:=pushCells (s.heap.push {cls:= .type "dict",data:= .dict #[]}) scope.names}):
  wpAny M A (newFunctionEnv scope g cl [] qual none .none (some env)) Q E s:=by
 simp only[newFunctionEnv,Option.isSome_some,if_true]
 refine wpAny_bind (wpAny_alloc (wpAny_bind (wpAny_layCells _ (fun name kind cells=>by cases hkc:kind==NameKind.cell<;>simp[hkc]) _ _ _ _ ?_)))
 rw[show({s with heap:=s.heap.push {cls:= .type "dict",data:= .dict #[]}}:Shared).heap.objs.size=s.heap.objs.size+1 from Heap.size_push ..]
 exact wpAny_bind (wpAny_pure (wpAny_pure h))
end
end Mine
namespace Mine
open PySem PyProof.Rows
section
variable {α:Type}{W:Wd}{s s' s'':Shared}{A:Around}{k:Nat}{self:Ev}{C:Cfg}{nm:Names}{env:Env}{μ:Addr→Prop}{ρ:Rho}{scope:Scope}{x:Str}{a:Addr}{oD:Obj}
theorem captured_lookup {t:Tag}{d:D}: ∀{names:NL},(captured names ρ).lookup x=some (t,d)→t= .fr∧ρ.lookup x=some (.fr,d)∧(x,NameKind.free)∈names
 | [],h=>nomatch h
 |(n,kk)::r,h=>by
  have ih:(captured r ρ).lookup x=some (t,d)→t= .fr∧ρ.lookup x=some (.fr,d)∧(x,NameKind.free)∈r:=captured_lookup
  unfold captured at h ih
  rw[List.filterMap_cons] at h
  have past:(captured r ρ).lookup x=some (t,d)→t= .fr∧ρ.lookup x=some (.fr,d)∧(x,NameKind.free)∈(n,kk)::r:=fun q=>(ih q).imp id fun z=>z.imp id (.tail _)
  by_cases hk:kk= .free
  ·cases hk
   rw[if_pos rfl] at h
   cases hl:(ρ.lookup n).bind fun q=>(tagFr q).map fun d=>(n,Tag.fr,d) with
   |none=>
    rw[hl] at h
    exact past h
   |some y=>
    rw[hl] at h
    refine ob hl fun q q1 hl=>om hl fun d0 q2 hl=> ?_
    cases hl
    exact(lookup_head h).elim (fun⟨e,f⟩=>by
     cases f
     cases e
     exact⟨rfl,tagFr_inv q2▸q1,.head _⟩) past
  ·rw[if_neg hk] at h
   exact past h
theorem relabel_names (hk:env.scope.kind= .function)(hn:env.scope.names=nm):(relabel scope env).names=relabelN scope.names nm:=by
 unfold relabel relabelN
 refine List.map_congr_left fun x ω=> ?_
 have e:env.kindOf x.1=nm.lookup x.1:=by unfold Env.kindOf;rw[hn]
 show(if(x.2==NameKind.free&&env.scope.kind==ScopeKind.function&&env.kindOf x.1==some NameKind.cell)=true then(x.1,NameKind.cell) else(x.1,x.2))=(x.1,rlK nm x.1 x.2)
 rw[e,hk,rlK,beq_self_eq_true,Bool.and_true]
 by_cases hc:x.2= .free∧nm.lookup x.1=some .cell
 ·rw[if_pos hc,if_pos (Bool.and_eq_true_iff.mpr ⟨beq_iff_eq.mpr hc.1,beq_iff_eq.mpr hc.2⟩)]
 ·rw[if_neg hc,if_neg fun q=>hc ((Bool.and_eq_true_iff.mp q).imp beq_iff_eq.mp beq_iff_eq.mp)]
theorem relabel_lookup {names nm:Names}(x:Str):(relabelN names nm).lookup x=(names.lookup x).map (rlK nm x):=lookup_map_kind _ x names
theorem relabel_local {names:Names}(h:(relabelN names nm).lookup x=some .local):names.lookup x=some .local:=om ((relabel_lookup x).symm.trans h) fun kk e h=>by
 unfold rlK at h
 by_cases hc:kk= .free∧nm.lookup x=some .cell
 ·exact nomatch (if_pos hc).symm.trans h
 ·exact e.trans (congrArg some ((if_neg hc).symm.trans h))
structure ScOk (scope:Scope)(nm:Names):Prop where
 kind:scope.kind= .function
 nd:(scope.names.map (·.1)).Nodup
 mark:scope.names.lookup genMark≠some .local
 txt:scope.names.lookup txtMark≠some .local
 free: ∀x,(x,NameKind.free)∈scope.names→nm.lookup x=some .cell
theorem ScOk.of (h:okScope scope nm=true):ScOk scope nm:=
 have h1:=Bool.and_eq_true_iff.mp h
 have h2:=Bool.and_eq_true_iff.mp h1.1
 have h3:=Bool.and_eq_true_iff.mp h2.1
 ⟨of_decide_eq_true h3.2,of_decide_eq_true h2.2,(of_decide_eq_true h3.1).1,(of_decide_eq_true h3.1).2,fun x hx=>of_decide_eq_true (List.all_eq_true.mp h1.2 _ hx)⟩
theorem ScOk.cl (sc:ScOk scope nm)(c:EnvOk env nm)(y:Str×NameKind)(hy:y∈scope.names)(hk:y.2= .free): ∃c,env.cells.lookup y.1=some c:=c.cel _ (sc.free y.1 (hk▸hy))
noncomputable def cCells (scope:Scope) (env:Env) (n:Nat):List (Str×Addr):=cellsFrom (n+2) scope.names (clFrom env scope.names [])
noncomputable def cEnv (scope:Scope) (env:Env) (n:Nat):Env:={newEnv scope (n+1) env.globals (cCells scope env n) env.qual none .none (some env) builtinsNs with scope:=relabel scope env}
noncomputable def cPush (h:Heap) (oD:Obj):Heap:=(h.push oD).push {cls:= .type "dict",dict:=none,data:= .dict #[]}
noncomputable def cHeap (scope:Scope) (h:Heap) (oD:Obj):Heap:=pushCells (cPush h oD) scope.names
theorem cHeap_kept {h:Heap}{b:Addr}{o:Obj}(q:h.get? b=some o):(cHeap scope h oD).get? b=some o:=pushCells_keeps _ _ _ _ (Heap.get?_push_of_some _ (Heap.get?_push_of_some _ q))
variable (sc:ScOk scope nm)(c:Cxt W nm env μ ρ A k s)
include sc c
theorem cl_at (q:(clFrom env scope.names []).lookup x=some a):env.cells.lookup x=some a∧(x,NameKind.free)∈scope.names:=by
 rw[clFrom_lookup x _ _ (sc.cl c.ok)] at q
 exact dite_some q (fun h q=>⟨q,h⟩) fun q=>nomatch q
theorem c_cells:CellsF (cPush s.heap oD) scope.names (s.heap.objs.size+2) (cCells scope env s.heap.objs.size) (clFrom env scope.names []) (cHeap scope s.heap oD):=by
 have hs:(cPush s.heap oD).objs.size=s.heap.objs.size+2:=by unfold cPush;rw[Heap.size_push,Heap.size_push]
 have f:=cells_facts scope.names (cPush s.heap oD) (clFrom env scope.names []) fun ω ω q=>hs▸(c.cel _ _ (cl_at sc c q).1).elim fun o ho=>Nat.lt_of_lt_of_le (Heap.lt_size ho) (Nat.le_add_right _ 2)
 rw[hs] at f
 exact f
theorem c_case (q:(cCells scope env s.heap.objs.size).lookup x=some a):(s.heap.objs.size+2≤a∧scope.names.lookup x=some .cell)∨(env.cells.lookup x=some a∧ ∃o,s.heap.get? a=some o):=
 have f:=c_cells (oD:={cls:= .none,data:= .plain}) sc c
 if hx:(x,NameKind.cell)∈scope.names then by obtain⟨a',q1,q2,_⟩:=f.new x hx;exact .inl ⟨Option.some.inj (q1.symm.trans q)▸q2,(mem_lookup sc.nd).mp hx⟩
 else have h:=(cl_at sc c ((f.old x hx).symm.trans q)).1; .inr ⟨h,c.cel x a h⟩
theorem c_own (h:OwnP (cEnv scope env s.heap.objs.size) scope.names a):s.heap.objs.size<a:=h.elim (fun q=>q▸Nat.lt_succ_self _) fun⟨x,hx,hc⟩=>by
 obtain⟨_,q1,q2,_⟩:=(c_cells (oD:={cls:= .none,data:= .plain}) sc c).new x ((mem_lookup sc.nd).mpr hx)
 exact Option.some.inj (q1.symm.trans hc)▸Nat.lt_of_lt_of_le (Nat.lt_add_of_pos_right (Nat.le.step Nat.le.refl)) q2
theorem c_free (h:(x,NameKind.free)∈scope.names):(cCells scope env s.heap.objs.size).lookup x=env.cells.lookup x:=
 ((c_cells (oD:={cls:= .none,data:= .plain}) sc c).old x fun q=>nomatch ((mem_lookup sc.nd).mp q).symm.trans ((mem_lookup sc.nd).mp h)).trans ((clFrom_lookup x _ _ (sc.cl c.ok)).trans (if_pos h))
omit sc in
theorem c_kind (x:Str):(cEnv scope env s.heap.objs.size).kindOf x=(scope.names.lookup x).map (rlK nm x):=(congrArg (List.lookup x) (relabel_names c.ok.kind c.ok.names)).trans (relabel_lookup x)
theorem c_lay:Lay (cEnv scope env s.heap.objs.size) scope.names (cHeap scope s.heap oD):=
 have f:=c_cells (oD:=oD) sc c
 have new:s.heap.get? (s.heap.objs.size+1)=none:=none_of_size (Nat.le_succ _)
 ⟨sc.kind,fun x hx=>lookup_relabel_local hx,fun x hx=>⟨(c_kind c x).trans (congrArg (Option.map (rlK nm x)) hx),by obtain⟨a,q1,_,q3⟩:=f.new x ((mem_lookup sc.nd).mpr hx);exact⟨a,none,q1,q3⟩⟩,
   ⟨_,((Heap.size_push s.heap oD)▸Heap.Ns.new (s.heap.push oD) (.type "dict"):Heap.Ns (cPush s.heap oD) (s.heap.objs.size+1) fun ω=>none).keeps (pushCells_keeps _ _)⟩,
   fun x a q=>(c_case sc c q).elim (fun q1=>(Nat.ne_of_lt q1.1).symm) fun q1 (e:a=s.heap.objs.size+1)=>not_there new (e▸q1.2),
   fun x y a hx q1 q2=>f.one y x a (by obtain⟨_,w1,w2,_⟩:=f.new x ((mem_lookup sc.nd).mpr hx);exact Option.some.inj (w1.symm.trans q1)▸w2) q2 q1⟩
theorem c_env:EnvOk (cEnv scope env s.heap.objs.size) (relabelN scope.names nm):=
 ⟨relabel_names c.ok.kind c.ok.names,sc.kind,c.ok.glob,c.ok.bi,fun x hx=>om ((relabel_lookup x).symm.trans hx) fun kk e h=>by
   unfold rlK at h
   by_cases hc:kk= .free∧nm.lookup x=some .cell
   ·have hm:=(mem_lookup sc.nd).mpr (hc.1▸e)
    exact by obtain⟨a,ha⟩:=c.ok.cel x hc.2;exact⟨a,(c_free sc c hm).trans ha⟩
   ·rw[if_neg hc] at h
    exact by obtain⟨a,w1,_⟩:=(c_cells (oD:={cls:= .none,data:= .plain}) sc c).new x ((mem_lookup sc.nd).mpr (h▸e));exact⟨a,w1⟩⟩
end
section
variable {α:Type}{W:Wd}{s s₂:Shared}{A:Around}{k:Nat}{self:Ev}{C:Cfg}{nm:Names}{env:Env}{μ:Addr→Prop}{ρ:Rho}{scope:Scope}{oD:Obj}{e:Expr}{g:Comprehension}{gs:List Comprehension}{its:List D}{ys:List α}{emitD:Rho→Option α}
 {J:Addr→(Addr→Prop)→List α→Heap→Prop} {em:Addr→Env→Sem Unit}
structure GensOk (ρ:Rho)(gs:List Comprehension):Prop where
 asy: ∀g∈gs,g.is_async=0
 nd:(tnL gs).Nodup
 dis: ∀x∈tnL gs,ρ.lookup x=none
theorem GensOk.of {gs:List Comprehension}(h:okGens ρ gs=true):GensOk ρ gs:=
 have h1:=Bool.and_eq_true_iff.mp h
 have h2:=Bool.and_eq_true_iff.mp h1.1
 ⟨fun g hg=>beq_iff_eq.mp (List.all_eq_true.mp h2.1 g hg),of_decide_eq_true h2.2,fun x hx=>Option.isNone_iff_eq_none.mp (List.all_eq_true.mp h1.2 x hx)⟩
structure CompEnd (W:Wd)(μ:Addr→Prop)(s:Shared)(J:(Addr→Prop)→List α→Heap→Prop)(ys:List α)(D:Addr)(r:Result)(s':Shared):Prop where
 e:r= .ok .next
 d:s.heap.get? D=none
 l:s.heap.get? (D+1)=none
 t:Stp W s s'
 ns: ∃m,s'.heap.Ns (D+1) m
 j:J (fun b=>μ b∨b=D∨b=D+1) ys s'.heap
theorem comp_run (S:EvS W k self)(P:Plain self)(G:GlobOk W C)(sc:ScOk scope nm)(c:Cxt W nm env μ ρ A k s)(go:GensOk (captured scope.names ρ) (g::gs)){pr:Bool}{it:Value}(z:IterOk W A μ s its pr it s₂)(hpr:pr=true→isTupT g.target=true)
  (hce:compE self C scope.names (relabelN scope.names nm) emitD (g::gs) its (captured scope.names ρ)=some ys) (hlen:ys.length≤lim) (hJ: ∀D,JOk D (J D)) (hJ0: ∀ν,J s₂.heap.objs.size ν [] (s₂.heap.push oD))
  (hsem: ∀D cenv,CompSem W A e (g::gs) (.ref D) cenv (em D cenv)) (hem: ∀D cenv,EmOk W k A (relabelN scope.names nm) cenv D (J D) emitD (em D cenv)):
  codeAny (MD W) A (.compStart e 0 it (.ref s₂.heap.objs.size) (cEnv scope env s₂.heap.objs.size)) (CompEnd W μ s (J s₂.heap.objs.size) ys s₂.heap.objs.size) {s₂ with heap:=cHeap scope s₂.heap oD}:=by
 obtain⟨t2,I,fp,wr,h₁,St,rfl,ok,st,kb,th,th2⟩:=z
 have c2:=c.step t2
 have lay:=c_lay (oD:=oD) sc c2
 have own:=fun a=>c_own (a:=a) sc c2
 have case:=fun x a=>c_case (x:=x) (a:=a) sc c2
 generalize hD:s₂.heap.objs.size=D at*
 have t4:Stp W s₂ {s₂ with heap:=cHeap scope s₂.heap oD}:= .keep fun ω ω=>cHeap_kept
 have k4:KeptBut (fun ω=>False) s₂.heap (cHeap scope s₂.heap oD):=fun b o q ω ω=>cHeap_kept q
 have none2: ∀b,D≤b→s₂.heap.get? b=none:=fun b q=>none_of_size (hD▸q)
 have h1none: ∀b,D≤b→h₁.get? b=none:=fun b q=>Option.eq_none_iff_forall_ne_some.mpr fun o z=>not_there (none2 b q) (th2 b o z)
 have new1: ∀b,(b∈wr∨b=D∨OwnP (cEnv scope env D) scope.names b)→h₁.get? b=none:=fun b q=>q.elim (ok.new b) fun q=>h1none b (q.elim (fun q=>Nat.le_of_eq q.symm) fun q=>Nat.le_of_lt (own b q))
 have newS: ∀b,(b∈wr∨b=D∨OwnP (cEnv scope env D) scope.names b)→s.heap.get? b=none:=fun b q=>Option.eq_none_iff_forall_ne_some.mpr fun o z=>not_there (new1 b q) (th b o z)
 have wr2: ∀b∈wr,∃o,s₂.heap.get? b=some o:=fun b hb=>by obtain⟨o,ho,_⟩:=ok.ex _ _ st b (ok.sub b hb);exact⟨o,ho⟩
 let X:Fx α W k A:=⟨self,C,relabelN scope.names nm,scope.names,cEnv scope env D,D,J D,emitD,em D (cEnv scope env D),e,g::gs,.ref D,S,P,G,c.room,hD▸c_env sc c2,hJ D,hem D _,hsem D _,fun q=>Nat.lt_irrefl _ (own D q),
  fun x a q e=>(case x a q).elim (fun q1=>Nat.lt_irrefl _ (Nat.lt_of_lt_of_le (Nat.lt_add_of_pos_right (Nat.le.step Nat.le.refl)) (e▸q1.1))) fun q1=>not_there (none2 D (Nat.le_refl _)) (e▸q1.2),fun h=>absurd (relabel_local h) sc.mark,fun h=>sc.txt (relabel_local h),go.asy⟩
 have L4:LI X (fun b=>μ b∨b∈wr∨b=D∨OwnP (cEnv scope env D) scope.names b) (captured scope.names ρ) [] {s₂ with heap:=cHeap scope s₂.heap oD}:=by
  refine⟨(c2.step t4).inv,⟨fun a q o h=>q.elim (fun q=>c.mu.lo a q o h) fun q=>not_there (newS a q) (c.inv.grow.there ⟨o,h⟩),fun a q=>q.elim ((c2.step t4).mu.hi a) fun q=>q.elim (fun q=>(wr2 a q).elim fun o ho=>⟨o,cHeap_kept ho⟩) fun q=>q.elim (fun q=> ?_) (lay.there a)⟩,lay,fun x t' d' q=> ?_,?_,fun x a q=> ?_⟩
  ·obtain⟨o,ho,_⟩:=(hJ D).there _ _ _ (hJ0 fun ω=>False)
   exact⟨o,q▸pushCells_keeps _ _ _ _ (Heap.get?_push_of_some _ ho)⟩
  ·obtain⟨rfl,hρ,hm⟩:=captured_lookup q
   obtain⟨v,hv,r⟩:=c.see x _ _ hρ
   refine⟨v,?_,.fr ((Rep.mu (fun a o h q=>q.resolve_right fun z=>nomatch (newS a z).symm.trans h) r).kept (t2.trans t4).kept)⟩
   exact hv.elim (fun⟨hk,_⟩=>by
    unfold Env.kindOf at hk
    rw[c.ok.names,sc.free x hm] at hk
    cases hk) fun⟨hk,a,ha,hc⟩=> .inr ⟨by
     have:=hD▸c_kind (scope:=scope) c2 x
     rw[this,(mem_lookup sc.nd).mp hm]
     exact congrArg some (if_pos ⟨rfl,sc.free x hm⟩),a,(hD▸c_free sc c2 hm:(cCells scope env D).lookup x=_).trans ha,cell_kept hc (t2.trans t4).kept⟩
  ·exact(hJ D).keep _ [] _ _ (hJ0 _) (fun b o q ω ω=>pushCells_keeps _ _ _ _ (Heap.get?_push_of_some _ q)) fun o q=>pushCells_keeps _ _ _ _ (Heap.get?_push_of_some _ q)
  ·exact(case x a q).elim (fun q1=>by obtain⟨_,a',v,w1,o,ho,_⟩:=lay.cel x q1.2;exact⟨o,Option.some.inj (w1.symm.trans q)▸ho⟩) fun q1=>(c2.step t4).cel x a q1.1
 have main:=loop_sound (X:=X) gs g 0 rfl rfl _ μ (captured scope.names ρ) I fp wr h₁ its pr St ⟨ok,hpr,fun b hb=> .inr (.inl hb),fun a q=>q.imp id (new1 a),fun b q=> .inr (.inr q),
  fun b hb q=>not_there (none2 b (q.elim (fun q=>Nat.le_of_eq q.symm) fun q=>Nat.le_of_lt (own b q))) (wr2 b hb),
  fun x a q hb=>(case x a q).elim (fun q1=>not_there (none2 a (Nat.le_trans (Nat.le_add_right _ _) q1.1)) (wr2 a hb)) fun q1=>not_there (newS a (.inl hb)) (c.cel x a q1.1),go.nd,go.dis⟩ its 0 [] ys _ rfl (Nat.zero_le _)
  (ok.frame _ _ _ st fun b ω o q=>cHeap_kept q) (kb.trans fun b o q ω ω=>cHeap_kept q) L4 hce ((Nat.zero_add _).symm▸hlen)
 refine X.sem.begin (congrArg some (sync (go.asy g (.head _)))) (fun Q hq=>ok.self 0 _ _ _ (ok.frame _ _ _ st fun b ω o q=>cHeap_kept q) hq) (codeAny_mono main fun r s₆ z=> ?_)
 refine⟨z.e,newS D (.inr (.inl rfl)),newS (D+1) (.inr (.inr (.inl rfl))),(((t2.trans t4).mv.trans z.m).stp fun b o q h=>nomatch (newS b (q.elim .inr .inl)).symm.trans h),z.lay.ns,(hJ D).mu _ _ _ _ z.j fun a o ω q=>q.elim .inl fun q=> .inr (.inr (q.imp id fun q=> .inl q))⟩
theorem comp_expr (S:EvS W k self)(P:Plain self)(G:GlobOk W C){pos:Pos}{newAcc:Sem Value}{use:Option (Value→Sem Unit)}{Q:Value→Shared→Prop}(c:Cxt W nm env μ ρ A k s)
  (hcl:clausesOf e=g::gs) (hok:(okScope scope nm&&okGens (captured scope.names ρ) (g::gs))=true) (hit:iterE self C nm ρ g.target g.iter=some its)
  (hce:compE self C scope.names (relabelN scope.names nm) emitD (g::gs) its (captured scope.names ρ)=some ys) (hlen:ys.length≤lim)
  (hJ: ∀D,JOk D (J D)) (hnew: ∀s₂ (Q:Value→Shared→Prop),Stp W s s₂→(∀o,¬Soft o→(∀ν,J s₂.heap.objs.size ν [] (s₂.heap.push o))→Q (.ref s₂.heap.objs.size) {s₂ with heap:=s₂.heap.push o})→wpAny (MD W) A newAcc Q No s₂)
  (hsem: ∀D cenv,CompSem W A e (g::gs) (.ref D) cenv (em D cenv)) (hem: ∀D cenv,EmOk W k A (relabelN scope.names nm) cenv D (J D) emitD (em D cenv))
  (hQ: ∀D s',CompEnd W μ s (J D) ys D (.ok .next) s'→compPost (MD W) A No use Q (.ref D) (D+1) (.ok .next) s'):
  wpAny (MD W) A (comprehension e scope env pos newAcc false (eval g.iter env) use) Q No s:=by
 have hok:=Bool.and_eq_true_iff.mp hok
 have sc:=ScOk.of hok.1
 obtain⟨pr,hset,hpr,hiter⟩:=iterE_sound S G P hit c
 refine wpAny_comprehension_free hcl (folded_pure hset) (closure_eq (sc.cl c.ok)) sc.kind (fun x hx hl=>(mem_lookup sc.nd).mp (hl▸hx)) (wpAny_mono hiter (fun x s₁ h₁=>wpAny_mono h₁ (fun it s₂ z=> ?_) no) no)
 have t2:Stp W s s₂:=by obtain⟨t,_,_,_,_,_,_,_,_,_,_,_⟩:=z;exact t
 refine hnew s₂ _ t2 fun oD hoD hJ0=>new_comp_env ?_
 rw[show({s₂ with heap:=s₂.heap.push oD}:Shared).heap.objs.size=s₂.heap.objs.size+1 from Heap.size_push ..]
 exact codeAny_mono (comp_run S P G sc c (.of hok.2) z hpr hce hlen hJ hJ0 hsem hem) fun r s' z=>by
  cases z.e
  exact hQ _ s' z
end
end Mine
namespace Mine
open PySem PyProof.Rows
section
variable {W:Wd}{s s' s'':Shared}{A:Around}{k:Nat}{self:Ev}{C:Cfg}{nm nmE:Names}{env cenv:Env}{μ ν:Addr→Prop}{ρ:Rho}{D:Addr}{h:Heap}
noncomputable def JL (W:Wd) (D:Addr) (ν:Addr→Prop) (xs:List Mine.D) (h:Heap):Prop:= ∃vs:List Value,h.PlainList D vs.toArray∧RepL W h ν vs xs
theorem jl_ok (D:Addr):JOk D (JL W D) where
 keep:=fun ν xs h h' z0 k hd=>by obtain⟨vs,a,b⟩:=z0;exact⟨vs,a.at hd,b.but k⟩
 mu:=fun ν ν' xs h z1 k=>by obtain⟨vs,a,b⟩:=z1;exact⟨vs,a,b.mu k⟩
 there:=fun ν xs h z2=>by obtain⟨vs,⟨n,ho⟩,b⟩:=z2;exact⟨_,ho,soft_seq rfl⟩
theorem mv_same {h':Heap}{tk:Nat}(m:MuOk W ν s.heap)(hD:ν D)(hs:Heap.SameBut D s.heap h')(ht:s.toks≤tk:=by first|assumption|exact Nat.le_refl _|exact Nat.le_succ _|omega):Mv W (fun b=>b=D) s {s with heap:=h',toks:=tk}:=
 Mv.of (fun b o q n=>hs.extBut b o n q) (fun b o q h=>m.lo _ hD o (q▸h)) ht
theorem Mv.first (t:Stp W s s'){X:Addr→Prop}(m:Mv W X s' s''):Mv W X s s'':=t.mv.trans m
theorem one_but {h h':Heap}(hD:ν D)(hs:Heap.SameBut D h h'):KeptBut ν h h':=fun b o e ω n=>hs.extBut b o (fun q=>n (q▸hD)) e
theorem jl_em (S:EvS W k self){elt:Expr}(A:Around)(nmE:Names)(D:Addr)(cenv:Env):EmOk W k A nmE cenv D (JL W D) (fun ρ=>self nmE ρ elt) (do let _←call (.builtin "list.append") [.ref D,←eval elt cenv]):=fun ν ρ a xs s hD ha c ⟨vs,hl,r⟩ hlen=>
 wpAny_bind (S.at_ ha c fun v s₁ t rv=>wpAny_bind (wpAny_list_append_plain (plain_kept hl t.kept) (fun h' hl' hs=>wpAny_pure ⟨(mv_same (tk:=s₁.toks) (c.mu.step t.grow) hD hs).first t,vs++[v],List.push_toArray vs v▸hl',((r.kept t.kept).but (one_but hD hs)).append (.cons (rv.but (one_but hD hs)) .nil)⟩)
  (by rw[List.size_toArray,r.1];exact Nat.le_of_succ_le (Nat.le_trans hlen lim_le))))
theorem comp_done {L:Addr}{h':Heap}(hD:s.heap.get? D=none)(hL:s.heap.get? L=none)(hs:Heap.SameBut L s'.heap h')(t:Stp W s s'):Stp W s {s' with heap:=h'}:=
 t.but (tk:=s'.toks) fun b o q x=>hs.extBut b o (fun z=>not_there hL (z▸x)) q
theorem off_mu (m:MuOk W μ s.heap)(hD:s.heap.get? D=none): ¬μ D:=fun q=>not_there hD (m.hi D q)
theorem comp_but {h h':Heap}(hs:Heap.SameBut (D+1) h h'):KeptBut (fun b=>μ b∨b=D∨b=D+1) h h':=fun b o e ω n=>hs.extBut b o (fun q=>n (.inr (.inr q))) e
theorem gens_sync {gs:List Comprehension}{g:Comprehension}{ρ:Rho}(h:okGens ρ (g::gs)=true):firstAsync (g::gs)=false∧firstIter (g::gs) env=eval g.iter env:=by
 have e:=sync ((GensOk.of h).asy g (.head _))
 rw[e]
 exact⟨rfl,rfl⟩
theorem s_listcomp (S:EvS W k self)(P:Plain self)(G:GlobOk W C){elt:Expr}{scope:Scope}{pos:Pos}{gs:List Comprehension}{d:Mine.D}(c:Cxt W nm env μ ρ A k s)
  (he:((gensE C self nm (mkV C self nm ρ) gs scope fun s n ρ=>s n ρ elt).map .list)=some d):EvOk W env μ A (.ListComp elt gs scope pos) d s:=by
 cases gs with
 |nil=>first|exact nf he|exact ns he|cases he
 |cons g gs=>
  refine om he fun ys he e=>ob he fun its hit he=>oi he fun hok he=>ob he fun zs hce he=>oi he fun hlen he=>e▸Option.some.inj he▸ ?_
  show wpAny _ A (eval (.ListComp elt (g::gs) scope pos) env) _ _ s
  have hg:=gens_sync (env:=env) (Bool.and_eq_true_iff.mp hok).2
  rw[eval_ListComp,hg.1,hg.2]
  exact comp_expr S P G (use:=none) (J:=JL W) (em:=fun D cenv=>do let _←call (.builtin "list.append") [.ref D,←eval elt cenv]) c rfl hok hit hce hlen jl_ok
   (newAcc:=newList []) (fun s Q ω h=>wpAny_newList (h {cls:= .type "list",data:= .seq ([]:List Value).toArray} (soft_cls fun q=>nomatch q) fun ν=>⟨[],⟨_,Heap.get?_push_size _ rfl⟩,.nil⟩))
   (fun D cenv=>compSem_list elt (g::gs) scope pos (.ref D) cenv) (fun D cenv=>jl_em S A _ D cenv) fun D s' z=>by obtain⟨m,hn⟩:=z.ns;exact⟨m,hn,fun h' hs=>by
     obtain⟨vs,hl,r⟩:=z.j
     exact have hl':h'.PlainList D vs.toArray:=hl.at fun o e=>hs.extBut D o (Nat.succ_ne_self D).symm e
     have r':=r.but (comp_but hs)
     ⟨comp_done z.d z.l hs z.t,.list (off_mu c.mu z.d) hl'.isList (r'.mu fun ω ω ω q=> .inl q),fun ω=>⟨D,rfl,z.d,vs,hl',r'.mu fun ω ω ω q=>q.imp id .inl⟩⟩⟩
noncomputable def foldK (kvs:List (Str×Mine.D)):List (Str×Mine.D):=kvs.foldl (fun a kv=>putK a kv.1 kv.2) []
noncomputable def JD (W:Wd) (D:Addr) (ν:Addr→Prop) (xs:List (Str×Mine.D)) (h:Heap):Prop:=
 ∃vals:List (Str×Value),h.DictOf (SK W) D vals∧vals.map (·.1)=(foldK xs).map (·.1)∧RepL W h ν (vals.map (·.2)) ((foldK xs).map (·.2))
theorem jd_ok (D:Addr):JOk D (JD W D) where
 keep:=fun ν xs h h' z3 k hd=>by obtain⟨vs,⟨o,es,ep,ho,q⟩,e,b⟩:=z3;exact⟨vs,⟨o,es,ep,hd o ho,q⟩,e,b.but k⟩
 mu:=fun ν ν' xs h z4 k=>by obtain⟨vs,a,e,b⟩:=z4;exact⟨vs,a,e,b.mu k⟩
 there:=fun ν xs h z5=>by obtain⟨vs,⟨o,es,ep,ho,_,hd,_⟩,e,b⟩:=z5;exact⟨o,ho,soft_dict hd⟩
theorem putK_length (l:List (Str×Mine.D))(x:Str)(d:Mine.D):(putK l x d).length≤l.length+1:=by
 unfold putK
 by_cases h:(l.any fun kv=>decide (kv.1=x))=true
 ·rw[if_pos h,List.length_map]
  exact Nat.le_succ _
 ·rw[if_neg h,List.length_append]
  exact Nat.le_refl _
theorem foldK_length (xs:List (Str×Mine.D)):(foldK xs).length≤xs.length:=by
 have: ∀(xs acc:List (Str×Mine.D)),(xs.foldl (fun a kv=>putK a kv.1 kv.2) acc).length≤acc.length+xs.length:=by
  intro xs
  induction xs with
  |nil=>exact fun acc=>Nat.le_refl _
  |cons x xs ih=>exact fun acc=>Nat.le_trans (ih _) (Nat.le_trans (Nat.add_le_add_right (putK_length acc x.1 x.2) _) (Nat.le_of_eq (Nat.succ_add_eq_add_succ _ _)))
 exact Nat.le_trans (this xs []) (Nat.le_of_eq (Nat.zero_add _))
theorem foldK_snoc (xs:List (Str×Mine.D))(a:Str×Mine.D):foldK (xs++[a])=putK (foldK xs) a.1 a.2:=List.foldl_append
structure KV (W:Wd)(h:Heap)(ν:Addr→Prop)(vals:List (Str×Value))(ds:List (Str×Mine.D)):Prop where
 k:vals.map (·.1)=ds.map (·.1)
 r:RepL W h ν (vals.map (·.2)) (ds.map (·.2))
theorem KV.cons {x:Str}{vals:List (Str×Value)}{ds:List (Str×Mine.D)}{v:Value}{d:Mine.D}(a:Rep W h ν v d)(q:KV W h ν vals ds):KV W h ν ((x,v)::vals) ((x,d)::ds):=⟨congrArg (x:: ·) q.1,.cons a q.2⟩
theorem map_rep {x:Str}{v:Value}{d:Mine.D}(rv:Rep W h ν v d): ∀{vals:List (Str×Value)} {ds:List (Str×Mine.D)},vals.map (·.1)=ds.map (·.1)→RepL W h ν (vals.map (·.2)) (ds.map (·.2))→
  KV W h ν (vals.map fun kv=>if kv.1=x then(kv.1,v) else kv) (ds.map fun kv=>if kv.1=x then(kv.1,d) else kv)
 | [],[],_,_=>⟨rfl,.nil⟩
 | [],_::_,e,_=>nomatch e
 |_::_,[],e,_=>nomatch e
 |(k1,v1)::vals,(k2,d2)::ds,e,r=>by
  have he:=List.cons.inj e
  have ih:=map_rep (x:=x) rv he.2 r.tl
  cases (he.1:k1=k2)
  rw[List.map_cons,List.map_cons]
  by_cases hx:k1=x
  ·rw[if_pos hx,if_pos hx]
   exact .cons rv ih
  ·rw[if_neg hx,if_neg hx]
   exact .cons r.hd ih
theorem any_keys {vals:List (Str×Value)}{ds:List (Str×Mine.D)}(e:vals.map (·.1)=ds.map (·.1))(x:Str):(vals.any fun kv=>decide (kv.1=x))=ds.any fun kv=>decide (kv.1=x):=
 (List.any_map (f:=Prod.fst) (p:=fun y=>decide (y=x))).symm.trans ((congrArg (List.any · fun y=>decide (y=x)) e).trans List.any_map)
theorem stored_rep {vals:List (Str×Value)}{ds:List (Str×Mine.D)}{x:Str}{v:Value}{d:Mine.D}(e:vals.map (·.1)=ds.map (·.1))(r:RepL W h ν (vals.map (·.2)) (ds.map (·.2)))(rv:Rep W h ν v d):KV W h ν (stored vals x v) (putK ds x d):=by
 unfold stored putK
 rw[any_keys e]
 by_cases q:(ds.any fun kv=>decide (kv.1=x))=true
 ·rw[if_pos q,if_pos q]
  exact map_rep rv e r
 ·rw[if_neg q,if_neg q]
  exact⟨by rw[List.map_append,List.map_append,e];rfl,by rw[List.map_append,List.map_append];exact r.append (.cons rv .nil)⟩
theorem jd_em (S:EvS W k self){kx vx:Expr}(A:Around)(nmE:Names)(D:Addr)(cenv:Env):EmOk W k A nmE cenv D (JD W D) (fun ρ=>kvE (self nmE ρ) kx vx) (emD kx vx cenv D):=fun ν ρ a xs s hD ha c ⟨vals,hd,he,r⟩ hlen=>
 ob ha fun b h1 ha=>ob ha fun x hx ha=>om ha fun d h2 ha=>by
  unfold emD
  refine wpAny_bind (S.at_ h1 c fun kv s₁ t1 r1=>wpAny_bind (wpAny_holding (S.at_ h2 (c.step t1) fun vv s₂ t2 r2=>wpAny_bind (wpAny_standAt (wpAny_holding ((asStr_inv hx▸r1:Rep W s₁.heap ν kv (.str x)).str_elim fun u=> ?_))))))
  have t:=t1.trans t2
  refine wpAny_dictSet_pairs (strKind_is PW W.w _ _) (dictOf_kept hd t.kept) (fun h' hd' hs=> ?_) (keys_len' he▸Nat.le_trans (foldK_length xs) (Nat.le_of_succ_le (Nat.le_trans hlen lim_le)))
  have z:=stored_rep (x:=x) he ((r.kept t.kept).but (one_but hD hs)) (r2.but (one_but hD hs))
  exact⟨(mv_same (tk:=s₂.toks+1) (c.mu.step t.grow) hD hs).first t,_,hd',(foldK_snoc xs a).symm▸ha▸z.1,(foldK_snoc xs a).symm▸ha▸z.2⟩
theorem new_sys (i:Inv W s)(hD:s.heap.get? D=none):D≠sysModules:=fun q=>not_there hD (q▸i.grow.there W.sys)
theorem s_dictcomp (S:EvS W k self)(P:Plain self)(G:GlobOk W C){kx vx:Expr}{scope:Scope}{pos:Pos}{gs:List Comprehension}{d:Mine.D}(c:Cxt W nm env μ ρ A k s)
  (he:((gensE C self nm (mkV C self nm ρ) gs scope fun s n ρ=>kvE (s n ρ) kx vx).map fun kvs=>Mine.D.dict (kvs.foldl (fun a kv=>putK a kv.1 kv.2) []))=some d):EvOk W env μ A (.DictComp kx vx gs scope pos) d s:=by
 cases gs with
 |nil=>first|exact nf he|exact ns he|cases he
 |cons g gs=>
  refine om he fun ys he e=>ob he fun its hit he=>oi he fun hok he=>ob he fun zs hce he=>oi he fun hlen he=>e▸Option.some.inj he▸ ?_
  show wpAny _ A (eval (.DictComp kx vx (g::gs) scope pos) env) _ _ s
  have hg:=gens_sync (env:=env) (Bool.and_eq_true_iff.mp hok).2
  rw[arm_eval_DictComp]
  dsimp only
  rw[hg.1,hg.2]
  exact comp_expr S P G (use:=none) (J:=JD W) (em:=fun D cenv=>emD kx vx cenv D) c rfl hok hit hce hlen jd_ok
   (newAcc:=newDict) (fun s Q ω h=>wpAny_bind (wpAny_alloc (wpAny_pure (h {cls:= .type "dict",data:= .dict #[]} (soft_dict rfl) fun ν=>⟨[],Heap.DictOf.new _,rfl,.nil⟩))))
   (fun D cenv=>compSem_dict kx vx (g::gs) scope pos D cenv) (fun D cenv=>jd_em S A _ D cenv) fun D s' z=>by obtain⟨m,hn⟩:=z.ns;exact⟨m,hn,fun h' hs=>by
     obtain⟨vs,⟨o,es,ep,ho,q⟩,he,r⟩:=z.j
     exact have hl':h'.DictOf (SK W) D vs:=⟨o,es,ep,hs.extBut D o (Nat.succ_ne_self D).symm ho,q⟩
     have r':=r.but (comp_but hs)
     have hsys:=new_sys c.inv z.d
     ⟨comp_done z.d z.l hs z.t,.dict (off_mu c.mu z.d) hsys hl' he (r'.mu fun ω ω ω q=> .inl q),fun ω=>⟨D,rfl,z.d,vs,hsys,hl',he,r'.mu fun ω ω ω q=>q.imp id .inl⟩⟩⟩
end
end Mine
namespace Mine
open PySem PyProof.Rows
section
variable {W:Wd}{s s' s'':Shared}{A:Around}{k:Nat}{self:Ev}{nm:Names}{env:Env}{μ:Addr→Prop}{ρ:Rho}{d:D}
noncomputable def pairD (kv:Str×D):D:= .tup [.str kv.1,kv.2]
theorem of_map {h:Heap}{α β:Type}{as:List α}{bs:List β}{f:α→Value}{g:β→D}(hl:as.length=bs.length)(hr: ∀(i:Nat) a b,as[i]?=some a→bs[i]?=some b→Rep W h μ (f a) (g b)):RepL W h μ (as.map f) (bs.map g):=
 ⟨(List.length_map _).trans (hl.trans (List.length_map _).symm),fun i v d e1 e2=>by obtain⟨a,ea,fa⟩:=map_at e1;exact by obtain⟨b,eb,fb⟩:=map_at e2;exact fa▸fb▸hr i a b ea eb⟩
theorem s_listItems (S:EvS W k self){f o:Expr}{mp p p':Pos}(hf:isAttr f=false)(h1:self nm ρ f=some (.ty "list"))
  (h:iteO (baseOk o=true∧mp.endLine=p.line) ((self nm ρ o).bind fun d=>(asDict d).bind fun kvs=>iteO (kvs.length≤lim) (some (.list (kvs.map pairD))))=some d)
  (c:Cxt W nm env μ ρ A k s):EvOk W env μ A (.Call f [.Call (.Attribute o "items" mp) [] [] p] [] p') d s:=
 oi h fun hb h=>ob h fun e h2 h=>ob h fun kvs h3 h=>oi h fun hlen h=>os h fun h=>h▸s_call S hf h1 c fun fv s₁ t1 r1=>r1.ty_elim (by
  refine PySem.callWith_type rfl (args_of (as:=[.Call (.Attribute o "items" mp) [] [] p]) rfl (wpAny_items_cons (meth_call ⟨hb.1,hb.2,Nat.le_of_ble_eq_true rfl⟩ rfl (S.at_ h2 (c.step t1) fun ov s₂ t2 r2=>(asDict_inv h3▸r2:Rep W s₂.heap μ ov (.dict kvs)).dict_elim fun a kv' g0 g1 g2 g3 g4=> ?_))))
  refine⟨"dict",_,F.plainAttrs_dict,F.slot_dict_items,F.type_dict_items,g2.typeIs,g2.mapOf.noDict,wpAny_items_nil (call_meetsIn F.slot_dict_items g2.typeIs F.entry_dict_items (F.args_dict_items_1 _) (meets_dict_items (SK W) _ (by simpa using g1)) ⟨⟨_,g2⟩,wpAny_items_nil ?_⟩)⟩
  have t3:Stp W s {s₂ with heap:=s₂.heap.push {cls:= .type "dict_items",data:= .fields #[.ref a]}}:=(t1.trans t2).trans (Stp.push _ _)
  obtain⟨ep,h5⟩:=(g2.push {cls:= .type "dict_items",data:= .fields #[.ref a]}).dictAt
  have hkl:=keys_len' g3
  refine wpAny_with_toks (Nat.le_refl _)<|PySem.W.kdx_call (knd:=SK W) c.room.handled (d:=a) ⟨_,Heap.get?_push_size _ rfl,rfl,rfl⟩ h5 (by rw[hkl];exact Nat.le_trans hlen lim_le) fun h' tk acc cc as hk hD hal hG hacc htk=> ?_
  have m4:=c.mu.step t3.grow
  have r4:=(RepL.keepP g4 {cls:= .type "dict_items",data:= .fields #[.ref a]}).kept (.of hk)
  refine⟨t3.trans (.keep hk),.list (m4.fresh (Nat.le_refl _)) (vs:=as.map Value.ref) ⟨_,hD,rfl,cc,congrArg (Data.seq · cc) (congrArg List.toArray hacc)⟩ (of_map (hal.trans hkl) fun i a kv ha hi=> ?_)⟩
  obtain⟨key,y,v,e1,e2,e3⟩:=hG.pairs i a ha
  obtain⟨t,rfl⟩:=Value.isStrOf_shape e2
  have ru:=r4.2 i v kv.2 (List.getElem?_map.trans (congrArg (Option.map (·.2)) e1)) (List.getElem?_map.trans (congrArg (Option.map (·.2)) hi))
  exact .tup (fun q=>(m4.hi _ q).elim fun o ho=>absurd (Heap.lt_size ho) (Nat.not_lt.mpr (Nat.le_of_lt (hG.above _ (List.mem_of_getElem? ha))))) (vs:=[.str y t,v]) ⟨_,e3,rfl,_,rfl⟩ (.cons ((key_at g3 e1 hi:y=kv.1)▸ .str _ _) (.cons ru .nil)))
end
end Mine
namespace Mine
open PySem PyProof.Rows
open PySem.AutoSeq1 (wpAny_loadPart')
section
variable {W:Wd}{A:Around}{E:Value→Shared→Prop}{s:Shared}
variable {i1 i2 z TI TO:Addr}{n1 n2:Nat}{P1 P2:Nat→Value→Prop}{S1 S2:Nat→Heap→Prop}{f1 f2:List Addr}
structure ZApart (z TI TO i1 i2:Addr)(f1 f2:List Addr):Prop where
 TIz:TI≠z
 TOz:TO≠z
 i1z:i1≠z
 i2z:i2≠z
 TITO:TI≠TO
 TIi1:TI≠i1
 TIi2:TI≠i2
 TOi1:TO≠i1
 TOi2:TO≠i2
 z1:z∉f1
 z2:z∉f2
 o1:TO∉f1
 o2:TO∉f2
 i21:i2∉f1
 i12:i1∉f2
theorem sb_frame {b:Addr}{f:List Addr}{S:Nat→Heap→Prop}{i:Nat}{h h':Heap}(fr: ∀i h h',S i h→(∀b∈f,∀o,h.get? b=some o→h'.get? b=some o)→S i h')(x:S i h)(hs:Heap.SameBut b h h')(hb:b∉f):S i h':=
 fr _ _ _ x fun c hc o e=>hs.extBut c o (fun q=>hb (q▸hc)) e
theorem zip_item (D1:Draws PW W.w A.in1 i1 f1 n1 P1 S1)(D2:Draws PW W.w A.in1 i2 f2 n2 P2 S2)(Z:ZApart z TI TO i1 i2 f1 f2){k:Nat}{a b:Value}{Q:Value→Shared→Prop}
  (hz:IsZip s.heap z TI TO .none) (hTI:IsPair s.heap TI (.ref i1) (.ref i2)) (hTO:IsPair s.heap TO a b) (h1:S1 k s.heap) (h2:S2 k s.heap) (hk1:k<n1) (hk2:k<n2)
  (hQ: ∀x y h' tk (T:Addr),P1 k x→P2 k y→IsZip h' z TI TO (rawInt T)→IsPair h' TO x y→S1 (k+1) h'→S2 (k+1) h'→IsPair h' T x y→s.heap.get? T=none→
    (∀c o,c≠z→c≠TO→c≠i1→c≠i2→s.heap.get? c=some o→h'.get? c=some o)→Q (.ref T) {s with heap:=h',toks:=tk}):
  wpAny (MD W) A.in1 (Builtin.«zip.__next__» ⟨[.ref z],[]⟩) (fun fin s'=> ∃v,fin= .done (.ret v)∧Q v s') E s:=by
 show wpAny _ _ (field (.ref z) 2>>=_) _ _ _
 refine wpAny_bind (wpAny_field hz rfl (x:= .bool false) rfl ?_)
 show wpAny _ _ (field (.ref z) 3>>=_) _ _ _
 refine wpAny_bind (wpAny_field hz rfl (x:= .ref TI) rfl ?_)
 refine wpAny_bind (wpAny_seqItems hTI rfl ?_)
 show wpAny _ _ (Builtin.SmallTypes.ownedTupleIsFree (.ref z)>>=_) _ _ _
 refine wpAny_bind ?_
 unfold Builtin.SmallTypes.ownedTupleIsFree
 refine wpAny_bind (wpAny_field hz rfl (x:= .none) rfl (wpAny_pure ?_))
 simp only[if_true]
 refine wpAny_bind (wpAny_rule ?_)
 refine wpAny_bind (wpAny_field hz rfl (x:= .ref TO) rfl ?_)
 refine wpAny_bind (wpAny_setField_rec hz (Nat.le_of_ble_eq_true rfl) fun ha hza hsa=> ?_)
 replace hza:IsZip ha z TI TO .ellipsis:=hza
 refine wpAny_bind ?_
 simp only[List.zipIdx_cons,List.zipIdx_nil,List.forIn_cons,List.forIn_nil]
 refine wpAny_bind (wpAny_bind (wpAny_onRaise ?_))
 show wpAny _ _ (Builtin.SmallTypes.nextOf (.ref i1)>>=_) _ _ _
 refine wpAny_bind (D1.item k _ _ _ hk1 (sb_frame D1.frame h1 hsa Z.z1) fun x hb tk1 p1 h1b hsb=>wpAny_pure ?_)
 have hTOb:IsPair hb TO a b:=hsb.extBut _ _ Z.TOi1 (hsa.extBut _ _ Z.TOz hTO)
 refine wpAny_bind (wpAny_seqItems hTOb rfl ?_)
 refine wpAny_bind (wpAny_updateSeq_pair hTOb fun hc hTOc hsc=> ?_)
 replace hTOc:IsPair hc TO x b:=hTOc
 refine wpAny_bind (wpAny_letGo (wpAny_pure ?_))
 refine wpAny_bind (wpAny_bind (wpAny_onRaise ?_))
 show wpAny _ _ (Builtin.SmallTypes.nextOf (.ref i2)>>=_) _ _ _
 have h1f:i1∉f2:=Z.i12
 refine wpAny_bind (D2.item k _ _ _ hk2 (sb_frame D2.frame (sb_frame D2.frame (sb_frame D2.frame h2 hsa Z.z2) hsb h1f) hsc Z.o2) fun y hd tk2 p2 h2d hsd=>wpAny_pure ?_)
 have hTOd:IsPair hd TO x b:=hsd.extBut _ _ Z.TOi2 hTOc
 refine wpAny_bind (wpAny_seqItems hTOd rfl ?_)
 refine wpAny_bind (wpAny_updateSeq_pair hTOd fun he hTOe hse=> ?_)
 replace hTOe:IsPair he TO x y:=hTOe
 refine wpAny_bind (wpAny_letGo (wpAny_pure (wpAny_pure ?_)))
 refine wpAny_bind (wpAny_seqItems hTOe rfl ?_)
 refine wpAny_bind (wpAny_newTuple ?_)
 have hze:IsZip he z TI TO .ellipsis:=hse.extBut _ _ Z.TOz.symm (hsd.extBut _ _ Z.i2z.symm (hsc.extBut _ _ Z.TOz.symm (hsb.extBut _ _ Z.i1z.symm hza)))
 have hke: ∀c o,c≠z→c≠TO→c≠i1→c≠i2→s.heap.get? c=some o→he.get? c=some o:=fun c o c1 c2 c3 c4 e=>
  hse.extBut _ _ c2 (hsd.extBut _ _ c4 (hsc.extBut _ _ c2 (hsb.extBut _ _ c3 (hsa.extBut _ _ c1 e))))
 have hsz:he.objs.size=s.heap.objs.size:=by rw[hse.1,hsd.1,hsc.1,hsb.1,hsa.1]
 have h1e:S1 (k+1) he:=sb_frame D1.frame (sb_frame D1.frame (sb_frame D1.frame h1b hsc Z.o1) hsd Z.i21) hse Z.o1
 have h2e:S2 (k+1) he:=sb_frame D2.frame h2d hse Z.o2
 have hzlt:z<he.objs.size:=Heap.lt_size hze
 show wpAny _ _ (Builtin.SmallTypes.ownedTupleHandOut (.ref z) (.ref he.objs.size)>>=_) _ _ _
 refine wpAny_bind ?_
 unfold Builtin.SmallTypes.ownedTupleHandOut
 have hzf:IsZip (he.push {cls:= .type "tuple",data:= .seq #[x,y]}) z TI TO .ellipsis:=Heap.get?_push_of_some _ hze
 refine wpAny_bind (wpAny_setField_rec hzf (by simp) fun hg hzg hsg=> ?_)
 replace hzg:IsZip hg z TI TO (rawInt he.objs.size):=hzg
 refine wpAny_setField_rec hzg (by simp) fun hi hzi hsi=> ?_
 replace hzi:IsZip hi z TI TO (rawInt he.objs.size):=hzi
 have up: ∀c o,c≠z→he.get? c=some o→hi.get? c=some o:=fun c o c1 e=>hsi.extBut _ _ c1 (hsg.extBut _ _ c1 (Heap.get?_push_of_some _ e))
 have hTi:IsPair hi he.objs.size x y:=hsi.extBut _ _ (Nat.ne_of_gt hzlt) (hsg.extBut _ _ (Nat.ne_of_gt hzlt) (Heap.get?_push_size _ rfl))
 refine wpAny_pure ⟨_,rfl,?_⟩
 refine hQ x y hi _ he.objs.size p1 p2 hzi (up _ _ Z.TOz hTOe) (D1.frame _ _ _ h1e fun c hc o e=>up c o (fun q=>Z.z1 (q▸hc)) e) (D2.frame _ _ _ h2e fun c hc o e=>up c o (fun q=>Z.z2 (q▸hc)) e) hTi
  (none_of_size (by rw[hsz];exact Nat.le_refl _)) fun c o c1 c2 c3 c4 e=>up c o c1 (hke c o c1 c2 c3 c4 e)
theorem zipD_end (D1:Draws PW W.w A.in1 i1 f1 n1 P1 S1)(D2:Draws PW W.w A.in1 i2 f2 n2 P2 S2)(Z:ZApart z TI TO i1 i2 f1 f2){k:Nat}{a b:Value}{Q:PySem.Fin→Shared→Prop}
  (hz:IsZip s.heap z TI TO .none) (hTI:IsPair s.heap TI (.ref i1) (.ref i2)) (hTO:IsPair s.heap TO a b) (h1:S1 k s.heap) (h2:S2 k s.heap) (hend:k=n1∨(k<n1∧k=n2))
  (hE: ∀h' tk e,(∀c o,c≠z→c≠TO→c≠i1→c≠i2→s.heap.get? c=some o→h'.get? c=some o)→(∃o,h'.get? e=some o∧o.cls= .type "StopIteration")→E (.ref e) {s with heap:=h',toks:=tk}):
  wpAny (MD W) A.in1 (Builtin.«zip.__next__» ⟨[.ref z],[]⟩) Q E s:=by
 show wpAny _ _ (field (.ref z) 2>>=_) _ _ _
 refine wpAny_bind (wpAny_field hz rfl (x:= .bool false) rfl ?_)
 show wpAny _ _ (field (.ref z) 3>>=_) _ _ _
 refine wpAny_bind (wpAny_field hz rfl (x:= .ref TI) rfl ?_)
 refine wpAny_bind (wpAny_seqItems hTI rfl ?_)
 show wpAny _ _ (Builtin.SmallTypes.ownedTupleIsFree (.ref z)>>=_) _ _ _
 refine wpAny_bind ?_
 unfold Builtin.SmallTypes.ownedTupleIsFree
 refine wpAny_bind (wpAny_field hz rfl (x:= .none) rfl (wpAny_pure ?_))
 simp only[if_true]
 refine wpAny_bind (wpAny_rule ?_)
 refine wpAny_bind (wpAny_field hz rfl (x:= .ref TO) rfl ?_)
 refine wpAny_bind (wpAny_setField_rec hz (Nat.le_of_ble_eq_true rfl) fun ha hza hsa=> ?_)
 replace hza:IsZip ha z TI TO .ellipsis:=hza
 refine wpAny_bind ?_
 simp only[List.zipIdx_cons,List.zipIdx_nil,List.forIn_cons,List.forIn_nil]
 refine wpAny_bind (wpAny_bind (wpAny_onRaise ?_))
 show wpAny _ _ (Builtin.SmallTypes.nextOf (.ref i1)>>=_) _ _ _
 rcases hend with hk|⟨hk1,hk2⟩
 ·subst hk
  refine wpAny_bind (D1.done _ _ _ (sb_frame D1.frame h1 hsa Z.z1) fun hb e hsb he=> ?_)
  obtain⟨oe,hoe,hce⟩:=he
  have hzb:IsZip hb z TI TO .ellipsis:=hsb _ _ Z.i1z.symm hza
  have hez:e≠z:=fun x=>by subst x;rw[hzb] at hoe;cases hoe;simp at hce
  refine wpAny_setField_rec hzb (by simp) fun hc ω hsc=>hE hc _ e (fun c o c1 ω c3 ω x=>hsc.extBut _ _ c1 (hsb _ _ c3 (hsa.extBut _ _ c1 x))) ⟨oe,hsc.extBut _ _ hez hoe,hce⟩
 ·subst hk2
  refine wpAny_bind (D1.item k _ _ _ hk1 (sb_frame D1.frame h1 hsa Z.z1) fun x hb tk1 p1 h1b hsb=>wpAny_pure ?_)
  have hTOb:IsPair hb TO a b:=hsb.extBut _ _ Z.TOi1 (hsa.extBut _ _ Z.TOz hTO)
  refine wpAny_bind (wpAny_seqItems hTOb rfl ?_)
  refine wpAny_bind (wpAny_updateSeq_pair hTOb fun hc hTOc hsc=> ?_)
  refine wpAny_bind (wpAny_letGo (wpAny_pure ?_))
  refine wpAny_bind (wpAny_bind (wpAny_onRaise ?_))
  show wpAny _ _ (Builtin.SmallTypes.nextOf (.ref i2)>>=_) _ _ _
  refine wpAny_bind (D2.done _ _ _ (sb_frame D2.frame (sb_frame D2.frame (sb_frame D2.frame h2 hsa Z.z2) hsb Z.i12) hsc Z.o2) fun hd e hsd he=> ?_)
  obtain⟨oe,hoe,hce⟩:=he
  have hzd:IsZip hd z TI TO .ellipsis:=hsd _ _ Z.i2z.symm (hsc.extBut _ _ Z.TOz.symm (hsb.extBut _ _ Z.i1z.symm hza))
  have hez:e≠z:=fun x=>by subst x;rw[hzd] at hoe;cases hoe;simp at hce
  refine wpAny_setField_rec hzd (by simp) fun hf ω hsf=>hE hf _ e (fun c o c1 c2 c3 c4 x=>hsf.extBut _ _ c1 (hsd _ _ c4 (hsc.extBut _ _ c2 (hsb.extBut _ _ c3 (hsa.extBut _ _ c1 x))))) ⟨oe,hsf.extBut _ _ hez hoe,hce⟩
theorem off4 {a b c d x:Addr}(h1:x≠a)(h2:x≠b)(h3:x≠c)(h4:x≠d):x∉ [a,b,c,d]:=fun q=>(List.mem_cons.mp q).elim h1 fun q=>(List.mem_cons.mp q).elim h2 fun q=>(List.mem_cons.mp q).elim h3 fun q=>h4 (List.mem_singleton.mp q)
theorem off4_keep {a b c d:Addr}{h h':Heap}(hk: ∀x o,x≠a→x≠b→x≠c→x≠d→h.get? x=some o→h'.get? x=some o)(x:Addr)(o:Obj)(n:x∉ [a,b,c,d])(e:h.get? x=some o):h'.get? x=some o:=
 hk x o (fun q=>n (q▸ .head _)) (fun q=>n (q▸ .tail _ (.head _))) (fun q=>n (q▸ .tail _ (.tail _ (.head _)))) (fun q=>n (q▸ .tail _ (.tail _ (.tail _ (.head _))))) e
structure ZAt (z TI TO i1 i2:Addr)(S1 S2:Nat→Heap→Prop)(i:Nat)(f:Value)(h:Heap):Prop where
 z:IsZip h z TI TO f
 ti:IsPair h TI (.ref i1) (.ref i2)
 to: ∃a b,IsPair h TO a b
 s1:S1 i h
 s2:S2 i h
theorem zip_walks (D1:Draws PW W.w A.in1 i1 f1 n1 P1 S1)(D2:Draws PW W.w A.in1 i2 f2 n2 P2 S2)(Z:ZApart z TI TO i1 i2 f1 f2)(m1:i1∈f1)(m2:i2∈f2):
  WalksU PW W.w A z (z::TI::TO::(f1++f2)) [z,TO,i1,i2] (min n1 n2) (fun i vals=> ∃x y,P1 i x∧P2 i y∧vals= #[x,y])
   (fun i h=>ZAt z TI TO i1 i2 S1 S2 i .none h) (fun i T h=>ZAt z TI TO i1 i2 S1 S2 (i+1) (rawInt T) h∧T∉ [z,TO,i1,i2]) where
 sub:=fun c hc=>(List.mem_cons.mp hc).elim (fun q=>q▸ .head _) fun hc=> .tail _ (.tail _ ((List.mem_cons.mp hc).elim (fun q=>q▸ .head _) fun hc=> .tail _ (mem_one hc (List.mem_append_left _ m1) (List.mem_append_right _ m2))))
 frame:=fun i h h' st hk=>⟨hk z (.head _) _ st.1,hk TI (.tail _ (.head _)) _ st.2,by obtain⟨a,b,hTO⟩:=st.3;exact⟨a,b,hk TO (.tail _ (.tail _ (.head _))) _ hTO⟩,
  D1.frame _ _ _ st.4 fun c hc o e=>hk c (.tail _ (.tail _ (.tail _ (List.mem_append_left _ hc)))) o e,D2.frame _ _ _ st.5 fun c hc o e=>hk c (.tail _ (.tail _ (.tail _ (List.mem_append_right _ hc)))) o e⟩
 item:=fun i s Q E hi ⟨hz,hTI,⟨a,b,hTO⟩,h1,h2⟩ hQ=>
  have hT:s.TypeIs (.ref z) "zip" :=⟨_,hz,rfl⟩
  wpAny_bind (wpAny_attempt (wpAny_callSpecial?_slot (name:=Str.ofString "__next__") hT F.slot_zip_next (wpAny_call_entry F.slot_zip_next hT F.entry_zip_next
   (zip_item D1 D2 Z hz hTI hTO h1 h2 (Nat.lt_of_lt_of_le hi (Nat.min_le_left ..)) (Nat.lt_of_lt_of_le hi (Nat.min_le_right ..)) fun x y h' tk T p1 p2 a1 a2 a3 a4 a5 hTn hk=>wpAny_pure
     (have lt: ∀{c:Addr},(∃o,s.heap.get? c=some o)→T≠c:=fun e q=>not_there hTn (q▸e)
     hQ T #[x,y] h' tk ⟨x,y,p1,p2,rfl⟩ ⟨_,a5,rfl,_,rfl⟩ ⟨⟨a1,hk _ _ Z.TIz Z.TITO Z.TIi1 Z.TIi2 hTI,⟨_,_,a2⟩,a3,a4⟩,off4 (lt ⟨_,hz⟩) (lt ⟨_,hTO⟩) (lt (D1.live _ _ h1)) (lt (D2.live _ _ h2))⟩ (off4_keep hk))) (F.args_zip_next_1 _))))
 go:=fun elts k pos i T s Q E ⟨⟨hz,hTI,⟨a,b,hTO⟩,h1,h2⟩,_⟩ hQ=>
  wpAny_letOwnedTupleGo_zip hz fun h' hz' hs'=>hQ h' ⟨hz',hs'.extBut _ _ Z.TIz hTI,⟨a,b,hs'.extBut _ _ Z.TOz hTO⟩,sb_frame D1.frame h1 hs' Z.z1,sb_frame D2.frame h2 hs' Z.z2⟩ fun c o hc e=>hs'.extBut _ _ (fun x=>hc (x▸ .head _)) e
 apart:=fun i T h hm=>hm.2
 done:=fun s Q E ⟨hz,hTI,⟨a,b,hTO⟩,h1,h2⟩ hQ=>
  have hT:s.TypeIs (.ref z) "zip" :=⟨_,hz,rfl⟩
  have hend:min n1 n2=n1∨(min n1 n2<n1∧min n1 n2=n2):=(Nat.lt_or_ge n2 n1).elim (fun h=>have e:=Nat.min_eq_right (Nat.le_of_lt h); .inr ⟨Nat.lt_of_le_of_lt (Nat.le_of_eq e) h,e⟩) fun h=> .inl (Nat.min_eq_left h)
  wpAny_bind (wpAny_attempt (wpAny_callSpecial?_slot (name:=Str.ofString "__next__") hT F.slot_zip_next
   (wpAny_call_entry F.slot_zip_next hT F.entry_zip_next (zipD_end D1 D2 Z hz hTI hTO h1 h2 hend fun h' tk e hk z0=>by obtain⟨o,ho,hc⟩:=z0;exact wpAny_bind (wpAny_isInstance (T:= "StopIteration") (b:=true) ⟨o,ho,hc⟩ isSubtype_stop (wpAny_pure (hQ _ _ (off4_keep hk))))) (F.args_zip_next_1 _))))
 self:=fun i s Q E hst hQ=>wpAny_pyIter_zip hst.1 hQ
end
end Mine
namespace Mine
open PySem PyProof.Rows
noncomputable def tupIterObj (l:Addr):Obj:={cls:= .type "tuple_iterator",data:= .fields #[.ref l,.int 0 0]}
noncomputable def pairObj (a b:Value):Obj:={cls:= .type "tuple",data:= .seq #[a,b]}
noncomputable def zq1 (h:Heap) (l1:Addr):Heap:=h.push (tupIterObj l1)
noncomputable def zq2 (h:Heap) (l1 l2:Addr):Heap:=(zq1 h l1).push (tupIterObj l2)
noncomputable def zq3 (h:Heap) (l1 l2:Addr):Heap:=(zq2 h l1 l2).push (pairObj (.ref h.objs.size) (.ref (zq1 h l1).objs.size))
noncomputable def zq4 (h:Heap) (l1 l2:Addr):Heap:=(zq3 h l1 l2).push (pairObj .none .none)
noncomputable def zq5 (h:Heap) (l1 l2:Addr):Heap:=(zq4 h l1 l2).push {cls:= .type "zip",data:= .fields #[.none,.bool false,.bool false,.ref (zq2 h l1 l2).objs.size,.ref (zq3 h l1 l2).objs.size]}
theorem meets_zip_tup (l1 l2:Addr)(xs ys:Array Value):
  Meets (Builtin.«zip.__new__» ⟨[.type "zip",.ref l1,.ref l2],[]⟩) (fun ω R s=>IsTup s.heap l1 xs∧IsTup s.heap l2 ys∧
   R (.ok (.ret (.ref (zq4 s.heap l1 l2).objs.size))) {s with heap:=zq5 s.heap l1 l2}):=
 .of_wp fun prog w A R s h=>by
   obtain⟨hp,g,d,tk,os⟩:=s;obtain⟨hl1,hl2,h⟩:=h
   have hsub:=sub_zip
   have hL1:IsTup (Shared.heap ⟨hp,g,d,tk,os⟩) l1 xs:=hl1
   have hL2:IsTup (Shared.heap ⟨hp.push {cls:= .type "tuple_iterator",data:= .fields #[.ref l1,.int 0 0]},g,d,tk,os⟩) l2 ys:=IsTup.keeps hl2 fun ω ω e=>Heap.get?_push_of_some _ e
   wp_walk using iter_tuple hL1,iter_tuple hL2
   exact⟨_,rfl,h⟩
section
variable {W:Wd}{A:Around}{E:Value→Shared→Prop}{s:Shared}
theorem call_zip_tup {l1 l2:Addr}{xs ys:Array Value}{Q:Value→Shared→Prop}(hl1:IsTup s.heap l1 xs)(hl2:IsTup s.heap l2 ys)
  (h: ∀h',IsZip h' (s.heap.objs.size+4) (s.heap.objs.size+2) (s.heap.objs.size+3) .none→IsPair h' (s.heap.objs.size+2) (.ref s.heap.objs.size) (.ref (s.heap.objs.size+1))→
    IsPair h' (s.heap.objs.size+3) .none .none→IsTupIter h' s.heap.objs.size l1 0→IsTupIter h' (s.heap.objs.size+1) l2 0→h'.objs.size=s.heap.objs.size+5→
    (∀c o,s.heap.get? c=some o→h'.get? c=some o)→Q (.ref (s.heap.objs.size+4)) {s with heap:=h'}):
  wpAny (MD W) A (call (.type "zip") [.ref l1,.ref l2]) Q E s:=by
 refine callType_new F.called_zip (by decide) (F.typeCall_zip_2 _ _) (F.newCall_zip_2 _ _) (fun obj=>F.args_object_init_3 obj _ _) F.entry_zip_new
  (meets_zip_tup l1 l2 xs ys) ⟨hl1,hl2,?_⟩
 have z1:(zq1 s.heap l1).objs.size=s.heap.objs.size+1:=Heap.size_push ..
 have z2:(zq2 s.heap l1 l2).objs.size=s.heap.objs.size+2:=by unfold zq2;rw[Heap.size_push,z1]
 have z3:(zq3 s.heap l1 l2).objs.size=s.heap.objs.size+3:=by unfold zq3;rw[Heap.size_push,z2]
 have z4:(zq4 s.heap l1 l2).objs.size=s.heap.objs.size+4:=by unfold zq4;rw[Heap.size_push,z3]
 have z5:(zq5 s.heap l1 l2).objs.size=s.heap.objs.size+5:=by unfold zq5;rw[Heap.size_push,z4]
 have g5:IsZip (zq5 s.heap l1 l2) (zq4 s.heap l1 l2).objs.size (zq2 s.heap l1 l2).objs.size (zq3 s.heap l1 l2).objs.size .none:=Heap.get?_push_size _ rfl
 have g4:IsPair (zq5 s.heap l1 l2) (zq3 s.heap l1 l2).objs.size .none .none:=Heap.get?_push_of_some _ (Heap.get?_push_size _ rfl)
 have g3:IsPair (zq5 s.heap l1 l2) (zq2 s.heap l1 l2).objs.size (.ref s.heap.objs.size) (.ref (zq1 s.heap l1).objs.size):=Heap.get?_push_of_some _ (Heap.get?_push_of_some _ (Heap.get?_push_size _ rfl))
 have g2:(zq5 s.heap l1 l2).get? (zq1 s.heap l1).objs.size=some (tupIterObj l2):=Heap.get?_push_of_some _ (Heap.get?_push_of_some _ (Heap.get?_push_of_some _ (Heap.get?_push_size _ rfl)))
 have g1:(zq5 s.heap l1 l2).get? s.heap.objs.size=some (tupIterObj l1):=Heap.get?_push_of_some _ (Heap.get?_push_of_some _ (Heap.get?_push_of_some _ (Heap.get?_push_of_some _ (Heap.get?_push_size _ rfl))))
 show _∧_
 rw[z2,z3,z4] at g5
 rw[z1,z2] at g3
 rw[z3] at g4
 rw[z1] at g2
 rw[z4]
 exact⟨⟨_,g5,rfl⟩,h _ g5 g3 g4 ⟨_,g1,rfl,rfl⟩ ⟨_,g2,rfl,rfl⟩ z5 fun c o x=>
  Heap.get?_push_of_some _ (Heap.get?_push_of_some _ (Heap.get?_push_of_some _ (Heap.get?_push_of_some _ (Heap.get?_push_of_some _ x))))⟩
end
theorem ne_off {n j k:Nat}(h:j≠k):n+j≠n+k:=fun q=>h (Nat.add_left_cancel q)
theorem gt_off {n l k:Nat}(h:l<n):n+k≠l:=Nat.ne_of_gt (Nat.lt_of_lt_of_le h (Nat.le_add_right ..))
theorem off_two {a b c:Nat}(h1:c≠a)(h2:c≠b):c∉ [a,b]:=fun q=>(List.mem_cons.mp q).elim h1 fun q=>h2 (List.mem_singleton.mp q)
theorem zap {n l1 l2:Nat}(h1:l1<n)(h2:l2<n):ZApart (n+4) (n+2) (n+3) n (n+1) [n,l1] [n+1,l2] where
 TIz:=ne_off nofun
 TOz:=ne_off nofun
 i1z:=ne_off (j:=0) nofun
 i2z:=ne_off nofun
 TITO:=ne_off nofun
 TIi1:=ne_off (k:=0) nofun
 TIi2:=ne_off nofun
 TOi1:=ne_off (k:=0) nofun
 TOi2:=ne_off nofun
 z1:=off_two (ne_off (k:=0) nofun) (gt_off h1)
 z2:=off_two (ne_off nofun) (gt_off h2)
 o1:=off_two (ne_off (k:=0) nofun) (gt_off h1)
 o2:=off_two (ne_off nofun) (gt_off h2)
 i21:=off_two (ne_off (k:=0) nofun) (gt_off h1)
 i12:=off_two (ne_off (j:=0) nofun) (gt_off (k:=0) h2)
section
variable {W:Wd}{s s':Shared}{A:Around}{env:Env}
theorem Inv.nolim (i:Inv W s):s.heap.NoLimit:=by obtain⟨m,a,b⟩:=W.nolim;exact⟨m,ns_kept a i.grow.kept,b⟩
structure GenCode (W:Wd)(s s':Shared):Prop where
 t:Stp W s s'
 g:s'.gens=s.gens
theorem gen_code (i:Inv W s)(hc:env.code= .ref W.cac){pos:Pos}{q:Str}{scope:Scope}:wpAny (MD W) A (genexprCode env pos q scope) (fun ω s'=>GenCode W s s') No s:=by
 obtain⟨ps,h1,h2⟩:=i.tab
 refine wpAny_with_toks (Nat.le_refl _) ?_
 cases hf:codeAmong pos ps.toList with
 |some c'=>exact wpAny_genexprCode_hit hc h1 hf fun ω=>⟨.refl _,rfl⟩
 |none=>
  exact wpAny_genexprCodeX hc h1 h2 hf fun c' h' tk hx ω ω g1 ω g2 ω htk=>⟨⟨fun b o e=>if hb:b=W.Pac then .inr (by
   subst hb
   rw[h2.2] at e;cases e
   exact⟨rfl,ps,_,rfl,g2.2⟩) else .inl (hx b o hb e),fun ω=>⟨_,g1,g2⟩,rfl,id,htk⟩,rfl⟩
end
end Mine
namespace Mine
open PySem PyProof.Rows
inductive GQ:Expr→List Comprehension→GenQ→Prop
 |mk {i j z:Str} {a b:Expr} {ip jp ip' jp' bp zp zpos tp:Pos} {kt:Nat} (h:i≠j∧i≠dbgN∧j≠dbgN):
  GQ (.BinOp (.Name i ip') .Add (.Name j jp') bp) [⟨.Tuple [.Name i ip,.Name j jp] kt tp,.Call (.Name z zp) [a,b] [] zpos,[],0⟩] ⟨i,j,z,a,b⟩
theorem genG_inv {t:Expr}{v:View t}{q:Str×Str}(h:genG v=some q): ∃ip jp kt tp,t= .Tuple [.Name q.1 ip,.Name q.2 jp] kt tp:=by
 cases v with
 |tuple ts kt tp=>
  exact ob h fun p h1 h=>ob h fun i h2 h=>om h fun j h3 h=>by
   cases h
   cases two_inv h1
   obtain⟨p1,e1⟩:=nameOf_inv h2
   obtain⟨p2,e2⟩:=nameOf_inv h3
   rw[e1,e2]
   exact⟨p1,p2,kt,tp,rfl⟩
 |_=>first|exact nf h|exact ns h|cases h
theorem genI_inv {t:Expr}{v:View t}{q:Str×Expr×Expr}(h:genI v=some q): ∃zp p,t= .Call (.Name q.1 zp) [q.2.1,q.2.2] [] p:=by
 cases v with
 |call f as kw p=>cases kw with
  |cons=>first|exact nf h|exact ns h|cases h
  |nil=>
   exact ob h fun z h1 h=>om h fun e h2 h=>by
    cases h
    cases two_inv h2
    obtain⟨p1,e1⟩:=nameOf_inv h1
    rw[e1]
    exact⟨p1,p,rfl⟩
 |_=>first|exact nf h|exact ns h|cases h
theorem genB_inv {i j:Str}{it:Str×Expr×Expr}{t:Expr}{v:View t}{g:GenQ}(h:genB i j it v=some g):(i≠j∧i≠dbgN∧j≠dbgN)∧(∃ip jp bp,t= .BinOp (.Name i ip) .Add (.Name j jp) bp)∧g=⟨i,j,it.1,it.2.1,it.2.2⟩:=by
 cases v with
 |bin l op r p=>cases op with
  |Add=>
   exact ob h fun i' h1 h=>ob h fun j' h2 h=>oi h fun hc h=>by
    cases h
    obtain⟨p1,e1⟩:=nameOf_inv h1
    obtain⟨p2,e2⟩:=nameOf_inv h2
    rw[e1,e2,hc.1,hc.2.1]
    exact⟨hc.2.2,⟨p1,p2,p,rfl⟩,rfl⟩
  |_=>first|exact nf h|exact ns h|cases h
 |_=>first|exact nf h|exact ns h|cases h
theorem genQ_inv {e:Expr}{gs:List Comprehension}{g:GenQ}(h:genQ e gs=some g):GQ e gs g:=by
 cases gs with
 |nil=>first|exact nf h|exact ns h|cases h
 |cons c r=>cases r with
  |cons=>first|exact nf h|exact ns h|cases h
  |nil=>
   obtain⟨t,it,is,as⟩:=c
   refine ob h fun q h1 h=>ob h fun p h2 h=>oi h fun hc h=> ?_
   obtain⟨p1,p2,p3,p4,e1⟩:=genG_inv h1
   obtain⟨p5,p6,e2⟩:=genI_inv h2
   obtain⟨hn,⟨p7,p8,p9,e3⟩,e4⟩:=genB_inv h
   have e1:t=_:=e1
   have e2:it=_:=e2
   have hc:noIfs is=true∧as=0:=hc
   subst e1 e2 e3 e4
   cases hc.2
   cases is with
   |cons=>exact nomatch hc.1
   |nil=>exact .mk hn
structure IntsAre (X:Array Value)(us:List Int):Prop where
 n:X.size=us.length
 at_: ∀(i:Nat) v,X[i]?=some v→ ∃u t,us[i]?=some u∧v= .int u t
theorem passing_all (n:Nat):passing (fun ω=>true) n 0=List.range n:=List.filter_eq_self.mpr fun ω ω=>rfl
noncomputable def SumAt (us vs:List Int) (i:Nat) (y:Value):Prop:= ∃u x t,us[i]?=some u∧vs[i]?=some x∧y= .int (u+x) t
noncomputable def tupS (n l:Addr) (X:Array Value) (i:Nat) (h:Heap):Prop:=IsTupIter h n l i∧IsTup h l X
section
variable {W:Wd}{s s':Shared}{A:Around}{h h':Heap}{μ:Addr→Prop}{n l1 l2:Addr}{X Y:Array Value}{us vs:List Int}
theorem ints_are {vs:List Value}{ds:List D}(r:RepL W h μ vs ds)(e:intsOf ds=some us):IntsAre vs.toArray us:=by
 obtain⟨xs,rfl,rfl⟩:=ints_of r e
 exact⟨by rw[Array.toArray_toList,List.length_map];exact Array.size_map,fun i v hv=>by
  rw[Array.toArray_toList] at hv
  have hv:=(Array.getElem?_map (f:=fun x:Int×Tok=>Value.int x.1 x.2)).symm.trans hv
  obtain⟨p,hp,e⟩:=Option.map_eq_some_iff.mp hv
  exact⟨p.1,p.2,by rw[List.getElem?_map,Array.getElem?_toList,hp];rfl,e.symm⟩⟩
theorem sums_rep {acc:Array Value}(h1:IntsAre X us)(h2:IntsAre Y vs)(g:ItemsOf (fun j y=> ∃i,(passing (fun ω=>true) (min X.size Y.size) 0)[j]?=some i∧SumAt us vs i y) acc (passing (fun ω=>true) (min X.size Y.size) 0).length):
  RepL W h μ acc.toList ((us.zip vs).map fun(u,v)=> .int (u+v)):=by
 obtain⟨g1,g2⟩:=g
 rw[passing_all] at g1 g2
 refine⟨by rw[Array.length_toList,g1,List.length_range,List.length_map,List.length_zip,h1.n,h2.n],fun i v d hv hd=> ?_⟩
 obtain⟨j,q1,u,x,t,q2,q3,rfl⟩:=g2 i v (Array.getElem?_toList▸hv)
 obtain⟨p,hp,rfl⟩:=Option.map_eq_some_iff.mp (List.getElem?_map▸hd)
 have e:j=i:=by
  have hl:=(List.getElem?_eq_some_iff.mp q1)
  obtain⟨a,b⟩:=hl
  rw[List.getElem_range] at b
  exact b.symm
 subst e
 have z:=List.getElem?_zip_eq_some.mp hp
 cases q2.symm.trans z.1
 cases q3.symm.trans z.2
 exact .int _ _
noncomputable abbrev ZT (n l1 l2:Addr) (X Y:Array Value) (i:Nat) (f:Value) (h:Heap):Prop:=ZAt (n+4) (n+2) (n+3) n (n+1) (tupS n l1 X) (tupS (n+1) l2 Y) i f h
noncomputable abbrev zFp (n l1 l2:Addr):List Addr:=(n+4)::(n+2)::(n+3)::([n,l1]++[n+1,l2])
theorem zip_ints (h1:l1<n)(h2:l2<n)(hA:A.handled=none):WalksU PW W.w A (n+4) (zFp n l1 l2) [n+4,n+3,n,n+1] (min X.size Y.size) (fun i vals=> ∃x y,X[i]?=some x∧Y[i]?=some y∧vals= #[x,y])
  (fun i h=>ZT n l1 l2 X Y i .none h) (fun i T h=>ZT n l1 l2 X Y (i+1) (rawInt T) h∧T∉ [n+4,n+3,n,n+1]):=
 zip_walks (draws_tuple (A:=A.in1) hA n l1 (Nat.ne_of_lt h1) X) (draws_tuple (A:=A.in1) hA (n+1) l2 (Nat.ne_of_lt (Nat.lt_succ_of_lt h2)) Y) (zap h1 h2) (.head _) (.head _)
theorem zt_kept {i:Nat}(z:ZT n l1 l2 X Y i .none h)(k:Kept h h'):ZT n l1 l2 X Y i .none h':=
 have up: ∀{b o},o.cls≠ .none→h.get? b=some o→h'.get? b=some o:=fun q e=>k _ _ e (soft_cls q)
 have ti: ∀{b l i},IsTupIter h b l i→IsTupIter h' b l i:=fun z0=>by obtain⟨o,ho,hc,r⟩:=z0;exact⟨o,up (hc▸fun q=>nomatch q) ho,hc,r⟩
 ⟨up (fun q=>nomatch q) z.1,up (fun q=>nomatch q) z.2,let ⟨a,b,e⟩:=z.3;⟨a,b,up (fun q=>nomatch q) e⟩,⟨ti z.4.1,tup_kept z.4.2 k⟩,⟨ti z.5.1,tup_kept z.5.2 k⟩⟩
theorem zt_lt {i:Nat}(z:ZT n l1 l2 X Y i .none h)(b:Addr)(hb:b∈zFp n l1 l2):b<h.objs.size:=
 have two: ∀{n l:Addr} {X:Array Value} {b:Addr},tupS n l X i h→b∈ [n,l]→b<h.objs.size:=fun z1 q=>by obtain⟨⟨_,e,_⟩,⟨_,e',_⟩⟩:=z1;exact(List.mem_cons.mp q).elim (fun q=>q▸Heap.lt_size e) fun q=>List.mem_singleton.mp q▸Heap.lt_size e'
 (List.mem_cons.mp hb).elim (fun q=>q▸Heap.lt_size z.1) fun hb=>(List.mem_cons.mp hb).elim (fun q=>q▸Heap.lt_size z.2) fun hb=>(List.mem_cons.mp hb).elim (fun q=>by obtain⟨_,_,e⟩:=z.3;exact q▸Heap.lt_size e) fun hb=>
   (List.mem_append.mp hb).elim (two z.4) (two z.5)
inductive ZGot (W:Wd) (s:Shared) (us vs:List Int):Value→Shared→Prop
 |mk {n l1 l2:Addr} {X Y:Array Value} {s':Shared} (t:Stp W s s') (hn: ∀q o,s.heap.get? q=some o→q<n) (h1:l1<n) (h2:l2<n) (e1:IntsAre X us) (e2:IntsAre Y vs) (z:ZT n l1 l2 X Y 0 .none s'.heap):ZGot W s us vs (.ref (n+4)) s'
end
section
variable {W:Wd}{s s':Shared}{A:Around}{k:Nat}{self:Ev}{C:Cfg}{nm:Names}{env:Env}{μ:Addr→Prop}{ρ:Rho}
theorem zip_made (S:EvS W k self)(P:Plain self)(G:GlobOk W C){z:Str}{a b:Expr}{xs ys:List D}{us vs:List Int}{zp zpos:Pos}(hz:nameD C nm ρ z=some (.ty "zip"))(ha:self nm ρ a=some (.tup xs))(hb:self nm ρ b=some (.tup ys))
  (hus:intsOf xs=some us) (hvs:intsOf ys=some vs) (c:Cxt W nm env μ ρ A k s):
  wpAny (MD W) A (eval (.Call (.Name z zp) [a,b] [] zpos) env) (fun v s₁=>wpAny (MD W) A (pyIter v) (ZGot W s us vs) No s₁) No s:=by
 have hm:mapO (self nm ρ) [a,b]=some [.tup xs,.tup ys]:=by
  show(self nm ρ a).bind _=_
  rw[ha]
  show((self nm ρ b).bind _).map _=_
  rw[hb];rfl
 have st:=star_eq (env:=env) P hm
 rw[eval_call rfl]
 exact wpAny_bind (wpAny_mono (s_name G hz c) (fun v s₁ x=>x.2.ty_elim (PySem.callWith_type (st.any _) (args_of st (wpAny_mono (s_items S P hm (c.step x.1)) (fun vals s₂ y=>y.2.two_elim fun va vb ra rb=>
  ra.tup_elim fun l1 w1 ω g1 r1=>rb.tup_elim fun l2 w2 ω g2 r2=>call_zip_tup g1 g2 fun h₃ z3 z1 z2 i1 i2 ω hk=>wpAny_pyIter_zip z3
    (have t:=x.1.trans y.1
    .mk (t.trans (.keep (t:=s₂.toks) hk)) (fun q o e=>by obtain⟨_,e⟩:=t.there ⟨o,e⟩;exact Heap.lt_size e) (by obtain⟨_,e,_⟩:=g1;exact Heap.lt_size e) (by obtain⟨_,e,_⟩:=g2;exact Heap.lt_size e)
      (ints_are r1 hus) (ints_are r2 hvs) ⟨z3,z1,⟨_,_,z2⟩,⟨i1,IsTup.keeps g1 hk⟩,⟨i2,IsTup.keeps g2 hk⟩⟩)) no)))) no)
theorem sum_quiet {cenv:Env}{sc:Scope}{i j:Str}{ip jp bp:Pos}{X Y:Array Value}{us vs:List Int}{fp wr:List Addr}{hr:Heap}(hc:cenv.scope=sc)(hk:sc.kind= .function)(hi:sc.names.lookup i=some .local)(hj:sc.names.lookup j=some .local)
  (hd:i≠j∧i≠dbgN∧j≠dbgN) (h1:IntsAre X us) (h2:IntsAre Y vs):
  QuietGenT PW W.w cenv i j [] (.BinOp (.Name i ip) .Add (.Name j jp) bp) fp wr (fun i vals=> ∃x y,X[i]?=some x∧Y[i]?=some y∧vals= #[x,y]) (fun ω=>true) (SumAt us vs) hr where
 tests:=fun A' E' i0 va vb s2 m2 ω ω ω ω ω ω=>wpAny_pure ⟨rfl,s2.heap,s2.toks,rfl,fun ω ω e=>e⟩
 elt:=fun A' E' i0 va vb s2 m2 hA ⟨x,y,p1,p2,q⟩ ω hn ma mb ω=>by
  have q:=List.cons.inj (congrArg Array.toList q)
  obtain⟨u,t,hu,e1⟩:=h1.at_ _ _ p1
  obtain⟨v,t',hv,e2⟩:=h2.at_ _ _ p2
  have q1:=q.1.trans e1
  have q2:=((List.cons.inj q.2).1).trans e2
  subst q1 q2 hc
  exact wpAny_BinOp (wpAny_Name (wpAny_loadName_local hk hi hn ma (wpAny_Name (wpAny_loadName_local hk hj hn mb (add_int ⟨⟨u,v,_,hu,hv,rfl⟩,s2.heap,_,rfl,fun ω ω e=>e⟩)) (dbg_of hd.2.2))) (dbg_of hd.2.1))
theorem gen_scope {sc:Scope}{i j:Str}(h:okGenScope sc i j=true):(sc.kind= .function∧sc.isCoroutine=false)∧(∀y∈sc.names,y.2≠ .cell∧y.2≠ .free)∧sc.names.lookup (Str.ofString ".0")=some .local∧sc.names.lookup i=some .local∧sc.names.lookup j=some .local:=by
 unfold okGenScope at h
 have h:=Bool.and_eq_true_iff.mp h
 have h':=Bool.and_eq_true_iff.mp h.1
 have h'':=Bool.and_eq_true_iff.mp h'.1
 have h3:=Bool.and_eq_true_iff.mp h''.1
 exact⟨⟨of_decide_eq_true (Bool.and_eq_true_iff.mp h3.1).1,Bool.not_eq_true' _▸(Bool.and_eq_true_iff.mp h3.1).2⟩,fun y hy=>have q:=Bool.and_eq_true_iff.mp (List.all_eq_true.mp h3.2 y hy);⟨bne_iff_ne.mp q.1,bne_iff_ne.mp q.2⟩,
  of_decide_eq_true h''.2,of_decide_eq_true h'.2,of_decide_eq_true h.2⟩
theorem new_places {s:Shared}{n:Addr}(hn: ∀q o,s.heap.get? q=some o→q<n)(q:Addr)(hq:q∈ [n+4,n+3,n,n+1]):s.heap.get? q=none:=by
 have h0:n≤q:=(List.mem_cons.mp hq).elim (fun q=>q▸Nat.le_add_right ..) fun hq=>(List.mem_cons.mp hq).elim (fun q=>q▸Nat.le_add_right ..) fun hq=>(List.mem_cons.mp hq).elim (fun q=>q▸Nat.le_refl _) fun hq=>List.mem_singleton.mp hq▸Nat.le_add_right ..
 cases e:s.heap.get? q with
 |none=>rfl
 |some o=>exact absurd (hn q o e) (Nat.not_lt.mpr h0)
theorem gen_end {s s₄ s₆:Shared}{wr:List Addr}{acc:Array Value}{gs:GenState}{h₅:Heap}{tk g:Nat}{us vs:List Int}{X Y:Array Value}(h1:IntsAre X us)(h2:IntsAre Y vs)(m:MuOk W μ s.heap)(t:Stp W s s₄)(hn: ∀q∈wr,s.heap.get? q=none)
  (hb:gs.bare=true) (hk: ∀b o,s₄.heap.get? b=some o→h₅.get? b=some o) (htk:s.toks≤tk) (hm:PySem.Moved (s₄.heap.objs.size::wr) (GenOnlyQ g) {s₄ with gens:=s₄.gens.push gs,toks:=tk,heap:=h₅} s₆)
  (ha:ItemsOf (fun j y=> ∃i,(passing (fun ω=>true) (min X.size Y.size) 0)[j]?=some i∧SumAt us vs i y) acc (passing (fun ω=>true) (min X.size Y.size) 0).length):
  Post W μ s (.tup ((us.zip vs).map fun(u,v)=> .int (u+v))) (.ref s₆.heap.objs.size) {s₆ with heap:=s₆.heap.push {cls:= .type "tuple",data:= .seq acc}}:=by
 have old: ∀q o,s₄.heap.get? q=some o→(∃o',s.heap.get? q=some o')→s₆.heap.get? q=some o:=fun q o e ⟨o',e'⟩=>
  hm.heap q o (fun hq=>(List.mem_cons.mp hq).elim (fun hq=>absurd (Heap.lt_size e) (hq▸Nat.lt_irrefl _)) fun hq=>nomatch (hn q hq).symm.trans e') (hk q o e)
 have t6:Stp W s s₆:=⟨fun q o e=>(t.grow q o e).elim (fun y=> .inl (old q o y ⟨_,e⟩)) fun z2=>by obtain⟨y,ps,more,z1,z2⟩:=z2;exact .inr ⟨y,ps,more,z1,old q _ z2 ⟨_,e⟩⟩,
  fun q=>(t.tab q).at2 fun q' o e hb=>old q' o e (hb.elim (fun z=>z▸q.there.1) fun z=>z▸q.there.2),hm.os.trans t.os,fun q=>AllBare.moved ((t.bare q).push hb) hm.gens,Nat.le_trans htk hm.toks⟩
 exact⟨t6.trans (.push _ _),.tup ((m.step t6.grow).fresh (Nat.le_refl _)) (vs:=acc.toList) ⟨_,Heap.get?_push_size _ rfl,rfl,_,rfl⟩ (sums_rep h1 h2 ha)⟩
theorem s_genTuple (S:EvS W k self)(P:Plain self)(G:GlobOk W C){f e:Expr}{gs:List Comprehension}{sc:Scope}{gp p:Pos}{d:D}(hf:isAttr f=false)(h1:self nm ρ f=some (.ty "tuple"))(h2:genT (mkV C self nm ρ) nm e gs sc=some d)
  (c:Cxt W nm env μ ρ A k s):EvOk W env μ A (.Call f [.GeneratorExp e gs sc gp] [] p) d s:=
 ob h2 fun g hg h2=>oi h2 fun hc h2=>ob h2 fun zd hz h2=>ob h2 fun zn hzn h2=>oi h2 fun hzz h2=>ob h2 fun xd ha h2=>ob h2 fun xs hx h2=>ob h2 fun yd hb h2=>ob h2 fun ys hy h2=>ob h2 fun us hus h2=>ob h2 fun vs hvs h2=>oi h2 fun hlen h2=>os h2 fun h2=>by
  subst h2
  cases asTy_inv hzn
  subst hzz
  cases asTup_inv hx
  cases asTup_inv hy
  cases genQ_inv hg with
  |mk hij=>
  have⟨⟨hkind,hco⟩,hall,h0,hi,hj⟩:=gen_scope hc.2
  refine s_call S hf h1 c fun fv s₁ t1 r1=>r1.ty_elim (PySem.callWith_type rfl (args_of (as:=[.GeneratorExp _ _ sc gp]) rfl ?_))
  have c1:=c.step t1
  refine wpAny_items_cons (wpAny_with_toks (n:=s₁.toks) (Nat.le_refl _) ?_)
  refine wpAny_GeneratorExp_walksQT c.room.handled hco (closureFor_none fun y hy=>(hall y hy).2) (fun y hy=>(hall y hy).1) h0 hi hj hij.1 hkind (Nat.lt_of_le_of_lt (Nat.le_trans (Nat.le_add_right ..) (Nat.le_add_right ..)) c.room.depth) ?_ (fun x=>rfl)
  refine wpAny_mono (zip_made S P G hz ha hb hus hvs c1) (fun xv s₂ y=>wpAny_mono y (fun it s₃ z=> ?_) no) no
  cases z with
  |mk t3 hn hl1 hl2 e1 e2 z3=>
  rename_i n l1 l2 X Y
  have c3:=c1.step t3
  refine⟨c3.inv.nolim,wpAny_mono (gen_code c3.inv (c.code hc.1)) (fun code s₄ y=> ?_) no⟩
  have t4:=t3.trans y.t
  have c4:=c1.step t4
  obtain⟨bm,ob,b1,b2,b3,b4,b5,b6⟩:=W.bm
  refine wpAny_builtinsFor (c.ok.glob▸ns_kept W.g c4.inv.grow.kept) b1 b2 (c4.inv.grow.kept bm ob b3 (soft_cls (b4▸fun q=>nomatch q))) b4 b5 b6 ?_
  have z4:=zt_kept z3 y.t.kept
  have wn:=new_places hn
  refine⟨n+4,_,_,_,_,_,_,fun ω=>true,SumAt us vs,rfl,fun A' hA=>zip_ints hl1 hl2 hA,fun i vals z3=>by obtain⟨x,y,_,_,q⟩:=z3;exact⟨x,y,q⟩,z4,zt_lt z4,c4.inv.nolim,fun hq=> ?_,fun hr ω=>sum_quiet rfl hkind hi hj hij e1 e2,fun ga h₅ tk gst hbare hlt hsz5 hk5 Wk hgen=> ?_⟩
  ·obtain⟨m,⟨o,_,_,ho,_⟩,_⟩:=c1.inv.nolim
   exact nomatch (wn _ hq).symm.trans ho
  ·refine fun htk=>wpAny_items_nil (call_tuple_gen (hsz:= ?_) Wk.in4_3 (fun ω ω q=>q.1.typeIs) hgen (fun q hq=> ?_) (.head _) fun s₆ acc hm ha=> .after t1 (gen_end e1 e2 c1.mu t4 wn hbare hk5 htk hm ha))
   ·show q<h₅.objs.size
    rw[hsz5]
    exact(List.mem_cons.mp hq).elim (fun e=>e▸Nat.lt_succ_self _) fun hq=>Nat.lt_succ_of_lt ((List.mem_cons.mp hq).elim (fun e=>e▸hlt) fun hq=>Nat.lt_trans (List.mem_range.mp hq) hlt)
   ·rw[passing_all,List.length_range]
    exact Nat.le_trans (Nat.min_le_left ..) (e1.n▸Nat.le_trans hlen lim_le)
end
end Mine
namespace Mine
open PySem PyProof.Rows
section
variable {W:Wd}{s:Shared}{A:Around}{k:Nat}{self:Ev}{C:Cfg}{nm:Names}{env:Env}{μ:Addr→Prop}{ρ:Rho}{d:D}{p ap:Pos}{f o:Expr}{as:List Expr}{m:Str}
theorem step_methE (S:EvS W k self)(P:Plain self)(K:CfgOk W C k)(hb:baseOk o=true∧ap.endLine=p.line∧as.length<29){e:D}(h1:self nm ρ o=some e)(h:methE C (self nm ρ) nm m as e=some d)(c:Cxt W nm env μ ρ A k s):
  EvOk W env μ A (.Call (.Attribute o m ap) as [] p) d s:=by
 cases e with
 |str x=>
  have h:(if m= "replace" then _ else _)=some d:=h
  by_cases hm:m= "replace"
  ·rw[if_pos hm] at h
   exact hm▸s_replace S hb h1 h c
  ·rw[if_neg hm] at h
   exact s_methS S P hb h1 h c
 |dict kvs=>
  have h:(if m= "get" then _ else _)=some d:=h
  by_cases hm:m= "get"
  ·rw[if_pos hm] at h
   exact hm▸s_get S P hb h1 h c
  ·rw[if_neg hm] at h
   cases h
 |obj a=>exact s_ometh S K P hb h1 h c
 |inst cl fs=>exact s_meth S K P hb h1 h c
 |_=>first|exact nf h|exact ns h|cases h
theorem step_meth (S:EvS W k self)(P:Plain self)(K:CfgOk W C k)(h:callV C (mkV C self nm ρ) nm as p (.Attribute o m ap) (.attr o m ap)=some d)(c:Cxt W nm env μ ρ A k s):
  EvOk W env μ A (.Call (.Attribute o m ap) as [] p) d s:=
 oi h fun hb h=>ob h fun ω h1 h2=>step_methE S P K hb h1 h2 c
theorem step_tyV (S:EvS W k self)(P:Plain self)(G:GlobOk W C){n:String}{a:Expr}(hf:isAttr f=false)(h1:self nm ρ f=some (.ty n)){w:View a}(h:tyV (mkV C self nm ρ) nm n [a] w=some d)(c:Cxt W nm env μ ρ A k s):
  EvOk W env μ A (.Call f [a] [] p) d s:=by
 cases w with
 |name x q=>exact s_ty S hf h1 (.name h) c
 |gen e gs sc q=>exact oi h fun hn h=>s_genTuple S P G hf (hn▸h1) h c
 |call g bs kw q=>
  have h:itemsT _ n [.Call g bs kw q] bs kw q (view g)=some d:=h
  have all: ∀{g},(mapO (self nm ρ) [.Call g bs kw q]).bind (tyD n)=some d→EvOk W env μ A (.Call f [.Call g bs kw q] [] p) d s:=fun h=>s_ty S hf h1 (.all S P h) c
  generalize view g=w at h
  cases w with
  |attr o m mp=>
   have h:(if n= "list" ∧m= "items" then _ else _)=some d:=h
   by_cases hc:n= "list" ∧m= "items"
   ·rw[if_pos hc] at h
    cases bs with
    |cons=>first|exact nf h|exact ns h|cases h
    |nil=>cases kw with
     |cons=>first|exact nf h|exact ns h|cases h
     |nil=>
      cases hc.1
      cases hc.2
      exact s_listItems S hf h1 h c
   ·rw[if_neg hc] at h
    exact all h
  |_=>exact all h
 |_=>exact s_ty S hf h1 (.all S P h) c
theorem step_ty (S:EvS W k self)(P:Plain self)(G:GlobOk W C){n:String}(hf:isAttr f=false)(h1:self nm ρ f=some (.ty n))(h:tyE (mkV C self nm ρ) nm n as=some d)(c:Cxt W nm env μ ρ A k s):
  EvOk W env μ A (.Call f as [] p) d s:=by
 cases as with
 |nil=>first|exact nf h|exact ns h|cases h
 |cons a r=>cases r with
  |nil=>exact step_tyV S P G hf h1 h c
  |cons=>exact s_ty S hf h1 (.all S P h) c
theorem step_fun (S:EvS W k self)(P:Plain self)(K:CfgOk W C k){e:D}(hf:isAttr f=false)(h1:self nm ρ f=some e)(h:funE C (mkV C self nm ρ) nm as e=some d)(c:Cxt W nm env μ ρ A k s):
  EvOk W env μ A (.Call f as [] p) d s:=by
 cases e with
 |bi n=>exact s_bi S hf h1 (.arg S P h) c
 |ty n=>exact step_ty S P K.glob hf h1 h c
 |obj a=>exact s_callObj S K P hf h1 h c
 |_=>first|exact nf h|exact ns h|cases h
theorem step_call (S:EvS W k self)(P:Plain self)(K:CfgOk W C k)(h:callV C (mkV C self nm ρ) nm as p f (view f)=some d)(c:Cxt W nm env μ ρ A k s):
  EvOk W env μ A (.Call f as [] p) d s:=by
 generalize view f=w at h
 cases w with
 |attr o m ap=>exact step_meth S P K h c
 |_=>exact oi h fun hf h=>ob h fun ω h1 h2=>step_fun S P K hf h1 h2 c
theorem ev_step (S:EvS W k self)(P:Plain self)(K:CfgOk W C k):EvS W k (evStep C self):=fun nm ρ e d h env μ A s c=>by
 cases e with
 |Constant=>exact s_const h
 |Name=>exact s_name K.glob h c
 |BinOp=>exact ob h fun a h1 h=>ob h fun b h2 h3=>s_bin S h1 h2 h3 c
 |UnaryOp=>exact ob h fun a h1 h2=>s_neg S h1 h2 c
 |IfExp=>exact s_ifexp S h c
 |BoolOp=>exact s_and S h c
 |Tuple=>exact s_tuple S P h c
 |List=>exact s_list S P h c
 |Dict=>exact s_dict S h c
 |Compare=>exact s_compare S P h c
 |ListComp=>exact s_listcomp S P K.glob c h
 |DictComp=>exact s_dictcomp S P K.glob c h
 |Attribute=>exact s_attr S K h c
 |Subscript=>exact s_sub S h c
 |Call f as ks=>cases ks with
  |nil=>exact step_call S P K h c
  |cons=>first|exact nf h|exact ns h|cases h
 |_=>first|exact nf h|exact ns h|cases h
theorem ev_plain: ∀n:Nat,Plain (ev C n)
 |0=>⟨fun ω ω ω ω ω=>rfl,fun ω ω ω ω=>rfl⟩
 |_+1=>⟨fun ω ω ω ω ω=>rfl,fun ω ω ω ω=>rfl⟩
theorem ev_sound (K:CfgOk W C k): ∀n,EvS W k (ev C n)
 |0=>fun nm ρ e d h=>nomatch h
 |n+1=>ev_step (ev_sound K n) (ev_plain n) K
end
end Mine
namespace Mine
open PySem PyProof.Rows
noncomputable def Wr (env:Env) (nm:Names) (F:Str→List Addr) (a:Addr):Prop:=OwnP env nm a∨ ∃x,a∈F x
noncomputable def Mu (env:Env) (nm:Names) (μ₀:Addr→Prop) (F:Str→List Addr) (a:Addr):Prop:=μ₀ a∨Wr env nm F a
structure Frm (W:Wd)(s₀:Shared)(μ₀ Z:Addr→Prop)(nm:Names)(env:Env)(A:Around)(k:Nat)(F:Str→List Addr)(ρ:Rho)(s:Shared):Prop where
 ok:EnvOk env nm
 room:Room A k
 inv0:Inv W s₀
 mu0:(∀a,μ₀ a→Z a)∧ ∀a,Z a→ ∀o,W.T.get? a≠some o
 stp:Stp W s₀ s
 lay:Lay env nm s.heap
 newO: ∀a,OwnP env nm a→s₀.heap.get? a=none∧ ¬Z a
 newF: ∀x a,a∈F x→s₀.heap.get? a=none∧ ¬Z a∧ ¬OwnP env nm a
 zOld: ∀a,Z a→ ∃o,s.heap.get? a=some o
 disj: ∀x y a,a∈F x→a∈F y→x=y
 exF: ∀x a,a∈F x→ ∃o,s.heap.get? a=some o
 cells: ∀x c,env.cells.lookup x=some c→nm.lookup x=some .cell
 see:SeeFt W env (Mu env nm Z F) F ρ s.heap
 code:nm.lookup genMark=some .local→env.code= .ref W.cac
 oi: ∀x d,ρ.lookup x=some (.oi,d)→F x= [s₀.heap.objs.size+1,s₀.heap.objs.size]
 tk:nm.lookup txtMark=some .local→0<s.toks
structure Moved (W:Wd)(env:Env)(nm:Names)(F F':Str→List Addr)(s s':Shared):Prop where
 mv:Mv W (Wr env nm F) s s'
 new: ∀x a,a∈F' x→(∃y,a∈F y)∨s.heap.get? a=none
 own: ∀a,OwnP env nm a→ ∃o,s'.heap.get? a=some o
section
variable {W:Wd}{s₀ s s' s'':Shared}{μ₀ Z:Addr→Prop}{A:Around}{nm:Names}{ρ ρ':Rho}{env:Env}{k:Nat}{F F' F'':Str→List Addr}{X:Addr→Prop}
theorem Moved.trans (x:Moved W env nm F F' s s')(y:Moved W env nm F' F'' s' s''):Moved W env nm F F'' s s'' where
 mv:=((x.mv.wider (Y:=fun b=>Wr env nm F b∨Wr env nm F' b) fun ω=> .inl).trans (y.mv.wider fun ω=> .inr)).fresh fun b o e h=>h.elim id fun h=>h.elim .inl fun z0=>by obtain⟨n,h⟩:=z0;exact(x.new n b h).elim .inr fun h=>nomatch h.symm.trans e
 new:=fun n a h=>(y.new n a h).elim (fun z1=>by obtain⟨m,h⟩:=z1;exact x.new m a h) fun h=>(Classical.em (Wr env nm F a)).elim (fun q=>q.elim (fun q=>by obtain⟨_,e⟩:=x.own a q;exact nomatch h.symm.trans e) .inl) fun q=> .inr (by
  cases e':s.heap.get? a with
  |none=>rfl
  |some o=>exact by obtain⟨_,h'⟩:=x.mv.there ⟨o,e'⟩ q;exact nomatch h.symm.trans h')
 own:=y.own
theorem Frm.refl (f:Frm W s₀ μ₀ Z nm env A k F ρ s):Moved W env nm F F s s:=⟨.refl,fun x ω h=> .inl ⟨x,h⟩,f.lay.there⟩
theorem Frm.moved (f:Frm W s₀ μ₀ Z nm env A k F ρ s)(t:Stp W s s'):Moved W env nm F F s s':=⟨t.mv,fun x ω h=> .inl ⟨x,h⟩,fun a q=>t.there (f.lay.there a q)⟩
theorem Frm.wrNew (f:Frm W s₀ μ₀ Z nm env A k F ρ s){a:Addr}(h:Wr env nm F a):s₀.heap.get? a=none∧ ¬Z a:=h.elim (f.newO a) fun z2=>by obtain⟨x,h⟩:=z2;exact⟨(f.newF x a h).1,(f.newF x a h).2.1⟩
theorem Frm.inv (f:Frm W s₀ μ₀ Z nm env A k F ρ s):Inv W s:=f.inv0.step f.stp
theorem Inv.there {s:Shared}(i:Inv W s){a:Addr}(h:s.heap.get? a=none)(o:Obj):W.T.get? a≠some o:=fun e=>not_there h (i.grow.there ⟨o,e⟩)
theorem Frm.mu (f:Frm W s₀ μ₀ Z nm env A k F ρ s):MuOk W (Mu env nm Z F) s.heap where
 lo:=fun a h o e=>h.elim (fun h=>f.mu0.2 a h o e) fun h=>f.inv0.there (f.wrNew h).1 o e
 hi:=fun a h=>h.elim (f.zOld a) fun h=>h.elim (f.lay.there a) fun z3=>by obtain⟨x,h⟩:=z3;exact f.exF x a h
theorem Frm.cxt (f:Frm W s₀ μ₀ Z nm env A k F ρ s):Cxt W nm env (Mu env nm Z F) ρ A k s:=
 ⟨f.ok,f.room,f.inv,f.mu,f.see.see,fun x c e=>f.lay.there c (.inr ⟨x,f.cells x c e,e⟩),f.code,f.tk⟩
structure At (W:Wd)(s₀:Shared)(μ₀ Z:Addr→Prop)(nm:Names)(env:Env)(A:Around)(k:Nat)(F F':Str→List Addr)(ρ':Rho)(s s':Shared):Prop where
 f:Frm W s₀ μ₀ Z nm env A k F' ρ' s'
 m:Moved W env nm F F' s s'
theorem Frm.next (f:Frm W s₀ μ₀ Z nm env A k F ρ s)(m:Mv W (Wr env nm F) s s')(lay:Lay env nm s'.heap)(hF: ∀n a,a∈F' n→(∃y,a∈F y)∨s.heap.get? a=none)(hd: ∀x y a,a∈F' x→a∈F' y→x=y)
  (he: ∀x a,a∈F' x→ ∃o,s'.heap.get? a=some o) (see:SeeFt W env (Mu env nm Z F') F' ρ' s'.heap)
  (oi: ∀x d,ρ'.lookup x=some (.oi,d)→F' x= [s₀.heap.objs.size+1,s₀.heap.objs.size]):
  At W s₀ μ₀ Z nm env A k F F' ρ' s s':=
 ⟨⟨f.ok,f.room,f.inv0,f.mu0,(f.stp.mv.trans m).stp fun b o h e=>(nomatch (f.wrNew h).1.symm.trans e),lay,f.newO,fun x a h=>(hF x a h).elim (fun z4=>by obtain⟨y,q⟩:=z4;exact f.newF y a q) fun q=>
   ⟨f.stp.grow.noneBack q,fun z=>not_there q (f.zOld a z),fun z=>not_there q (f.lay.there a z)⟩,fun a h=>m.there (f.zOld a h) fun q=>(f.wrNew q).2 h,hd,he,f.cells,see,f.code,oi,fun h=>Nat.lt_of_lt_of_le (f.tk h) m.tk⟩,m,hF,lay.there⟩
theorem Frm.step (f:Frm W s₀ μ₀ Z nm env A k F ρ s)(t:Stp W s s'):Frm W s₀ μ₀ Z nm env A k F ρ s':=
 (f.next t.mv (f.lay.at (X:=fun ω=>False) t.kept.toBut fun ω q=>q.elim) (fun n a h=> .inl ⟨n,h⟩) f.disj (fun x a h=>t.there (f.exF x a h))
   (f.see.but (X:=fun ω=>False) (fun ω q=>q.elim) (fun ω ω ω q=>q) t.kept.toBut fun n v h=>h.kept t.kept) f.oi).1
theorem IsD.frz {h:Heap}{μ μ':Addr→Prop}{a:Addr}{kvs:List (Str×Value)}{ds:List (Str×D)}(x:IsD W h μ a kvs ds)(ha: ¬μ' a)(hm: ∀a o,h.get? a=some o→μ' a→μ a):Rep W h μ' (.ref a) (.dict ds):= .dict ha x.1 x.2 x.3 (x.4.mu hm)
theorem RepF.freeze {h:Heap}{μ μ':Addr→Prop}{t:Tag}{G:List Addr}{v:Value}{d:D}(r:RepF W h μ t G v d)(hG: ∀a∈G,¬μ' a)(hm: ∀a o,h.get? a=some o→μ' a→μ a):Rep W h μ' v d:=match t,r with
 | .fr,r=>r.2.mu hm
 | .o1,.list a vs ds f e g p r=>e▸g▸ .list (hG _ (f▸ .head _)) p.isList (r.mu hm)
 | .o1,.dict a kvs ds f e g x=>e▸g▸x.frz (hG _ (f▸ .head _)) hm
 | .o2,.mk a kvs ds bs f e g n x k _ b r=>e▸g▸ .dict (hG _ (f▸ .head _)) n x k ⟨(List.length_map _).trans ((List.length_map (·.1)).symm.trans ((congrArg List.length k).trans ((List.length_map _).trans (List.length_map _).symm))),fun i v d e1 e2=>by
   obtain⟨b0,q1,q2⟩:=map_at (b▸e1)
   obtain⟨k1,d1,z1,z2⟩:=r i b0 d q1 e2
   exact q2▸z1▸z2.frz (hG _ (f▸ .tail _ (List.mem_of_getElem? q1))) hm⟩
 | .oi,.mk a C dx kvs fs f e g n o ns k r=>e▸g▸ .inst (hG _ (f▸ .head _)) (hG _ (f▸ .tail _ (.head _))) o ns.ns k (r.mu hm)
theorem lookup_frz {xs:List Str}{x:Str}: ∀{ρ:Rho},(frzR ρ xs).lookup x=(ρ.lookup x).map fun e=>if x∈xs then(.fr,e.2) else e
 | []=>rfl
 |(y,e)::ρ=>by
  have ih:=lookup_frz (xs:=xs) (x:=x) (ρ:=ρ)
  have h1:(frzR ((y,e)::ρ) xs)=(y,if y∈xs then(.fr,e.2) else e)::frzR ρ xs:=by
   unfold frzR
   rw[List.map_cons]
   by_cases h:y∈xs
   ·rw[if_pos h,if_pos h]
   ·rw[if_neg h,if_neg h]
  rw[h1,List.lookup_cons,List.lookup_cons]
  cases h:x==y with
  |true=>rw[eq_of_beq h];rfl
  |false=>exact ih
noncomputable def offs (F:Str→List Addr) (xs:List Str):Str→List Addr:=fun n=>if n∈xs then [] else F n
theorem offs_in {xs:List Str}{n:Str}{a:Addr}(h:a∈offs F xs n):n∉xs∧a∈F n:=if q:n∈xs then nomatch (show a∈ [] from(if_pos q:offs F xs n= [])▸h) else⟨q,(if_neg q:offs F xs n=F n)▸h⟩
theorem offs_mu {xs:List Str}{a:Addr}(h:Mu env nm Z (offs F xs) a):Mu env nm Z F a:=h.imp id fun h=>h.imp id fun z5=>by obtain⟨n,q⟩:=z5;exact⟨n,(offs_in q).2⟩
theorem Frm.frz (f:Frm W s₀ μ₀ Z nm env A k F ρ s)(xs:List Str): ∃F',At W s₀ μ₀ Z nm env A k F F' (frzR ρ xs) s s:=
 ⟨offs F xs,f.next .refl f.lay (fun n a h=> .inl ⟨n,(offs_in h).2⟩) (fun x y a h1 h2=>f.disj x y a (offs_in h1).2 (offs_in h2).2) (fun x a h=>f.exF x a (offs_in h).2) (fun x t d q=>by
   obtain⟨e,q1,q2⟩:=Option.map_eq_some_iff.mp (lookup_frz▸q)
   obtain⟨v,hv,r⟩:=f.see x e.1 e.2 q1
   refine⟨v,hv,?_⟩
   unfold offs
   by_cases hx:x∈xs
   ·rw[if_pos hx] at q2⊢
    cases q2
    exact .fr (r.freeze (fun a ha z=>z.elim (f.newF x a ha).2.1 fun z=>z.elim (f.newF x a ha).2.2 fun z6=>by obtain⟨n,z⟩:=z6;exact(offs_in z).1 (f.disj n x a (offs_in z).2 ha▸hx)) fun a o ω=>offs_mu)
   ·rw[if_neg hx] at q2⊢
    subst q2
    exact r.mu fun a o ω=>offs_mu) fun x d q=>by
   obtain⟨e,q1,q2⟩:=Option.map_eq_some_iff.mp (lookup_frz▸q)
   unfold offs
   by_cases hx:x∈xs
   ·rw[if_pos hx] at q2
    cases q2
   ·rw[if_neg hx] at q2⊢
    exact f.oi x d (q2▸q1)⟩
structure BoundAt (W:Wd)(s₀:Shared)(μ₀ Z:Addr→Prop)(nm:Names)(env:Env)(A:Around)(k:Nat)(F F':Str→List Addr)(ρ':Rho)(s s':Shared):Prop extends At W s₀ μ₀ Z nm env A k F F' ρ' s s' where
 sub: ∀n a,a∈F' n→a∈F n
theorem Frm.bound (f:Frm W s₀ μ₀ Z nm env A k F ρ s)(b:Bound W env nm (Mu env nm Z F) F ρ' s s')(hoi: ∀x d,ρ'.lookup x=some (.oi,d)→ρ.lookup x=some (.oi,d)): ∃F',BoundAt W s₀ μ₀ Z nm env A k F F' ρ' s s':=by
 obtain⟨F',hs,hF⟩:=b.see
 have sub: ∀n a,a∈F' n→a∈F n:=fun n a h=>(hF n).elim (fun q=>q▸h) fun q=>nomatch (q▸h:a∈ [])
 have m:Mv W (OwnP env nm) s s':=b.rest▸Mv.of b.old (fun a o q h=>f.mu.lo a (.inr (.inl q)) o h) b.tk
 exact⟨F',f.next (m.wider fun a q=> .inl q) b.lay (fun n a h=> .inl ⟨n,sub n a h⟩) (fun x y a h1 h2=>f.disj x y a (sub _ _ h1) (sub _ _ h2)) (fun x a h=>m.there (f.exF x a (sub x a h)) (f.newF x a (sub x a h)).2.2)
  (fun x t d q=>by obtain⟨v,hv,r⟩:=hs x t d q;exact⟨v,hv,r.mu fun a o ω z=>z.imp id fun z=>z.imp id fun z7=>by obtain⟨n,z⟩:=z7;exact⟨n,sub n a z⟩⟩) fun x d q=>
    have h1:=f.oi x d (hoi x d q)
    (hF x).elim (fun h2=>h2.trans h1) fun h2=>by obtain⟨v,_,r⟩:=hs x _ d q;exact let .mk _ _ _ _ _ g _ _ _ _ _ _ _:=r;(nomatch h2.symm.trans g),sub⟩
theorem set_oi {x y:Str}{d e:D}(h:(setV ρ x .fr d).lookup y=some (.oi,e)):ρ.lookup y=some (.oi,e):=by
 rw[lookup_setV] at h
 by_cases q:y=x
 ·rw[if_pos q] at h
  cases h
 ·rw[if_neg q] at h
  exact h
theorem bindN_oi {x:Str}{d:D}(h:bindN nm ρ x d=some ρ')(y:Str)(e:D)(q:ρ'.lookup y=some (.oi,e)):ρ.lookup y=some (.oi,e):=set_oi ((bindN_inv h).2▸q)
theorem bindTs_oi {nm:Names}: ∀{ts:List Expr} {ds:List D} {ρ ρ':Rho},bindTs nm ρ ts ds=some ρ'→ ∀x d,ρ'.lookup x=some (.oi,d)→ρ.lookup x=some (.oi,d)
 | [],[],_,_,h,_,_,q=>Option.some.inj h▸q
 | [],_::_,_,_,h,_,_,_=>nomatch h
 |_::_,[],_,_,h,_,_,_=>nomatch h
 |_::_,_::_,_,_,h,x,d,q=>ob h fun ω ω h=>ob h fun ω h1 h=>bindN_oi h1 x d (bindTs_oi h x d q)
theorem bindT_oi {nm:Names}{t:Expr}{e:D}(h:bindT nm ρ t e=some ρ')(x:Str)(d:D)(q:ρ'.lookup x=some (.oi,d)):ρ.lookup x=some (.oi,d):=by
 unfold bindT at h
 generalize view t=w at h
 cases w with
 |name=>exact bindN_oi h x d q
 |tuple=>exact ob h fun ω ω h=>bindTs_oi h x d q
 |_=>first|exact nf h|exact ns h|cases h
end
end Mine
namespace Mine
open PySem PyProof.Rows
noncomputable def tagW (e:Tag×D):Option D:=match e.1 with
 | .o1=>some e.2
 |_=>none
noncomputable def putI (C:Cfg) (a:Str) (d:D):D→Option D
 | .inst c fs=>iteO (C.iattr c a=true∧fs.length≤lim) (some (.inst c (putK fs a d)))
 |_=>none
noncomputable def put1 (i d:D):D→Option D
 | .dict kvs=>(asStr i).bind fun k=>iteO (kvs.length≤lim) (some (.dict (putK kvs k d)))
 | .list ds=>(asInt i).bind fun i=>iteO (0≤i∧i<ds.length∧ds.length≤lim) (some (.list (ds.set i.toNat d)))
 |_=>none
noncomputable def put2 (i j d q:D):Option D:=(asDict q).bind fun kvs=>(asStr i).bind fun k=>(asStr j).bind fun l=>(getK kvs k).bind fun e=>(asDict e).bind fun inner=>iteO (inner.length≤lim) (some (.dict (putK kvs k (.dict (putK inner l d)))))
noncomputable def asgSub (E:Ev) (nm:Names) (ρ:Rho) (i:Expr) (d:D) {o:Expr}:View o→Option Rho
 | .name x _=>(lk ρ x).bind fun q=>(tagW q).bind fun e=>(E nm ρ i).bind fun i=>(put1 i d e).map fun e=>setV ρ x .o1 e
 | .sub o i' _=>(nameOf o).bind fun x=>(lk ρ x).bind fun q=>(tagO2 q).bind fun e=>(E nm ρ i').bind fun i'=>(E nm ρ i).bind fun j=>(put2 i' j d e).map fun e=>setV ρ x .o2 e
 |_=>none
noncomputable def asgV (C:Cfg) (E:Ev) (nm:Names) (ρ:Rho) (d:D) {t:Expr}:View t→Option Rho
 | .attr o m _=>(nameOf o).bind fun x=>(lk ρ x).bind fun q=>(tagOi q).bind fun e=>(putI C m d e).map fun e=>setV ρ x .oi e
 | .sub o i _=>asgSub E nm ρ i d (view o)
 |v=>bindV nm ρ d v
noncomputable def sxAsg (C:Cfg) (E:Ev) (nm:Names) (ρ:Rho) (t:Expr) (d:D):Option Rho:=asgV C E nm ρ d (view t)
noncomputable def sxAsgs (C:Cfg) (E:Ev) (nm:Names):Rho→List Expr→D→Option Rho
 |ρ,[],_=>some ρ
 |ρ,t::ts,d=>(sxAsg C E nm ρ t d).bind fun ρ'=>sxAsgs C E nm ρ' ts d
noncomputable def withF (F:Str→List Addr) (x:Str) (G:List Addr):Str→List Addr:=fun n=>if n=x then G else F n
section
variable {W:Wd}{s₀ s s' s'':Shared}{μ₀ Z Y:Addr→Prop}{A:Around}{nm:Names}{ρ ρ':Rho}{env:Env}{k:Nat}{F:Str→List Addr}{x n:Str}{v:Value}{t:Tag}{d:D}{G:List Addr}{a:Addr}
theorem withF_eq (q:n=x):withF F x G n=G:=if_pos q
theorem withF_ne (q:n≠x):withF F x G n=F n:=if_neg q
theorem withF_in (h:a∈withF F x G n):(n=x∧a∈G)∨(n≠x∧a∈F n):=if q:n=x then .inl ⟨q,(withF_eq q:withF F x G n=G)▸h⟩ else .inr ⟨q,(withF_ne q:withF F x G n=F n)▸h⟩
theorem withF_mu (h:Mu env nm Z (withF F x G) a):Mu env nm Z F a∨a∈G:=h.elim (fun q=> .inl (.inl q)) fun h=>h.elim (fun q=> .inl (.inr (.inl q))) fun z0=>by obtain⟨n,q⟩:=z0;exact(withF_in q).elim (fun q=> .inr q.2) fun q=> .inl (.inr (.inr ⟨n,q.2⟩))
theorem set_look {t':Tag}{d':D}(q:(setV ρ x t d).lookup n=some (t',d')):(n=x∧t=t'∧d=d')∨(n≠x∧ρ.lookup n=some (t',d')):=by
 rw[lookup_setV] at q
 by_cases hn:n=x
 ·rw[if_pos hn] at q
  cases q
  exact .inl ⟨hn,rfl,rfl⟩
 ·rw[if_neg hn] at q
  exact .inr ⟨hn,q⟩
theorem Frm.set (f:Frm W s₀ μ₀ Z nm env A k F ρ s)(t₁:Stp W s s')(m:Mv W Y s' s'')(hY: ∀a,Y a→s.heap.get? a=none∨OwnP env nm a∨a∈F x)(lay:Lay env nm s''.heap)(hG: ∀a∈G,a∈F x∨s.heap.get? a=none)
  (hv:Holds env s''.heap x v) (ho: ∀y u,y≠x→Holds env s'.heap y u→Holds env s''.heap y u) (r:RepF W s''.heap (Mu env nm Z (withF F x G)) t G v d) (hoi:t= .oi→G= [s₀.heap.objs.size+1,s₀.heap.objs.size]):
  At W s₀ μ₀ Z nm env A k F (withF F x G) (setV ρ x t d) s s'':=
 have old: ∀n a,n≠x→a∈F n→a∉G:=fun n a hn h q=>(hG a q).elim (fun q=>hn (f.disj n x a h q)) fun q=>not_there q (f.exF n a h)
 have off: ∀n a,n≠x→a∈F n→ ¬Y a:=fun n a hn h q=>(hY a q).elim (fun q=>not_there q (f.exF n a h)) fun q=>q.elim (f.newF n a h).2.2 fun q=>hn (f.disj n x a h q)
 have back: ∀a o,s.heap.get? a=some o→(Mu env nm Z F a∨Y a∨a∈G)→Mu env nm Z F a:=fun a o e z=>z.elim id fun z=>z.elim (fun z=>(hY a z).elim (fun q=>nomatch q.symm.trans e) fun q=> .inr (q.imp id fun q=>⟨x,q⟩)) fun z=>(hG a z).elim (fun q=> .inr (.inr ⟨x,q⟩)) fun q=>nomatch q.symm.trans e
 f.next ((t₁.mv.trans m).fresh fun b o e q=>(hY b q).elim (fun q=>nomatch q.symm.trans e) fun q=>q.imp id fun q=>⟨x,q⟩) lay (fun n a h=>(withF_in h).elim (fun q=>(hG a q.2).imp (fun q=>⟨x,q⟩) id) fun q=> .inl ⟨n,q.2⟩)
   (fun y z a h1 h2=>(withF_in h1).elim (fun e1=>(withF_in h2).elim (fun e2=>e1.1.trans e2.1.symm) fun e2=>absurd e1.2 (old z a e2.1 e2.2)) fun e1=>(withF_in h2).elim (fun e2=>absurd e2.2 (old y a e1.1 e1.2)) fun e2=>f.disj y z a e1.2 e2.2)
   (fun y a h=>(withF_in h).elim (fun q=>r.there a q.2) fun q=>m.there (t₁.there (f.exF y a q.2)) (off y a q.1 q.2))
   (fun n t' d' q=>(set_look q).elim (fun z1=>by obtain⟨e1,e2,e3⟩:=z1;exact⟨v,e1▸hv,by rw[withF_eq e1,←e2,←e3];exact r⟩) fun⟨e1,q⟩=>by
     obtain⟨u,a,b⟩:=f.see n t' d' q
     exact⟨u,ho n u e1 (a.kept t₁.kept),by rw[withF_ne e1];exact(((b.mu back).but (X:=fun ω=>False) (fun ω q=>q.elim) (fun ω ω q=>q) t₁.kept.toBut).but (fun a q=> .inr (.inl q)) (fun a h=>off n a e1 h) m.kept).mu fun a o ω z=>(withF_mu z).imp id .inr⟩)
   fun n d' q=>(set_look q).elim (fun z2=>by obtain⟨e1,e2,_⟩:=z2;exact(withF_eq e1).trans (hoi e2)) fun z3=>by obtain⟨e1,q⟩:=z3;exact(withF_ne e1).trans (f.oi n d' q)
theorem Frm.add (f:Frm W s₀ μ₀ Z nm env A k F ρ s)(t₁:Stp W s s'){h':Heap}{tk:Nat}(hv:Holds env s.heap x v)(hG: ∀a∈G,a∈F x∨s.heap.get? a=none)
  (hk: ∀b o,s'.heap.get? b=some o→b∉F x→h'.get? b=some o) (r:RepF W h' (fun a=>Mu env nm Z F a∨a∈G) t G v d) (hoi:t= .oi→G= [s₀.heap.objs.size+1,s₀.heap.objs.size]) (ht:s'.toks≤tk:=by first|assumption|exact Nat.le_refl _|exact Nat.le_succ _):
  At W s₀ μ₀ Z nm env A k F (withF F x G) (setV ρ x t d) s {s' with heap:=h',toks:=tk}:=
 have m:Mv W (fun b=>b∈F x) s' {s' with heap:=h',toks:=tk}:=Mv.of hk (fun b o q h=>f.mu.lo b (.inr (.inr ⟨x,q⟩)) o h) ht
 have hh: ∀y u,Holds env s'.heap y u→Holds env h' y u:=fun ω ω=>holds_off m.kept (fun z=>(f.newF x _ z).2.2 (.inl rfl)) (fun y c e z=>(f.newF x _ z).2.2 (.inr ⟨y,f.cells y c e,e⟩))
 f.set t₁ m (fun a q=> .inr (.inr q)) ((f.step t₁).lay.at m.kept fun a q z=>(f.newF x a q).2.2 z) hG (hh _ _ (hv.kept t₁.kept)) (fun y u ω=>hh y u) (r.mu fun a o ω=>withF_mu) hoi
structure Asg (W:Wd)(s₀:Shared)(μ₀ Z:Addr→Prop)(nm:Names)(env:Env)(A:Around)(k:Nat)(F F':Str→List Addr)(ρ':Rho)(s s':Shared):Prop extends At W s₀ μ₀ Z nm env A k F F' ρ' s s' where
 sub: ∀n a,a∈F' n→ ∃y,a∈F y
theorem Frm.wrote (f:Frm W s₀ μ₀ Z nm env A k F ρ s)(t₁:Stp W s s'){h':Heap}{tk:Nat}(hv:Holds env s.heap x v)(hk: ∀b o,s'.heap.get? b=some o→b∉F x→h'.get? b=some o)(r:RepF W h' (Mu env nm Z F) t (F x) v d)
  (hoi:t= .oi→ ∃d',ρ.lookup x=some (.oi,d')) (ht:s'.toks≤tk:=by first|assumption|exact Nat.le_refl _|exact Nat.le_succ _): ∃F',Asg W s₀ μ₀ Z nm env A k F F' (setV ρ x t d) s {s' with heap:=h',toks:=tk}:=
 ⟨_,f.add t₁ hv (fun ω q=> .inl q) hk (r.mu fun a o ω z=>z.elim id fun q=> .inr (.inr ⟨x,q⟩)) (fun e=>by obtain⟨d',q⟩:=hoi e;exact f.oi x d' q) ht,fun n a h=>(withF_in h).elim (fun q=>⟨x,q.2⟩) fun q=>⟨n,q.2⟩⟩
theorem Frm.kb {h h':Heap}(hk: ∀b o,h.get? b=some o→b∉F x→h'.get? b=some o):KeptBut (Mu env nm Z F) h h':=fun b o e ω n=>hk b o e fun z=>n (.inr (.inr ⟨x,z⟩))
structure OwnTo (W:Wd)(s₀:Shared)(μ₀ Z:Addr→Prop)(nm:Names)(env:Env)(A:Around)(k:Nat)(F F':Str→List Addr)(ρ':Rho)(L:Addr)(s s' s'':Shared):Prop where
 l: ∀o,s'.heap.get? L=some o→s''.heap.get? L=some o
 go: ∀h'',(∀b o,s''.heap.get? b=some o→b≠L→h''.get? b=some o)→At W s₀ μ₀ Z nm env A k F F' ρ' s {s'' with heap:=h''}
theorem Frm.own (f:Frm W s₀ μ₀ Z nm env A k F ρ s)(t₁:Stp W s s'){p:Pos}{L:Addr}(hG: ∀a∈G,s.heap.get? a=none)(hx:canB nm x=true)(hL:s.heap.get? L=none)(hLG:L∉G)
  (r:RepF W s'.heap (fun a=>Mu env nm Z F a∨a∈G∨a=L) t G v d) (hoi:t≠ .oi):
  wpAny (MD W) A (assign (.Name x p) env v) (fun ω s''=>OwnTo W s₀ μ₀ Z nm env A k F (withF F x G) (setV ρ x t d) L s s' s'') No s':=
 bind_name (f.step t₁).lay (of_decide_eq_true hx) fun h' tk nd htk=>by
  obtain⟨c,hc,hs⟩:=nd.own
  have hcL:L≠c:=fun q=>not_there hL (q▸f.lay.there c hc)
  have hLO: ¬OwnP env nm L:=fun q=>not_there hL (f.lay.there L q)
  refine⟨fun o e=>hs.extBut L o hcL e,fun h'' hk2=> ?_⟩
  have kb2:KeptBut (fun b=>b=L) h' h'':=fun b o e ω n=>hk2 b o e n
  have m:Mv W (fun b=>b=c∨b=L) s' {s' with heap:=h'',toks:=tk}:=Mv.of (fun b o e n=>hk2 b o (hs.extBut b o (fun q=>n (.inl q)) e) fun q=>n (.inr q)) (fun b o q h=>q.elim (fun q=>f.mu.lo b (.inr (.inl (q▸hc))) o h) fun q=>f.inv.there (q▸hL) o h) htk
  have off2: ∀n u,Holds env h' n u→Holds env h'' n u:=fun n u=>holds_off kb2 (fun q=>hLO (.inl q.symm)) (fun y c e q=>hLO (.inr ⟨y,f.cells y c e,q▸e⟩))
  exact f.set t₁ m (fun a q=>q.elim (fun q=> .inr (.inl (q▸hc))) fun q=> .inl (q▸hL)) (nd.lay.at kb2 fun a q z=>hLO (q▸z)) (fun a q=> .inr (hG a q)) (off2 _ _ nd.holds) (fun y u hy q=>off2 y u (nd.old y u hy q))
   ((r.but (X:=fun b=>b=c∨b=L) (fun a q=>q.elim (fun q=> .inl (.inr (.inl (q▸hc)))) fun q=> .inr (.inr q)) (fun a ha q=>q.elim (fun q=>not_there (hG a ha) (q▸f.lay.there c hc)) fun q=>hLG (q▸ha)) m.kept).mu fun a o ω z=>(withF_mu z).imp id .inl) fun e=>absurd e hoi
theorem Frm.own0 (f:Frm W s₀ μ₀ Z nm env A k F ρ s)(t₁:Stp W s s'){p:Pos}(hG: ∀a∈G,s.heap.get? a=none)(hx:canB nm x=true)(r:RepF W s'.heap (fun a=>Mu env nm Z F a∨a∈G) t G v d)(hoi:t≠ .oi):
  wpAny (MD W) A (assign (.Name x p) env v) (fun ω s''=>At W s₀ μ₀ Z nm env A k F (withF F x G) (setV ρ x t d) s s'') No s':=
 have hn:s'.heap.get? s'.heap.objs.size=none:=none_of_size (Nat.le_refl _)
 wpAny_mono (f.own t₁ (L:=s'.heap.objs.size) hG hx (t₁.grow.noneBack hn) (fun q=>not_there hn (r.there _ q)) (r.mu fun a o e z=>z.imp id fun z=>z.resolve_right fun q=>nomatch (q▸hn:s'.heap.get? a=none).symm.trans e) hoi) (fun ω s'' z=>z.go s''.heap fun b o e ω=>e) no
end
end Mine
namespace Mine
open PySem PyProof.Rows
noncomputable def StoreOk (W:Wd) (C:Cfg):Prop:=
 ∀c m,C.iattr c m=true→ ∀A s a dx (kvs:List (Str×Value)) v (Q:Unit→Shared→Prop),Inv W s→s.heap.get? a=some (PySem.W.instObj c dx)→s.heap.Ns1 dx (fun x=>kvs.lookup x)→a≠dx→kvs.length≤lim→
  (∀h' tk,s.toks≤tk→h'.get? a=some (PySem.W.instObj c dx)→h'.Ns1 dx (fun y=>if y=m then some v else kvs.lookup y)→(∀b o,b≠a→b≠dx→s.heap.get? b=some o→h'.get? b=some o)→Q () {s with heap:=h',toks:=tk})→
  wpAny (MD W) A (setAttr (.ref a) m v) Q No s
section
variable {M:Model}{A:Around}{E:Value→Shared→Prop}{s:Shared}{env:Env}
theorem asg_sub {o i:Expr}{p:Pos}{v:Value}{Q:Unit→Shared→Prop}(h:wpAny M A (eval o env) (fun ov s₁=>wpAny M A (eval i env) (fun iv s₂=>wpAny M A (setItem ov iv v) Q E s₂) E s₁) E s):
  wpAny M A (assign (.Subscript o i p) env v) Q E s:=fun Γ q hΓ=>by
 simp only[assign_Subscript,Sem.wp_bind',Sem.wp_holding,Sem.wp_cmd_standAt,Sem.wp_release]
 exact Sem.wp_mono M Γ _ (fun ov p₁ s₁ h₁=>Sem.wp_mono M Γ _ (fun iv ω s₂ h₂=>h₂ Γ _ hΓ) (fun ω ω ω h'=>h') _ _ (h₁ Γ p₁ hΓ)) (fun ω ω ω h'=>h') _ _ (h Γ _ hΓ)
theorem asg_attr {o:Expr}{m:Str}{p:Pos}{v:Value}{Q:Unit→Shared→Prop}(h:wpAny M A (eval o env) (fun ov s₁=>wpAny M A (setAttr ov m v) Q E s₁) E s):
  wpAny M A (assign (.Attribute o m p) env v) Q E s:=fun Γ q hΓ=>by
 simp only[assign_Attribute,Sem.wp_bind',Sem.wp_holding,Sem.wp_cmd_standAt,Sem.wp_release]
 exact Sem.wp_mono M Γ _ (fun ov ω s₁ h₁=>h₁ Γ _ hΓ) (fun ω ω ω h'=>h') _ _ (h Γ _ hΓ)
end
section
variable {W:Wd}{s:Shared}{A:Around}
theorem setItem_plain {E:Value→Shared→Prop}{l:Addr}{items:Array Value}{k:Int}{t:Tok}{v:Value}{Q:Unit→Shared→Prop}(hp:s.heap.PlainList l items)
  (h0:0≤k) (hfit:k<2^63) (hn:k<items.size)
  (hQ: ∀h',h'.PlainList l (items.setIfInBounds k.toNat v)→Heap.SameBut l s.heap h'→Q () {s with heap:=h'}):
  wpAny (MD W) A (setItem (.ref l) (.int k t) v) Q E s:=by
 have hl:=hp.isList
 obtain⟨ne,ho⟩:=hp
 unfold setItem
 refine wpAny_holding ?_
 refine wpAny_bind (wpAny_sequenceKey hl.typeIs (by decide) ?_)
 refine wpAny_bind (wpAny_callSpecial?_slot (name:=Str.ofString "__setitem__") hl.typeIs slot_list_setitem
  (wpAny_call_entry slot_list_setitem hl.typeIs entry_list_setitem ?_ (args_list_setitem _ _ _)))
 show wpAny _ _ (Builtin.List.listSubscript? (.int k t)>>=_) _ _ s
 refine wpAny_bind (wpAny_listSubscript_int (fitsIndex_of h0 hfit) ?_)
 clear hfit
 obtain⟨j,rfl⟩:=Int.eq_ofNat_of_zero_le h0
 have hj:j<items.size:=by omega
 have hx':items[j]?=some items[j]:=Array.getElem?_eq_getElem hj
 show wpAny _ _ ((seqItemAt l j>>=fun r=>pure (r.map (j, ·)))>>=_) _ _ s
 refine wpAny_bind (wpAny_bind (wpAny_seqItemAt ho rfl (wpAny_pure ?_)))
 rw[hx']
 show wpAny _ _ (setSeqItemAt l j v>>=_) _ _ s
 have hm: ∃n',Obj.mapSeq (·.setIfInBounds j v) {cls:= .type "list",data:= .seq items ne}={cls:= .type "list",data:= .seq (items.setIfInBounds j v) n'}:=⟨_,by simp[Obj.mapSeq];rfl⟩
 obtain⟨n',hm⟩:=hm
 have hfin:(s.heap.update l (Obj.mapSeq (·.setIfInBounds j v))).PlainList l (items.setIfInBounds j v):=
  ⟨n',by rw[Heap.get?_update_self _ ho (by rw[hm];rfl),hm]⟩
 refine wpAny_bind (wpAny_setSeqItemAt ho rfl ?_)
 first
  |exact wpAny_bind (wpAny_pure (wpAny_pure ⟨.none,rfl,wpAny_pure (hQ _ hfin (Heap.SameBut.update ..))⟩))
  |exact wpAny_pure ⟨.none,rfl,wpAny_pure (hQ _ hfin (Heap.SameBut.update ..))⟩
theorem map_miss {x y:Str}{v:Value}(hy:y≠x): ∀kvs:List (Str×Value),(kvs.map fun kv=>if kv.1=x then(kv.1,v) else kv).lookup y=kvs.lookup y
 | []=>rfl
 |(k,u)::kvs=>by
  have ih:=map_miss (v:=v) hy kvs
  rw[List.map_cons,List.lookup_cons]
  by_cases h:k=x
  ·rw[if_pos h,List.lookup_cons,ih,beq_false_of_ne (h▸hy)]
  ·rw[if_neg h,List.lookup_cons,ih]
theorem map_hit {x:Str}{v:Value}: ∀kvs:List (Str×Value),(kvs.any fun kv=>decide (kv.1=x))=true→(kvs.map fun kv=>if kv.1=x then(kv.1,v) else kv).lookup x=some v
 | [],h=>nomatch h
 |(k,u)::kvs,hq=>by
  rw[List.map_cons]
  by_cases h:k=x
  ·rw[if_pos h,List.lookup_cons,beq_iff_eq.mpr h.symm]
  ·rw[List.any_cons,decide_eq_false h] at hq
   rw[if_neg h,List.lookup_cons,beq_false_of_ne (fun q=>h q.symm)]
   exact map_hit kvs hq
theorem app_look {x:Str}{v:Value}(y:Str): ∀kvs:List (Str×Value),¬(kvs.any fun kv=>decide (kv.1=x))=true→(kvs++[(x,v)]).lookup y=if y=x then some v else kvs.lookup y
 | [],_=>by
   rw[List.nil_append,List.lookup_cons]
   by_cases h:y=x
   ·rw[if_pos h,beq_iff_eq.mpr h]
   ·rw[if_neg h,beq_false_of_ne h]
 |(k,u)::kvs,hq=>by
  rw[List.any_cons,Bool.or_eq_true] at hq
  rw[List.cons_append,List.lookup_cons,List.lookup_cons,app_look y kvs fun q=>hq (.inr q)]
  cases h:y==k with
  |false=>rfl
  |true=>exact(if_neg fun q=>hq (.inl (decide_eq_true ((eq_of_beq h).symm.trans q)))).symm
theorem stored_lookup {kvs:List (Str×Value)}{x:Str}{v:Value}(y:Str):(stored kvs x v).lookup y=if y=x then some v else kvs.lookup y:=by
 unfold stored
 by_cases hq:(kvs.any fun kv=>decide (kv.1=x))=true
 ·rw[if_pos hq]
  by_cases h:y=x
  ·rw[if_pos h,h];exact map_hit kvs hq
  ·rw[if_neg h];exact map_miss h kvs
 ·rw[if_neg hq]
  exact app_look y kvs hq
end
section
variable {W:Wd}{h h':Heap}{μ:Addr→Prop}{d:D}{x:Str}
theorem lk_dbg {ρ:Rho}{q:Tag×D}(h:lk ρ x=some q):(x==("__debug__" :Str))=false∧ρ.lookup x=some q:=let q:=lk_inv h;⟨dbg_of q.1,q.2⟩
theorem RepL.set {vs:List Value}{ds:List D}(r:RepL W h μ vs ds){v:Value}(q:Rep W h μ v d)(i:Nat):RepL W h μ (vs.set i v) (ds.set i d):=
 ⟨by rw[List.length_set,List.length_set];exact r.1,fun j u e a b=>by
   rw[List.getElem?_set] at a b
   by_cases hj:i=j
   ·rw[if_pos hj] at a b
    exact dite_some a (fun ω a=>dite_some b (fun ω b=>Option.some.inj a▸Option.some.inj b▸q) fun b=>nomatch b) fun a=>nomatch a
   ·rw[if_neg hj] at a b
    exact r.2 j u e a b⟩
theorem getK_key {fs:List (Str×D)}(h:getK fs x=some d): ∃m:Nat,fs[m]?=some (x,d):=by
 obtain⟨kv,h1,h2⟩:=Option.map_eq_some_iff.mp h
 obtain⟨m,hm⟩:=List.getElem?_of_mem (List.mem_of_find?_eq_some h1)
 have h3:kv.1=x:=of_decide_eq_true (List.find?_some (p:=fun kv:Str×D=>decide (kv.1=x)) h1)
 exact⟨m,hm.trans (congrArg some (Prod.ext h3 h2))⟩
noncomputable def setK (x:Str) (d:D) (kv:Str×D):Str×D:=if kv.1=x then(kv.1,d) else kv
theorem putK_map {fs:List (Str×D)}{e:D}{m:Nat}(h:fs[m]?=some (x,e)):putK fs x d=fs.map (setK x d):=if_pos (List.any_eq_true.mpr ⟨_,List.mem_of_getElem? h,decide_eq_true rfl⟩)
theorem setK_eq {kv:Str×D}(h:kv.1=x):setK x d kv=(kv.1,d):=if_pos h
theorem setK_ne {kv:Str×D}(h:kv.1≠x):setK x d kv=kv:=if_neg h
theorem setK_key (kv:Str×D):(setK x d kv).1=kv.1:=if h:kv.1=x then by rw[setK_eq h] else by rw[setK_ne h]
theorem keyAt {l:List (Str×D)}{i:Nat}{kv:Str×D}(h:l[i]?=some kv):(l.map (·.1))[i]?=some kv.1:=List.getElem?_map.trans (congrArg (Option.map (·.1)) h)
theorem valAt {l:List (Str×D)}{i:Nat}{kv:Str×D}(h:l[i]?=some kv):(l.map (·.2))[i]?=some kv.2:=List.getElem?_map.trans (congrArg (Option.map (·.2)) h)
theorem putK_keys {fs:List (Str×D)}{e:D}{m:Nat}(h:fs[m]?=some (x,e)):(putK fs x d).map (·.1)=fs.map (·.1):=by
 rw[putK_map h,List.map_map]
 exact List.map_congr_left fun kv ω=>setK_key kv
theorem F2.put {G:List Addr}{v:Value}{ds dn:List (Str×D)}{e:D}{m:Nat}{b0:Addr}{kv':List (Str×Value)}(r:F2 W h μ G v (.dict ds))(hG:b0∈G→μ b0)(hm:ds[m]?=some (x,e))(hb: ∀a bs,G=a::bs→bs[m]?=some b0)(k0:KeptBut (fun b=>b=b0) h h')
  (new:IsD W h' μ b0 kv' dn):F2 W h' μ G v (.dict (putK ds x (.dict dn))):=by
 obtain⟨a,kvs,ds',bs,f,e1,g,n,y,k,nd,b,r⟩:=r
 cases g
 have hb:=hb a bs f
 have hin:=List.mem_of_getElem? hb
 have kb:KeptBut μ h h':=fun b o e n q=>k0 b o e n fun(z:b=b0)=>q (z▸hG (f▸ .tail _ hin))
 have nd2:=List.nodup_cons.mp nd
 have nk:(ds.map (·.1)).Nodup:=k▸dict_nodup y
 refine⟨a,kvs,_,bs,f,e1,rfl,n,dictOf_at y (fun(z:a=b0)=>nd2.1 (z▸hin)) k0,k.trans (putK_keys hm).symm,nd,b,fun i c d3 p1 p2=> ?_⟩
 rw[putK_map hm] at p2
 obtain⟨w,w1,w2⟩:=map_at p2
 obtain⟨kv,q1,q2⟩:=map_at w1
 subst w2 q2
 by_cases hx:kv.1=x
 ·rw[setK_eq hx]
  have k1:=keyAt q1
  have him:i=m:=(List.getElem?_inj (List.getElem?_eq_some_iff.mp k1).1 nk).mp (k1.trans (hx▸(keyAt hm).symm))
  cases him
  cases hb.symm.trans p1
  exact⟨_,_,rfl,new⟩
 ·rw[setK_ne hx]
  have hbb:c≠b0:=fun z=>by
   have him:i=m:=(List.getElem?_inj (List.getElem?_eq_some_iff.mp p1).1 nd2.2).mp (p1.trans (z▸hb.symm))
   cases him
   exact hx (congrArg Prod.fst (Option.some.inj (q1.symm.trans hm)))
  obtain⟨y1,y2,y3,y4⟩:=r i c _ p1 (valAt q1)
  exact⟨y1,y2,y3,y4.1,dictOf_at y4.2 hbb k0,y4.3,y4.4.but kb⟩
theorem F2.find {G:List Addr}{v:Value}{ds:List (Str×D)}{P:Prop}(r:F2 W h μ G v (.dict ds))(hg:getK ds x=some d)
  (k: ∀(a:Addr) (kvs:List (Str×Value)) (bs:List Addr) (m:Nat) (b0:Addr) kv' dn,G=a::bs→v= .ref a→h.DictOf (SK W) a kvs→ds[m]?=some (x,d)→bs[m]?=some b0→valueAt kvs x=some (.ref b0)→d= .dict dn→IsD W h μ b0 kv' dn→P):P:=by
 obtain⟨a,kvs,ds',bs,f,e1,g,n,y,kk,nd,b,r⟩:=r
 cases g
 obtain⟨m,hm⟩:=getK_key hg
 have hl:m<bs.length:=F2.len kk b▸(List.getElem?_eq_some_iff.mp hm).1
 have hb:=List.getElem?_eq_getElem hl
 obtain⟨kv',dn,z1,z2⟩:=r m _ d hb (valAt hm)
 have q1:(kvs.map (·.2))[m]?=some (Value.ref bs[m]):=b▸List.getElem?_map.trans (congrArg (Option.map Value.ref) hb)
 obtain⟨kv,w1,w2⟩:=map_at q1
 have q2:(kvs.map (·.1))[m]?=some x:=kk▸keyAt hm
 obtain⟨kv2,w3,w4⟩:=map_at q2
 cases w1.symm.trans w3
 have:kv=(x,.ref bs[m]):=Prod.ext w4 w2
 exact k a kvs bs m _ kv' dn f e1 y hm hb (valueAt_nodup (dict_nodup y) (this▸List.mem_of_getElem? w1)) z1 z2
end
section
variable {W:Wd}{s₀ s s₁:Shared}{μ₀ Z:Addr→Prop}{A:Around}{nm:Names}{ρ ρ':Rho}{env:Env}{k:Nat}{F F':Str→List Addr}{self:Ev}{C:Cfg}{x:Str}{v u:Value}{d:D}{a:Addr}{t:Tag}
theorem Frm.name (f:Frm W s₀ μ₀ Z nm env A k F ρ s){p:Pos}(h:lk ρ x=some (t,d)){Q:Value→Shared→Prop}(hQ: ∀v,Holds env s.heap x v→RepF W s.heap (Mu env nm Z F) t (F x) v d→Q v s):wpAny (MD W) A (eval (.Name x p) env) Q No s:=by
 obtain⟨hd,h⟩:=lk_dbg h
 obtain⟨v,hv,r⟩:=f.see x t d h
 exact wpAny_Name (load_held f.ok hv (hQ v hv r)) hd
theorem Moved.rep (m:Moved W env nm F F' s s₁)(hF: ∀n a,a∈F' n→ ∃y,a∈F y)(r:Rep W s.heap (Mu env nm Z F) v d):Rep W s₁.heap (Mu env nm Z F') v d:=
 (r.but fun b o e n q=>m.mv.kept b o e n fun z=>q (.inr z)).mu fun a o e q=>q.imp id fun q=>q.imp id fun z0=>by obtain⟨n,q⟩:=z0;exact hF n a q
theorem put1_sound (f:Frm W s₀ μ₀ Z nm env A k F ρ s)(t:Stp W s s₁)(hu:Holds env s.heap x u){i e q:D}(ru:F1 W s.heap (Mu env nm Z F) (F x) u q){iv:Value}(ri:Rep W s₁.heap (Mu env nm Z F) iv i)(r:Rep W s.heap (Mu env nm Z F) v d)(h:put1 i d q=some e):
  wpAny (MD W) A (setItem u iv v) (fun ω s'=> ∃F',Asg W s₀ μ₀ Z nm env A k F F' (setV ρ x .o1 e) s s') No s₁:=by
 cases ru with
 |dict a kvs ds hF e1 e2 y=>
  cases e1
  cases e2
  refine ob h fun k' h1 h=>oi h fun hl h=>os h fun h=>h▸(asStr_inv h1▸ri:Rep W s₁.heap (Mu env nm Z F) iv (.str k')).str_elim fun tk=> ?_
  refine wpAny_setItem_pairs (strKind_is PW W.w _ _) (dictOf_kept y.2 t.kept) (fun h' hd' hs=> ?_) (keys_len' y.3▸Nat.le_trans hl lim_le)
  have hk: ∀b o,s₁.heap.get? b=some o→b∉F x→h'.get? b=some o:=fun b o e n=>hs.extBut b o (fun z=>n (hF▸z▸ .head _)) e
  have kb:=Frm.kb (Z:=Z) (env:=env) (nm:=nm) hk
  have q:=stored_rep (x:=k') y.3 ((y.4.kept t.kept).but kb) ((r.kept t.kept).but kb)
  exact f.wrote t hu hk (.dict a _ _ hF rfl rfl ⟨y.1,hd',q.1,q.2⟩) (fun e=>nomatch e)
 |list a vs ds hF e1 e2 p r2=>
  cases e1
  cases e2
  refine ob h fun n h1 h=>oi h fun hl h=>os h fun h=>h▸(asInt_inv h1▸ri:Rep W s₁.heap (Mu env nm Z F) iv (.int n)).int_elim fun tk=> ?_
  have hfit:n<2^63:=Int.lt_of_lt_of_le hl.2.1 (Int.le_trans (Int.ofNat_le.mpr hl.2.2) (by decide))
  refine setItem_plain (plain_kept p t.kept) hl.1 hfit (by rw[List.size_toArray,r2.1];exact hl.2.1) (fun h' hd' hs=> ?_)
  rw[List.setIfInBounds_toArray] at hd'
  have hk: ∀b o,s₁.heap.get? b=some o→b∉F x→h'.get? b=some o:=fun b o e n=>hs.extBut b o (fun z=>n (hF▸z▸ .head _)) e
  have kb:=Frm.kb (Z:=Z) (env:=env) (nm:=nm) hk
  exact f.wrote (tk:=s₁.toks) t hu hk (.list a _ _ hF rfl rfl hd' (((r2.kept t.kept).but kb).set ((r.kept t.kept).but kb) _)) (fun e=>nomatch e)
theorem put2_sound (S:EvS W k self)(f:Frm W s₀ μ₀ Z nm env A k F ρ s)(t:Stp W s s₁)(hu:Holds env s.heap x u){i j e q:D}{je:Expr}(ru:F2 W s.heap (Mu env nm Z F) (F x) u q){iv:Value}(ri:Rep W s₁.heap (Mu env nm Z F) iv i)(hj:self nm ρ je=some j)
  (r:Rep W s.heap (Mu env nm Z F) v d) (h:put2 i j d q=some e):
  CanGet W A s₁ u iv fun w s₂=>wpAny (MD W) A (eval je env) (fun jv s₃=>wpAny (MD W) A (setItem w jv v) (fun ω s'=> ∃F',Asg W s₀ μ₀ Z nm env A k F F' (setV ρ x .o2 e) s s') No s₃) No s₂:=by
 refine ob h fun kvs h1 h=>ob h fun k' h2 h=>ob h fun l h3 h=>ob h fun e' h4 h=>ob h fun inner h5 h=>oi h fun hl h=>os h fun hz=> ?_
 cases asDict_inv h1
 cases asStr_inv h3
 cases asDict_inv h5
 subst hz
 refine ru.find h4 fun a kv bs m b0 kv' dn hG e1 hd hm hb hv e2 y=> ?_
 cases e1
 cases e2
 have hd1:=dictOf_kept hd t.kept
 refine(asStr_inv h2▸ri:Rep W s₁.heap (Mu env nm Z F) iv (.str k')).str_elim fun tk=>⟨_,_,hd1.typeIs,PySem.slot_dict_getitem.lookup,wpAny_getItem_of (strKind_is PW W.w _ _) hd1.mapOf hv ?_⟩
 have t1:Stp W s {s₁ with toks:=s₁.toks+1}:=t.trans (.toks _)
 refine S.at_ hj (f.cxt.step t1) fun jv s₃ t2 rj=>rj.str_elim fun tk2=> ?_
 have t':=t1.trans t2
 refine wpAny_setItem_pairs (strKind_is PW W.w _ _) (dictOf_kept y.2 t'.kept) (fun h' hd' hs=> ?_) (keys_len' y.3▸Nat.le_trans hl lim_le)
 have hin:b0∈F x:=hG▸ .tail _ (List.mem_of_getElem? hb)
 have hk: ∀b o,s₃.heap.get? b=some o→b∉F x→h'.get? b=some o:=fun b o e n=>hs.extBut b o (fun z=>n (z▸hin)) e
 have kb:=Frm.kb (Z:=Z) (env:=env) (nm:=nm) hk
 have z:=stored_rep (x:=l) y.3 ((y.4.kept t'.kept).but kb) ((r.kept t'.kept).but kb)
 exact f.wrote t' hu hk (((RepF.but (t:= .o2) (X:=fun ω=>False) (fun ω q=>q.elim) (fun ω ω q=>q) t'.kept.toBut ru:F2 W s₃.heap (Mu env nm Z F) (F x) (.ref a) (.dict kvs))).put (fun q=> .inr (.inr ⟨x,q⟩)) hm (fun a' bs' q=>(List.cons.inj (hG.symm.trans q)).2▸hb) (fun b o e ω n=>hs.extBut b o n e) ⟨y.1,hd',z.1,z.2⟩) (fun e=>nomatch e)
theorem asg_bind (f:Frm W s₀ μ₀ Z nm env A k F ρ s){t:Expr}(e:bindT nm ρ t d=some ρ')(r:Rep W s.heap (Mu env nm Z F) v d):wpAny (MD W) A (assign t env v) (fun ω s'=> ∃F',Asg W s₀ μ₀ Z nm env A k F F' ρ' s s') No s:=
 wpAny_mono (bind_sound (W:=W) f.room.handled (fun a q=> .inr (.inl q)) e (fun n a h=>(f.newF n a h).2.2) f.lay f.see (.rep r) (.inr r)) (fun ω s' z=>by obtain⟨F',b⟩:=f.bound z (bindT_oi e);exact⟨F',b.toAt,fun n a h=>⟨n,b.sub n a h⟩⟩) no
theorem asg_inst (K:StoreOk W C)(f:Frm W s₀ μ₀ Z nm env A k F ρ s){m:Str}{e q:D}(hl:ρ.lookup x=some (.oi,q))(hu:Holds env s.heap x u)(ru:FI W s.heap (Mu env nm Z F) (F x) u q)(r:Rep W s.heap (Mu env nm Z F) v d)(h:putI C m d q=some e):
  wpAny (MD W) A (setAttr u m v) (fun ω s'=> ∃F',Asg W s₀ μ₀ Z nm env A k F F' (setV ρ x .oi e) s s') No s:=by
 cases ru with
 |mk a c dx kvs fs hF e1 e2 n o ns kk rr=>
  cases e1
  cases e2
  refine oi h fun hq h=>os h fun h=>h▸K c m hq.1 A s a dx kvs v _ f.inv o ns n (keys_len' kk▸hq.2) fun h' tk htk e1 e2 e3=> ?_
  have hk: ∀b o,s.heap.get? b=some o→b∉F x→h'.get? b=some o:=fun b o e n=>e3 b o (fun z=>n (hF▸z▸ .head _)) (fun z=>n (hF▸z▸ .tail _ (.head _))) e
  have kb:=Frm.kb (Z:=Z) (env:=env) (nm:=nm) hk
  have z:=stored_rep (x:=m) kk (rr.but kb) (r.but kb)
  exact f.wrote (.refl s) hu hk (.mk a c dx (stored kvs m v) _ hF rfl rfl n e1 ((funext fun y=>stored_lookup y:(fun y=>(stored kvs m v).lookup y)=_)▸e2) z.1 z.2) (fun ω=>⟨_,hl⟩) htk
theorem asg_subV (S:EvS W k self)(f:Frm W s₀ μ₀ Z nm env A k F ρ s){o i:Expr}{w:View o}{p:Pos}(e:asgSub self nm ρ i d w=some ρ')(r:Rep W s.heap (Mu env nm Z F) v d):
  wpAny (MD W) A (assign (.Subscript o i p) env v) (fun ω s'=> ∃F',Asg W s₀ μ₀ Z nm env A k F F' ρ' s s') No s:=by
 cases w with
 |name x xp=>
  refine ob e fun q h1 e=>ob e fun dd h2 e=>ob e fun iv hi e=>om e fun e' h3 e=>e▸ ?_
  obtain⟨t,q⟩:=q
  cases t with
  |o1=>exact os h2 fun h2=>asg_sub (f.name h1 fun u hu ru=>S.at_ hi f.cxt fun iv s₁ t ri=>put1_sound f t hu (h2▸ru) ri r h3)
  |_=>first|exact nf h2|exact ns h2|cases h2
 |sub o' i' p'=>
  refine ob e fun x hx e=>ob e fun q h1 e=>ob e fun dd h2 e=>ob e fun iv hi e=>ob e fun jv hj e=>om e fun e' h3 e=>e▸ ?_
  obtain⟨px,rfl⟩:=nameOf_inv hx
  obtain⟨t,q⟩:=q
  cases t with
  |o2=>exact os h2 fun h2=>asg_sub (sub_any (f.name h1 fun u hu ru=>S.at_ hi f.cxt fun iv s₁ t ri=>put2_sound S f t hu (h2▸ru) ri hj r h3))
  |_=>first|exact nf h2|exact ns h2|cases h2
 |_=>first|exact nf e|exact ns e|cases e
theorem asg_sound (S:EvS W k self)(K:StoreOk W C){t:Expr}(e:sxAsg C self nm ρ t d=some ρ')(f:Frm W s₀ μ₀ Z nm env A k F ρ s)(r:Rep W s.heap (Mu env nm Z F) v d):
  wpAny (MD W) A (assign t env v) (fun ω s'=> ∃F',Asg W s₀ μ₀ Z nm env A k F F' ρ' s s') No s:=by
 unfold sxAsg at e
 have bd: ∀w:View t,bindV nm ρ d w=some ρ'→view t=w→wpAny (MD W) A (assign t env v) (fun ω s'=> ∃F',Asg W s₀ μ₀ Z nm env A k F F' ρ' s s') No s:=fun w e h=>asg_bind f (h▸e:bindV nm ρ d (view t)=some ρ') r
 generalize hw:view t=w at e
 cases w with
 |attr o m p=>
  refine ob e fun x hx e=>ob e fun q h1 e=>ob e fun dd h2 e=>om e fun e' h3 e=>e▸ ?_
  obtain⟨px,rfl⟩:=nameOf_inv hx
  obtain⟨t,q⟩:=q
  cases t with
  |oi=>exact os h2 fun h2=>asg_attr (f.name h1 fun u hu ru=>asg_inst K f (h2▸(lk_dbg h1).2) hu (h2▸ru) r h3)
  |_=>first|exact nf h2|exact ns h2|cases h2
 |sub o i p=>exact asg_subV S f e r
 |name x p=>exact bd (.name x p) e hw
 |tuple ts k p=>exact bd (.tuple ts k p) e hw
 |_=>first|exact nf e|exact ns e|cases e
end
end Mine
namespace Mine
open PySem PyProof.Rows
noncomputable def tup1:List Expr→Bool
 | []=>false
 |t::r=>match r with
  | []=>isTupT t
  |_::_=>false
noncomputable def swapN:List Expr→Option (Str×Str)
 | []=>none
 |t::r=>match r with
  | []=>genG (view t)
  |_::_=>none
noncomputable def elts {e:Expr}:View e→List Expr
 | .tuple vs _ _=>vs
 |_=>[]
noncomputable def sxPlain (C:Cfg) (E:Ev) (nm:Names) (ρ:Rho) (ts:List Expr) (e:Expr):Option Rho:=(E nm ρ e).bind fun d=>
 if(tup1 ts&&isTupT e)=true then(swapN ts).bind fun q=>iteO (q.1≠q.2∧(elts (view e)).all (constantsAlone 8)=false) (sxAsgs C E nm ρ ts d) else sxAsgs C E nm ρ ts d
noncomputable def isComp (e:Expr):Bool:=Nat.ble 8 e.ctorIdx&&Nat.ble e.ctorIdx 10
section
variable {M:Model}{A:Around}{E:Value→Shared→Prop}{s:Shared}{env:Env}
inductive Swaps (ts:List Expr) (e:Expr) (ln:Nat) (env:Env):Prop
 |yes (x px) (ht:ts= [.Name x px]) (hc:isComp e=true) (h:swapsWithSole ts e ln env=pure true)
 |no (h:swapsWithSole ts e ln env=pure false)
noncomputable def swapB (env:Env) (sc:Scope) (p:Pos) {t:Expr}:View t→Bool
 | .name x px=>env.blockKind== .function&&env.kindOf x==some .local&&px.line==p.line&& !(sc.names.any fun(n,k)=>n==x&&(k== .local||k== .cell))
 |_=>false
theorem swap_comp {elt:Expr}{gs:List Comprehension}{sc:Scope}{p:Pos}{ln:Nat}(t:Expr):swapsWith (.ListComp elt gs sc p) (some t) ln env=pure (swapB env sc p (view t)):=by
 cases t with
 |Constant c=>cases c<;>rfl
 |_=>rfl
theorem swap_view {t e:Expr}{sc:Scope}{p:Pos}{ln:Nat}(hc:isComp e=true)(h:swapsWithSole [t] e ln env=pure (swapB env sc p (view t))):Swaps [t] e ln env:=by
 generalize view t=w at h
 cases w with
 |name x px=>
  cases hb:swapB env sc p (.name x px) with
  |false=>exact .no (h.trans (congrArg pure hb))
  |true=>exact .yes x px rfl hc (h.trans (congrArg pure hb))
 |_=>exact .no h
theorem swaps_cases (ts:List Expr)(e:Expr)(ln:Nat):Swaps ts e ln env:=by
 cases ts with
 |nil=>exact .no rfl
 |cons t r=>cases r with
  |cons=>exact .no rfl
  |nil=>cases e with
   |ListComp elt gs sc p=>exact swap_view rfl (swap_comp (elt:=elt) (gs:=gs) (ln:=ln) t)
   |SetComp elt gs sc p=>exact swap_view rfl (swap_comp (elt:=elt) (gs:=gs) (ln:=ln) t)
   |DictComp kx vx gs sc p=>exact swap_view rfl (swap_comp (elt:=kx) (gs:=gs) (ln:=ln) t)
   |_=>exact .no rfl
theorem asg_use {ts:List Expr}{e:Expr}{p:Pos}{Q:Flow→Shared→Prop}(hs:swapsWithSole ts e p.line env=pure true)
  (h:wpAny M A (evalThenUse e env fun v=>assignAll v ((assignEach ts env).map (·.2))) (fun ω=>Q .next) E s):wpAny M A (exec (.Assign ts e p) env) Q E s:=by
 rw[PyProof.Rows.exec_Assign]
 refine wpAny_bind (wpAny_standAt ?_)
 rw[hs]
 refine wpAny_bind (wpAny_pure ?_)
 rw[if_pos rfl]
 exact wpAny_bind (wpAny_mono h (fun ω ω x=>wpAny_pure x) fun ω ω x=>x)
theorem asg_plain {ts:List Expr}{e:Expr}{p:Pos}{Q:Flow→Shared→Prop}(hs:swapsWithSole ts e p.line env=pure false)(hw:swappedStores ts e env=pure none)
  (h:wpAny M A (eval e env) (fun v s₁=>wpAny M A (assignAll v ((assignEach ts env).map (·.2))) (fun ω=>Q .next) E s₁) E s):wpAny M A (exec (.Assign ts e p) env) Q E s:=by
 rw[PyProof.Rows.exec_Assign]
 refine wpAny_bind (wpAny_standAt ?_)
 rw[hs]
 refine wpAny_bind (wpAny_pure ?_)
 rw[if_neg (by decide)]
 refine wpAny_bind (wpAny_mono h (fun v s₁ h₁=> ?_) fun ω ω x=>x)
 rw[hw]
 refine wpAny_bind (wpAny_pure ?_)
 exact wpAny_bind (wpAny_mono h₁ (fun ω ω x=>wpAny_pure x) fun ω ω x=>x)
theorem asg_swapped {ts:List Expr}{e:Expr}{p:Pos}{names:List Str}{Q:Flow→Shared→Prop}(hs:swapsWithSole ts e p.line env=pure false)(hw:swappedStores ts e env=pure (some names))
  (h:wpAny M A (eval e env) (fun v s₁=>wpAny M A (unpackItems v names.length none) (fun items s₂=>
    wpAny M A (assignInOrder (names.reverse.map fun n=>bindName env n) items.reverse) (fun ω=>Q .next) E s₂) E s₁) E s):wpAny M A (exec (.Assign ts e p) env) Q E s:=by
 rw[PyProof.Rows.exec_Assign]
 refine wpAny_bind (wpAny_standAt ?_)
 rw[hs]
 refine wpAny_bind (wpAny_pure ?_)
 rw[if_neg (by decide)]
 refine wpAny_bind (wpAny_mono h (fun v s₁ h₁=> ?_) fun ω ω x=>x)
 rw[hw]
 refine wpAny_bind (wpAny_pure ?_)
 exact wpAny_bind (wpAny_rule (wpAny_bind (wpAny_mono h₁ (fun items s₂ h₂=>wpAny_bind (wpAny_mono h₂ (fun ω ω x=>wpAny_pure x) fun ω ω x=>x)) fun ω ω x=>x)))
theorem stores_none {ts:List Expr}{e:Expr}(h:(tup1 ts&&isTupT e)=false)(hl: ∀l p,ts≠ [.List l p]):swappedStores ts e env=pure none:=by
 cases ts with
 |nil=>rfl
 |cons t r=>cases r with
  |cons=>cases t with
   |_=>rfl
  |nil=>cases t with
   |Tuple=>cases e with
    |Tuple=>first|exact nf h|exact ns h|cases h
    |_=>rfl
   |List=>exact absurd rfl (hl _ _)
   |_=>rfl
theorem ite_or {α:Type}{P:α→Prop}{c:Prop}[d:Decidable c]{x y:α}(h1:c→P x)(h2: ¬c→P y):P (if c then x else y):=match d with
 | .isTrue h=>h1 h
 | .isFalse h=>h2 h
theorem fm_two {f:Expr→Option Str}{a b:Expr}{x y:Str}(h1:f a=some x∨f a=none)(h2:f b=some y∨f b=none):List.filterMap f [a,b]= [x,y]∨(List.filterMap f [a,b]).length≠2:=by
 rw[List.filterMap_cons,List.filterMap_cons,List.filterMap_nil]
 rcases h1 with h1|h1<;>rcases h2 with h2|h2<;>rw[h1,h2]
 ·exact .inl rfl
 ·exact .inr nofun
 ·exact .inr nofun
 ·exact .inr nofun
theorem stores_two {x y:Str}{xp yp:Pos}{k:Nat}{p p':Pos}{vs:List Expr}{k':Nat}(hxy:x≠y)(hc:vs.all (constantsAlone 8)=false):
  swappedStores [.Tuple [.Name x xp,.Name y yp] k p] (.Tuple vs k' p') env=pure none∨swappedStores [.Tuple [.Name x xp,.Name y yp] k p] (.Tuple vs k' p') env=pure (some [x,y]):=by
 have e2:([x,y]:List Str).eraseDups= [x,y]:=by
  have h:(y==x)=false:=beq_false_of_ne fun q=>hxy q.symm
  rw[List.eraseDups_cons,List.filter_cons,h]
  rfl
 refine ite_or (P:=fun z=>z=pure none∨z=pure (some [x,y])) (fun ω=> .inl rfl) fun ω=>ite_or (P:=fun z=>z=pure none∨z=pure (some [x,y])) (fun ω=> .inl rfl) fun ω=>ite_or (P:=fun z=>z=pure none∨z=pure (some [x,y])) (fun ω=> .inl rfl) fun hn=>
  ite_or (P:=fun z=>z=pure none∨z=pure (some [x,y])) (fun ω=> .inl rfl) fun ω=>ite_or (P:=fun z=>z=pure none∨z=pure (some [x,y])) (fun h=>nomatch hc.symm.trans h) fun ω=> .inr (congrArg (fun l=>pure (some l)) ?_)
 exact(fm_two (ite_or (P:=fun z=>z=some x∨z=none) (fun ω=> .inl rfl) fun ω=> .inr rfl) (ite_or (P:=fun z=>z=some y∨z=none) (fun ω=> .inl rfl) fun ω=> .inr rfl)).resolve_right fun h=>hn (Bool.or_eq_true_iff.mpr (.inl (bne_iff_ne.mpr h)))
end
section
variable {W:Wd}{s₀ s s' s'':Shared}{μ₀ Z:Addr→Prop}{A:Around}{nm:Names}{ρ ρ':Rho}{env:Env}{k:Nat}{F F' F'':Str→List Addr}{self:Ev}{C:Cfg}{x:Str}{v:Value}{d:D}
noncomputable def Nxt (W:Wd) (s₀:Shared) (μ₀ Z:Addr→Prop) (nm:Names) (env:Env) (A:Around) (k:Nat) (F:Str→List Addr) (ρ':Rho) (s s':Shared):Prop:= ∃F',At W s₀ μ₀ Z nm env A k F F' ρ' s s'
theorem At.then (a:At W s₀ μ₀ Z nm env A k F F' ρ s s')(b:Nxt W s₀ μ₀ Z nm env A k F' ρ' s' s''):Nxt W s₀ μ₀ Z nm env A k F ρ' s s'':=by obtain⟨F'',b⟩:=b;exact⟨F'',b.f,a.m.trans b.m⟩
theorem Frm.at (f:Frm W s₀ μ₀ Z nm env A k F ρ s)(t:Stp W s s'):At W s₀ μ₀ Z nm env A k F F ρ s s':=⟨f.step t,f.moved t⟩
theorem Frm.congr (f:Frm W s₀ μ₀ Z nm env A k F ρ s)(h: ∀x,ρ'.lookup x=ρ.lookup x):Frm W s₀ μ₀ Z nm env A k F ρ' s:=
 {f with see:=fun x t d q=>f.see x t d (h x▸q),oi:=fun x d q=>f.oi x d (h x▸q)}
theorem asg_each {t:Expr}{ts:List Expr}(h:sxAsg C self nm ρ t d=some ρ'):(assignEach (t::ts) env).map (·.2)=assign t env::(assignEach ts env).map (·.2):=by
 cases t with
 |Starred=>first|exact nf h|exact ns h|cases h
 |_=>rfl
theorem asgs_sound (S:EvS W k self)(K:StoreOk W C): ∀(ts:List Expr) (ρ:Rho) (F:Str→List Addr) (s:Shared),sxAsgs C self nm ρ ts d=some ρ'→Frm W s₀ μ₀ Z nm env A k F ρ s→Rep W s.heap (Mu env nm Z F) v d→
  wpAny (MD W) A (assignAll v ((assignEach ts env).map (·.2))) (fun ω s'=>Nxt W s₀ μ₀ Z nm env A k F ρ' s s') No s
 | [],ρ,F,s,e,f,_=>os e fun e=>e▸wpAny_pure ⟨F,f,f.refl⟩
 | [t],ρ,F,s,e,f,r=>ob e fun ρ₁ h1 e=>os e fun e=>by
   rw[asg_each h1]
   exact wpAny_mono (asg_sound S K (e▸h1) f r) (fun ω s' z=>by obtain⟨F',b⟩:=z;exact⟨F',b.toAt⟩) no
 |t::t2::ts,ρ,F,s,e,f,r=>ob e fun ρ₁ h1 e=>ob e fun ρ₂ h2 ω=>by
  have rc:=fun F' s'=>asgs_sound S K (t2::ts) ρ₁ F' s' e
  rw[asg_each h1]
  rw[asg_each h2] at rc⊢
  show wpAny (MD W) A (do holding [v] (assign t env v);assignAll v (assign t2 env::_)) _ _ s
  exact wpAny_bind (wpAny_holding (wpAny_mono (asg_sound S K h1 f r) (fun ω s' z=>by obtain⟨F',b⟩:=z;exact wpAny_mono (rc F' s' b.f (b.m.rep b.sub r)) (fun ω s'' z=>b.toAt.then z) no) no))
theorem dite_both {α:Type}{c:Prop}[Decidable c]{x y:Option α}{r:α}{P:Prop}(h:(if c then x else y)=some r)(k1:c→x=some r→P)(k2: ¬c→y=some r→P):P:=if q:c then k1 q ((if_pos q).symm.trans h) else k2 q ((if_neg q).symm.trans h)
theorem bindOne (f:Frm W s₀ μ₀ Z nm env A k F ρ s)(hx:canB nm x=true)(r:Rep W s.heap (Mu env nm Z F) v d):
  wpAny (MD W) A (bindName env x v) (fun ω s'=> ∃F',BoundAt W s₀ μ₀ Z nm env A k F F' (setV ρ x .fr d) s s') No s:=
 wpAny_bindName (store_name f.lay (of_decide_eq_true hx) fun h' tk n htk=>f.bound (n.bound f.see (fun a q=> .inr (.inl q)) (fun n a h=>(f.newF n a h).2.2) htk r) fun y e=>set_oi)
structure Done (W:Wd)(s₀:Shared)(μ₀ Z:Addr→Prop)(nm:Names)(env:Env)(A:Around)(k:Nat)(F:Str→List Addr)(ρ':Rho)(s:Shared)(fl:Flow)(s':Shared):Prop where
 e:fl= .next
 n:Nxt W s₀ μ₀ Z nm env A k F ρ' s s'
theorem straight_sound (S:EvS W k self)(K:StoreOk W C){ts:List Expr}{e:Expr}{p:Pos}(hs:swapsWithSole ts e p.line env=pure false)(hw:swappedStores ts e env=pure none)(hd:self nm ρ e=some d)(h:sxAsgs C self nm ρ ts d=some ρ')(f:Frm W s₀ μ₀ Z nm env A k F ρ s):
  wpAny (MD W) A (exec (.Assign ts e p) env) (Done W s₀ μ₀ Z nm env A k F ρ' s) No s:=
 asg_plain hs hw (S.at_ hd f.cxt fun v s₁ t r=>wpAny_mono (asgs_sound S K ts ρ F s₁ h (f.step t) r) (fun ω s₂ z=>⟨rfl,(f.at t).then z⟩) no)
theorem two_stores {x y:Str}{a b:D}{va vb:Value}(hxy:x≠y)(f:Frm W s₀ μ₀ Z nm env A k F ρ s)(cx:canB nm x=true)(cy:canB nm y=true)(ra:Rep W s.heap (Mu env nm Z F) va a)(rb:Rep W s.heap (Mu env nm Z F) vb b):
  wpAny (MD W) A (assignInOrder (([x,y]:List Str).reverse.map fun n=>bindName env n) [va,vb].reverse) (fun ω s'=>Nxt W s₀ μ₀ Z nm env A k F (setV (setV ρ x .fr a) y .fr b) s s') No s:=
 show wpAny (MD W) A (do holding [va] (bindName env y vb);(do holding [] (bindName env x va);pure ())) _ _ _ from
 wpAny_bind (wpAny_holding (wpAny_mono (bindOne f cy rb) (fun ω s₃ ⟨F₃,z₃⟩=>wpAny_bind (wpAny_holding (wpAny_mono (bindOne z₃.f cx (z₃.m.rep (fun n a h=>⟨n,z₃.sub n a h⟩) ra)) (fun ω s₄ ⟨F₄,z₄⟩=>wpAny_pure (z₃.toAt.then ⟨F₄,z₄.f.congr (fun n=>by
  rw[lookup_setV,lookup_setV,lookup_setV,lookup_setV]
  by_cases h1:n=x
  ·rw[if_pos h1,if_pos h1,if_neg (h1▸hxy)]
  ·rw[if_neg h1,if_neg h1]),z₄.m⟩)) no))) no))
theorem swap_sound (S:EvS W k self){x y:Str}{xp yp pp:Pos}{kk:Nat}{e:Expr}{p:Pos}(hxy:x≠y)(hs:swapsWithSole [.Tuple [.Name x xp,.Name y yp] kk pp] e p.line env=pure false)(hw:swappedStores [.Tuple [.Name x xp,.Name y yp] kk pp] e env=pure (some [x,y]))
  (hd:self nm ρ e=some d) (h:((asSeq d).bind (bindTs nm ρ [.Name x xp,.Name y yp]))=some ρ') (f:Frm W s₀ μ₀ Z nm env A k F ρ s):
  wpAny (MD W) A (exec (.Assign [.Tuple [.Name x xp,.Name y yp] kk pp] e p) env) (Done W s₀ μ₀ Z nm env A k F ρ' s) No s:=
 ob h fun ds h1 h=>by
  have⟨a,b,e1,cx,cy,e2⟩: ∃a b,ds= [a,b]∧canB nm x=true∧canB nm y=true∧setV (setV ρ x .fr a) y .fr b=ρ':=by
   cases ds with
   |nil=>first|exact nf h|exact ns h|cases h
   |cons a ds=>
    refine ob h fun ω q2 h=> ?_
    refine dite_some q2 (fun cx q2=> ?_) fun q=>nomatch q
    cases q2
    cases ds with
    |nil=>first|exact nf h|exact ns h|cases h
    |cons b ds=>
     refine ob h fun ω q2 h=> ?_
     refine dite_some q2 (fun cy q2=> ?_) fun q=>nomatch q
     cases q2
     cases ds with
     |nil=>exact os h fun h=>⟨a,b,rfl,cx,cy,h⟩
     |cons=>first|exact nf h|exact ns h|cases h
  subst e1 e2
  have fin: ∀{s₁:Shared} {va vb:Value} (h':Heap),Stp W s s₁→Rep W s₁.heap (Mu env nm Z F) va a→Rep W s₁.heap (Mu env nm Z F) vb b→Heap.ExtBut s₁.heap.objs.size s₁.heap h'→
    wpAny (MD W) A (assignInOrder (([x,y]:List Str).reverse.map fun n=>bindName env n) [va,vb].reverse) (fun ω=>Done W s₀ μ₀ Z nm env A k F (setV (setV ρ x .fr a) y .fr b) s .next) No {s₁ with heap:=h'}:=fun{s₁ va vb} h' t ra rb hx=>
   have t2:Stp W s₁ {s₁ with heap:=h'}:= .keep (t:=s₁.toks) (fun b o q=>hx b o (Nat.ne_of_lt (Heap.lt_size q)) q) (Nat.le_refl _)
   have q:=f.at (t.trans t2)
   wpAny_mono (two_stores hxy q.f cx cy (ra.kept t2.kept) (rb.kept t2.kept)) (fun ω s₂ z=>⟨rfl,q.then z⟩) no
  exact asg_swapped hs hw (S.at_ hd f.cxt fun v s₁ t r=>(asSeq_inv h1).elim (fun q=>(q▸r:Rep W s₁.heap (Mu env nm Z F) v (.tup [a,b])).tup_elim fun T vs ω g1 g2=>g2.two_elim (P:=fun vs=>IsTup s₁.heap T vs.toArray→_) (fun va vb ra rb g1=>unpackItems_tuple (items:= #[va,vb]) f.room.handled g1 fun h'=>fin h' t ra rb) g1)
   fun q=>(q▸r:Rep W s₁.heap (Mu env nm Z F) v (.list [a,b])).list_elim fun T vs ω g1 g2=>g2.two_elim (P:=fun vs=>s₁.heap.IsList T vs.toArray→_) (fun va vb ra rb g1=>unpackItems_list (vs:=[va,vb]) f.room.handled g1 fun h'=>fin h' t ra rb) g1)
theorem isTupT_inv {e:Expr}(h:isTupT e=true): ∃vs k p,e= .Tuple vs k p:=by
 cases e with
 |Tuple=>exact⟨_,_,_,rfl⟩
 |_=>first|exact nf h|exact ns h|cases h
theorem plain_sound (S:EvS W k self)(K:StoreOk W C){ts:List Expr}{e:Expr}{p:Pos}(hs:swapsWithSole ts e p.line env=pure false)(h:sxPlain C self nm ρ ts e=some ρ')(f:Frm W s₀ μ₀ Z nm env A k F ρ s):
  wpAny (MD W) A (exec (.Assign ts e p) env) (Done W s₀ μ₀ Z nm env A k F ρ' s) No s:=
 ob h fun d hd h=>dite_both h (fun hc h=>ob h fun q h1 h=>oi h fun hq h9=>by
  cases ts with
  |nil=>first|exact nf h1|exact ns h1|cases h1
  |cons t r=>cases r with
   |cons=>first|exact nf h1|exact ns h1|cases h1
   |nil=>
    obtain⟨xp,yp,kk,pp,rfl⟩:=genG_inv h1
    have hc:=(Bool.and_eq_true_iff.mp hc).2
    have hq:=hq
    obtain⟨vs,k',p',rfl⟩:=isTupT_inv hc
    ·rcases stores_two (env:=env) (xp:=xp) (yp:=yp) (k:=kk) (p:=pp) (p':=p') (k':=k') hq.1 hq.2 with hw|hw
     ·exact straight_sound S K hs hw hd h9 f
     ·exact swap_sound S hq.1 hs hw hd (ob h9 fun ω q1 h=>os h fun h=>h▸q1) f) fun hc h=>straight_sound S K hs (stores_none (Bool.eq_false_iff.mpr hc) fun l p q=>by subst q;cases h) hd h f
end
end Mine
namespace Mine
open PySem PyProof.Rows
noncomputable def isLD:D→Bool
 | .list _=>true
 | .dict _=>true
 |_=>false
section
variable {W:Wd}{s₀ s s':Shared}{μ μ' μ₀ Z:Addr→Prop}{A:Around}{nm:Names}{ρ:Rho}{env:Env}{k:Nat}{F:Str→List Addr}{self:Ev}{C:Cfg}{h:Heap}{a:Addr}{d:D}{u:Value→Sem Unit}{Q:Shared→Prop}
theorem OwnAt.fr (o:OwnAt W h μ a d)(hd:isLD d=true)(hμ: ¬μ' a)(hm: ∀b,μ' b→μ b∨b=a):Rep W h μ' (.ref a) d:=match d,o,hd with
 | .list _,⟨_,g1,g2⟩,_=> .list hμ g1.isList (g2.mu fun b ω ω q=>hm b q)
 | .dict _,⟨_,g⟩,_=>g.frz hμ fun b ω ω q=>hm b q
theorem OwnAt.o1 (o:OwnAt W h μ a d)(hd:isLD d=true)(hm: ∀b,μ' b→μ b∨b=a):F1 W h μ' [a] (.ref a) d:=match d,o,hd with
 | .list _,⟨_,g1,g2⟩,_=> .list a _ _ rfl rfl rfl g1 (g2.mu fun b ω ω q=>hm b q)
 | .dict _,⟨_,g⟩,_=> .dict a _ _ rfl rfl rfl (g.mu fun b ω ω q=>hm b q)
structure Made (W:Wd)(s:Shared)(D:Addr)(s':Shared):Prop where
 d:s.heap.get? D=none
 l:s.heap.get? (D+1)=none
 t:Stp W s s'
 ns: ∃m,s'.heap.Ns (D+1) m
noncomputable def UseDo (W:Wd) (A:Around) (D:Addr) (u:Value→Sem Unit) (Q:Shared→Prop) (s':Shared):Prop:=
 wpAny (MD W) A (u (.ref D)) (fun ω s''=> ∃m,s''.heap.Ns (D+1) m∧ ∀h',Heap.SameBut (D+1) s''.heap h'→Q {s'' with heap:=h'}) No s'
noncomputable def UseAt (W:Wd) (A:Around) (μ:Addr→Prop) (s:Shared) (d:D) (u:Value→Sem Unit) (Q:Shared→Prop):Prop:=
 ∀D s',Made W s D s'→OwnAt W s'.heap (fun b=>μ b∨b=D+1) D d→UseDo W A D u Q s'
theorem UseDo.pure {V:Shared→Prop}(h:UseDo W A a u Q s)(q: ∀s,Q s→V s):wpAny (MD W) A (u (.ref a)) (fun ω s''=> ∃m,s''.heap.Ns (a+1) m∧ ∀h',Heap.SameBut (a+1) s''.heap h'→V {s'' with heap:=h'}) No s:=
 wpAny_mono h (fun ω ω z0=>by obtain⟨m,a,b⟩:=z0;exact⟨m,a,fun h' hs=>q _ (b h' hs)⟩) no
theorem use_list (S:EvS W k self)(P:Plain self)(G:GlobOk W C){elt:Expr}{scope:Scope}{pos:Pos}{gs:List Comprehension}(c:Cxt W nm env μ ρ A k s)
  (he:((gensE C self nm (mkV C self nm ρ) gs scope fun s n ρ=>s n ρ elt).map .list)=some d) (hu:UseAt W A μ s d u Q):
  wpAny (MD W) A (evalThenUse (.ListComp elt gs scope pos) env u) (fun ω=>Q) No s:=by
 cases gs with
 |nil=>first|exact nf he|exact ns he|cases he
 |cons g gs=>
  refine om he fun ys he e=>ob he fun its hit he=>oi he fun hok he=>ob he fun zs hce he=>oi he fun hlen he=> ?_
  cases he
  cases e
  have hg:=gens_sync (env:=env) (Bool.and_eq_true_iff.mp hok).2
  rw[arm_evalThenUse_ListComp]
  dsimp only
  rw[hg.1,hg.2]
  exact wpAny_bind (comp_expr S P G (use:=some u) (J:=JL W) (em:=fun D cenv=>do let _←call (.builtin "list.append") [.ref D,←eval elt cenv]) c rfl hok hit hce hlen jl_ok
   (newAcc:=newList []) (fun s Q ω h=>wpAny_newList (h {cls:= .type "list",data:= .seq ([]:List Value).toArray} (soft_cls fun q=>nomatch q) fun ν=>⟨[],⟨_,Heap.get?_push_size _ rfl⟩,.nil⟩))
   (fun D cenv=>compSem_list elt (g::gs) scope pos (.ref D) cenv) (fun D cenv=>jl_em S A _ D cenv) fun D s' z=>by
     obtain⟨vs,hl,r⟩:=z.j
     exact(hu D s' ⟨z.d,z.l,z.t,z.ns⟩ ⟨vs,hl,r.mu fun ω ω ω q=>q.elim (fun q=>q.imp id .inr) fun q=> .inr (.inl q)⟩).pure fun ω q=>wpAny_pure q)
theorem use_dict (S:EvS W k self)(P:Plain self)(G:GlobOk W C){kx vx:Expr}{scope:Scope}{pos:Pos}{gs:List Comprehension}(c:Cxt W nm env μ ρ A k s)
  (he:((gensE C self nm (mkV C self nm ρ) gs scope fun s n ρ=>kvE (s n ρ) kx vx).map fun kvs=>Mine.D.dict (kvs.foldl (fun a kv=>putK a kv.1 kv.2) []))=some d) (hu:UseAt W A μ s d u Q):
  wpAny (MD W) A (evalThenUse (.DictComp kx vx gs scope pos) env u) (fun ω=>Q) No s:=by
 cases gs with
 |nil=>first|exact nf he|exact ns he|cases he
 |cons g gs=>
  refine om he fun ys he e=>ob he fun its hit he=>oi he fun hok he=>ob he fun zs hce he=>oi he fun hlen he=> ?_
  cases he
  cases e
  have hg:=gens_sync (env:=env) (Bool.and_eq_true_iff.mp hok).2
  rw[arm_evalThenUse_DictComp]
  dsimp only
  rw[hg.1,hg.2]
  exact wpAny_bind (comp_expr S P G (use:=some u) (J:=JD W) (em:=fun D cenv=>emD kx vx cenv D) c rfl hok hit hce hlen jd_ok
   (newAcc:=newDict) (fun s Q ω h=>wpAny_bind (wpAny_alloc (wpAny_pure (h {cls:= .type "dict",data:= .dict #[]} (soft_dict rfl) fun ν=>⟨[],Heap.DictOf.new _,rfl,.nil⟩))))
   (fun D cenv=>compSem_dict kx vx (g::gs) scope pos D cenv) (fun D cenv=>jd_em S A _ D cenv) fun D s' z=>by
     obtain⟨vs,hl,he,r⟩:=z.j
     exact(hu D s' ⟨z.d,z.l,z.t,z.ns⟩ ⟨vs,new_sys c.inv z.d,hl,he,r.mu fun ω ω ω q=>q.elim (fun q=>q.imp id .inr) fun q=> .inr (.inl q)⟩).pure fun ω q=>wpAny_pure q)
theorem comp_use (K:CfgOk W C k){e:Expr}(he:isComp e=true): ∀{n:Nat},ev C n nm ρ e=some d→Cxt W nm env μ ρ A k s→UseAt W A μ s d u Q→wpAny (MD W) A (evalThenUse e env u) (fun ω=>Q) No s
 |0,h,_,_=>nomatch h
 |n+1,h,c,hu=>by
  cases e with
  |ListComp elt gs sc=>exact use_list (ev_sound K n) (ev_plain n) K.glob c h hu
  |DictComp kx vx gs sc=>exact use_dict (ev_sound K n) (ev_plain n) K.glob c h hu
  |SetComp=>first|exact nf h|exact ns h|cases h
  |_=>first|exact nf he|exact ns he|cases he
theorem comp_ld {e:Expr}(he:isComp e=true): ∀{n:Nat},ev C n nm ρ e=some d→isLD d=true
 |0,h=>nomatch h
 |n+1,h=>by
  cases e with
  |ListComp elt gs sc=>exact om h fun ω ω h=>h▸rfl
  |DictComp kx vx gs sc=>exact om h fun ω ω h=>h▸rfl
  |SetComp=>first|exact nf h|exact ns h|cases h
  |_=>first|exact nf he|exact ns he|cases he
theorem use_bind {x:Str}{px:Pos}{t:Tag}{G:List Addr}{D:Addr}(f:Frm W s₀ μ₀ Z nm env A k F ρ s)(hx:canB nm x=true)(z:Made W s D s')(hG: ∀a∈G,s.heap.get? a=none)(hL:D+1∉G)(r:RepF W s'.heap (fun a=>Mu env nm Z F a∨a∈G∨a=D+1) t G (.ref D) d)(ht:t≠ .oi):
  wpAny (MD W) A (assign (.Name x px) env (.ref D)) (fun ω s''=> ∃m,s''.heap.Ns (D+1) m∧ ∀h',Heap.SameBut (D+1) s''.heap h'→Done W s₀ μ₀ Z nm env A k F (setV ρ x t d) s .next {s'' with heap:=h'}) No s':=
 wpAny_mono (f.own z.t (L:=D+1) hG hx z.l hL r ht) (fun ω s'' q=>by obtain⟨m,o,es,ep,ho,y⟩:=z.ns;exact⟨m,⟨o,es,ep,q.l o ho,y⟩,fun h' hs=>⟨rfl,_,q.go h' fun b o e n=>hs.extBut b o n e⟩⟩) no
theorem use_sound (K:CfgOk W C k){n:Nat}{x:Str}{px p:Pos}{e:Expr}{t:Tag}(ht:t= .fr∨t= .o1)(hs:swapsWithSole [.Name x px] e p.line env=pure true)(he:isComp e=true)(h:ev C n nm ρ e=some d)(hx:canB nm x=true)
  (f:Frm W s₀ μ₀ Z nm env A k F ρ s):wpAny (MD W) A (exec (.Assign [.Name x px] e p) env) (Done W s₀ μ₀ Z nm env A k F (setV ρ x t d) s) No s:=
 asg_use hs (comp_use K he h f.cxt fun D s' z o=>
  show wpAny (MD W) A (assign (.Name x px) env (.ref D)) _ _ s' from ht.elim
   (fun e=>e▸use_bind (G:=[]) f hx z (fun ω q=>nomatch q) (fun q=>nomatch q) (.fr (o.fr (comp_ld he h) (fun q=>q.elim (off_mu f.mu z.d) fun q=>q.elim (fun q=>nomatch q) fun q=>Nat.succ_ne_self D q.symm) fun b q=> .inl (q.imp id fun q=>q.resolve_left fun q=>nomatch q))) (fun e=>nomatch e))
   fun e=>e▸use_bind (t:= .o1) (G:=[D]) f hx z (fun a q=>List.mem_singleton.mp q▸z.d) (fun q=>Nat.succ_ne_self D (List.mem_singleton.mp q)) (o.o1 (comp_ld he h) fun b q=>q.elim (fun q=> .inl (.inl q)) fun q=>q.elim (fun q=> .inr (List.mem_singleton.mp q)) fun q=> .inl (.inr q)) (fun e=>nomatch e))
theorem stores_name {x:Str}{px:Pos}{e:Expr}:swappedStores [.Name x px] e env=pure none:=rfl
theorem own_sound (S:EvS W k self){x:Str}{px p:Pos}{e:Expr}(hs:swapsWithSole [.Name x px] e p.line env=pure false)(he:freshE e d=true)(hl:isLD d=true)(h:self nm ρ e=some d)(hx:canB nm x=true)
  (f:Frm W s₀ μ₀ Z nm env A k F ρ s):wpAny (MD W) A (exec (.Assign [.Name x px] e p) env) (Done W s₀ μ₀ Z nm env A k F (setV ρ x .o1 d) s) No s:=
 asg_plain hs stores_name (wpAny_mono (S _ _ _ _ h _ _ _ _ f.cxt) (fun v s₁ y=>by
  obtain⟨a,rfl,hn,oa⟩:=y.f he
  exact wpAny_mono (f.own0 (t:= .o1) (p:=px) y.t (G:=[a]) (fun b q=>List.mem_singleton.mp q▸hn) hx (oa.o1 hl fun b q=>q.imp id List.mem_singleton.mp) (fun e=>nomatch e)) (fun ω s'' z=>⟨rfl,_,z⟩) no) no)
end
end Mine
namespace Mine
open PySem PyProof.Rows
theorem none_has {α:Type}{l:List (Str×α)}{x:Str}(h:x∉l.map (·.1)): ¬(l.any fun kv=>decide (kv.1=x))=true:=fun q=>by obtain⟨kv,h1,h2⟩:=List.any_eq_true.mp q;exact h (List.mem_map.mpr ⟨kv,h1,of_decide_eq_true h2⟩)
theorem putK_new {ds:List (Str×D)}{x:Str}{d:D}(h:x∉ds.map (·.1)):putK ds x d=ds++[(x,d)]:=if_neg (none_has h)
theorem stored_new {vals:List (Str×Value)}{x:Str}{v:Value}(h:x∉vals.map (·.1)):stored vals x v=vals++[(x,v)]:=if_neg (none_has h)
theorem app_nodup {xs ys:List (Str×D)}(h:((xs++ys).map (·.1)).Nodup):(xs.map (·.1)).Nodup∧ ∀k∈ys.map (·.1),k∉xs.map (·.1):=by
 rw[List.map_append] at h
 have q:=List.nodup_append.mp h
 exact⟨q.1,fun k a b=>q.2.2 k b k a rfl⟩
theorem foldK_nodup {xs:List (Str×D)}(h:(xs.map (·.1)).Nodup):foldK xs=xs:=by
 have: ∀(xs acc:List (Str×D)),((acc++xs).map (·.1)).Nodup→xs.foldl (fun a kv=>putK a kv.1 kv.2) acc=acc++xs:=by
  intro xs
  induction xs with
  |nil=>exact fun acc ω=>(List.append_nil acc).symm
  |cons x xs ih=>
   intro acc hn
   have h1:=(app_nodup hn).2 x.1 (.head _)
   rw[List.foldl_cons,putK_new h1,ih (acc++[x]) (by rw[List.append_assoc];exact hn),List.append_assoc]
   rfl
 exact this xs [] h
section
variable {W:Wd}{s₀ s s':Shared}{μ ν μ₀ Z:Addr→Prop}{A:Around}{nm:Names}{ρ:Rho}{env:Env}{k:Nat}{F:Str→List Addr}{self:Ev}{C:Cfg}{h h₁ h':Heap}{D b:Addr}{x:Str}
structure New0 (W:Wd)(s:Shared)(ν:Addr→Prop)(b:Addr)(h:Heap):Prop where
 mu: ¬ν b
 new:s.heap.get? b=none
 sys:b≠sysModules
 d:h.DictOf (SK W) b []
structure Bs (W:Wd)(s:Shared)(D:Addr)(ν:Addr→Prop)(bs:List Addr)(vals:List (Str×Value))(h:Heap):Prop where
 v:vals.map (·.2)=bs.map .ref
 nd:(D::bs).Nodup
 r: ∀b∈bs,New0 W s ν b h
structure J2 (W:Wd)(s:Shared)(D:Addr)(ν:Addr→Prop)(xs:List (Str×Mine.D))(h:Heap):Prop where
 st: ∃s₂,Stp W s s₂∧s₂.heap.objs.size=D
 all: ∀e∈xs,e.2= .dict []
 vs: ∃vals:List (Str×Value),h.DictOf (SK W) D vals∧vals.map (·.1)=(foldK xs).map (·.1)∧((xs.map (·.1)).Nodup→ ∃bs,Bs W s D ν bs vals h)
theorem dict_there {h:Heap}{a:Addr}{kvs:List (Str×Value)}(x:h.DictOf (SK W) a kvs): ∃o,h.get? a=some o∧ ¬Soft o:=by obtain⟨o,_,_,ho,_,hd,_⟩:=x;exact⟨o,ho,soft_dict hd⟩
theorem dict_ex {h:Heap}{a:Addr}{kvs:List (Str×Value)}(x:h.DictOf (SK W) a kvs): ∃o,h.get? a=some o:=by obtain⟨o,ho,_⟩:=dict_there x;exact⟨o,ho⟩
theorem j2_ok (s:Shared)(D:Addr):JOk D (J2 W s D) where
 keep:=fun ν xs h h' z0 k hd=>by obtain⟨q,l,vals,a,b,c⟩:=z0;exact⟨q,l,vals,(by obtain⟨o,es,ep,ho,r⟩:=a;exact⟨o,es,ep,hd o ho,r⟩),b,fun hn=>by obtain⟨bs,x⟩:=c hn;exact⟨bs,x.v,x.nd,fun b hb=>let z:=x.r b hb;⟨z.1,z.2,z.3,dictOf_at z.4 z.1 k⟩⟩⟩
 mu:=fun ν ν' xs h z1 k=>by obtain⟨q,l,vals,a,b,c⟩:=z1;exact⟨q,l,vals,a,b,fun hn=>by obtain⟨bs,x⟩:=c hn;exact⟨bs,x.v,x.nd,fun b hb=>let z:=x.r b hb;⟨fun p=>z.1 (by obtain⟨o,ho⟩:=dict_ex z.4;exact k b o ho p),z.2,z.3,z.4⟩⟩⟩
 there:=fun ν xs h z2=>by obtain⟨_,_,vals,a,_⟩:=z2;exact dict_there a
theorem set_keys {α:Type}(x:Str)(v:α)(l:List (Str×α)):(l.map fun kv=>if kv.1=x then(kv.1,v) else kv).map (·.1)=l.map (·.1):=by
 rw[List.map_map]
 refine List.map_congr_left fun kv ω=> ?_
 show(if kv.1=x then(kv.1,v) else kv).1=kv.1
 by_cases h:kv.1=x
 ·rw[if_pos h]
 ·rw[if_neg h]
theorem stored_keys {vals:List (Str×Value)}{ds:List (Str×Mine.D)}{v:Value}{d:Mine.D}(e:vals.map (·.1)=ds.map (·.1)):(stored vals x v).map (·.1)=(putK ds x d).map (·.1):=by
 unfold stored putK
 rw[any_keys e]
 by_cases q:(ds.any fun kv=>decide (kv.1=x))=true
 ·rw[if_pos q,if_pos q,set_keys,set_keys,e]
 ·rw[if_neg q,if_neg q,List.map_append,List.map_append,e]
  rfl
theorem j2_step {s₂:Shared}{xs:List (Str×Mine.D)}(j:J2 W s D ν xs h₁){vals:List (Str×Value)}(hD:h₁.DictOf (SK W) D vals)(he:vals.map (·.1)=(foldK xs).map (·.1))(hb:(xs.map (·.1)).Nodup→ ∃bs,Bs W s D ν bs vals h₁)
  (k:Kept h₁ s₂.heap) (i:Inv W s₂) (hν: ∀a,ν a→ ∃o,s₂.heap.get? a=some o) (hd:h'.DictOf (SK W) D (stored vals x (.ref s₂.heap.objs.size))) (hs:Heap.SameBut D (s₂.heap.push {cls:= .type "dict",data:= .dict #[]}) h'):
  J2 W s D ν (xs++[(x,.dict [])]) h':=by
 have kb:KeptBut (fun b=>b=D) (s₂.heap.push {cls:= .type "dict",data:= .dict #[]}) h':=fun b o e ω n=>hs.extBut b o n e
 have kk:Kept h₁ (s₂.heap.push {cls:= .type "dict",data:= .dict #[]}):=fun b o e n=>Kept.push _ _ b o (k b o e n) n
 have hbn:s₂.heap.get? s₂.heap.objs.size=none:=none_of_size (Nat.le_refl _)
 have old: ∀{a},(∃o,h₁.get? a=some o∧ ¬Soft o)→a≠s₂.heap.objs.size:=fun z3 q=>by obtain⟨o,e,n⟩:=z3;exact not_there hbn ⟨o,q▸k _ o e n⟩
 have hlt:D<s₂.heap.objs.size:=by obtain⟨o,e,n⟩:=dict_there hD;exact Heap.lt_size (k _ o e n)
 refine⟨j.st,fun e q=>(List.mem_append.mp q).elim (j.all e) fun q=>List.mem_singleton.mp q▸rfl,_,hd,foldK_snoc xs _▸stored_keys he,fun hn=> ?_⟩
 have hn1:=app_nodup hn
 obtain⟨bs,b⟩:=hb hn1.1
 have hx:x∉vals.map (·.1):=by rw[he,foldK_nodup hn1.1];exact hn1.2 x (.head _)
 refine⟨bs++[s₂.heap.objs.size],by rw[stored_new hx,List.map_append,List.map_append,b.v];rfl,?_,fun c q=>(List.mem_append.mp q).elim (fun q=> ?_) fun q=>List.mem_singleton.mp q▸ ?_⟩
 ·rw[←List.cons_append]
  exact List.nodup_append.mpr ⟨b.nd,List.nodup_cons.mpr ⟨(fun q=>nomatch q),List.nodup_nil⟩,fun a ha c hc e=>(List.mem_cons.mp ha).elim (fun q=>Nat.ne_of_lt hlt (q▸e.trans (List.mem_singleton.mp hc))) fun q=>old (dict_there (b.r a q).d) (e.trans (List.mem_singleton.mp hc))⟩
 ·have z:=b.r c q
  exact⟨z.mu,z.new,z.sys,dictOf_at (μ:=fun b=>b=D) (dictOf_kept z.d kk) (fun e=>(List.nodup_cons.mp b.nd).1 ((show c=D from e)▸q)) kb⟩
 ·obtain⟨s₁,t₁,hsz⟩:=j.st
  exact⟨fun q=>not_there hbn (hν _ q),t₁.grow.noneBack (none_of_size (hsz▸Nat.le_of_lt hlt)),fun e=>not_there hbn (e▸i.grow.there W.sys),dictOf_at (μ:=fun b=>b=D) (Heap.DictOf.new s₂.heap) (Nat.ne_of_gt hlt) kb⟩
theorem j2_em (S:EvS W k self)(s:Shared){kx:Expr}{p0:Pos}(hv: ∀nm ρ d,self nm ρ (.Dict [] [] p0)=some d→d= .dict [])(A:Around)(nmE:Names)(D:Addr)(cenv:Env):
  EmOk W k A nmE cenv D (J2 W s D) (fun ρ=>kvE (self nmE ρ) kx (.Dict [] [] p0)) (emD kx (.Dict [] [] p0) cenv D):=fun ν ρ a xs s hD ha c j hlen=>
 ob ha fun b h1 ha=>ob ha fun x hx ha=>om ha fun d h2 ha=>by
  obtain⟨vals,hd,he,hb⟩:=j.vs
  cases hv _ _ _ h2
  unfold emD
  refine wpAny_bind (S.at_ h1 c fun kv s₂ t1 r1=>wpAny_bind (wpAny_holding (wpAny_Dict_empty (wpAny_bind (wpAny_standAt (wpAny_holding ((asStr_inv hx▸r1:Rep W s₂.heap ν kv (.str x)).str_elim fun u=> ?_)))))))
  have t:=t1.trans (.push {cls:= .type "dict",data:= .dict #[]} s₂.toks)
  exact wpAny_dictSet_pairs (strKind_is PW W.w _ _) (dictOf_kept hd t.kept) (fun h' hd' hs=>⟨(mv_same (tk:=s₂.toks+1) (c.mu.step t.grow) hD hs (Nat.le_succ _)).first t,ha▸j2_step j hd he hb t1.kept (c.inv.step t1) (c.mu.step t1.grow).hi hd' hs⟩)
   (keys_len' he▸Nat.le_trans (foldK_length xs) (Nat.le_of_succ_le (Nat.le_trans hlen lim_le)))
theorem use_d2 (S:EvS W k self)(P:Plain self)(G:GlobOk W C){kx:Expr}{p0 pos:Pos}{scope:Scope}{gs:List Comprehension}{ys:List (Str×Mine.D)}{u:Value→Sem Unit}{Q:Shared→Prop}(hv: ∀nm ρ d,self nm ρ (.Dict [] [] p0)=some d→d= .dict [])(c:Cxt W nm env μ ρ A k s)
  (he:(gensE C self nm (mkV C self nm ρ) gs scope fun s n ρ=>kvE (s n ρ) kx (.Dict [] [] p0))=some ys) (hu: ∀D s',Made W s D s'→J2 W s D (fun b=>μ b∨b=D∨b=D+1) ys s'.heap→UseDo W A D u Q s'):
  wpAny (MD W) A (evalThenUse (.DictComp kx (.Dict [] [] p0) gs scope pos) env u) (fun ω=>Q) No s:=by
 cases gs with
 |nil=>first|exact nf he|exact ns he|cases he
 |cons g gs=>
  refine ob he fun its hit he=>oi he fun hok he=>ob he fun zs hce he=>oi he fun hlen he=> ?_
  cases he
  have hg:=gens_sync (env:=env) (Bool.and_eq_true_iff.mp hok).2
  rw[arm_evalThenUse_DictComp]
  dsimp only
  rw[hg.1,hg.2]
  exact wpAny_bind (comp_expr S P G (use:=some u) (J:=J2 W s) (em:=fun D cenv=>emD kx (.Dict [] [] p0) cenv D) c rfl hok hit hce hlen (j2_ok s)
   (newAcc:=newDict) (fun s₂ Q t h=>wpAny_bind (wpAny_alloc (wpAny_pure (h {cls:= .type "dict",data:= .dict #[]} (soft_dict rfl) fun ν=>⟨⟨s₂,t,rfl⟩,(fun ω q=>nomatch q),[],Heap.DictOf.new _,rfl,fun ω=>⟨[],rfl,List.nodup_cons.mpr ⟨(fun q=>nomatch q),List.nodup_nil⟩,fun ω q=>nomatch q⟩⟩))))
   (fun D cenv=>compSem_dict kx (.Dict [] [] p0) (g::gs) scope pos D cenv) (fun D cenv=>j2_em S s hv A _ D cenv) fun D s' z=>(hu D s' ⟨z.d,z.l,z.t,z.ns⟩ z.j).pure fun ω q=>wpAny_pure q)
theorem use_dict2 {x:Str}{px p:Pos}{e:Expr}{ys:List (Str×Mine.D)}(hs:swapsWithSole [.Name x px] e p.line env=pure true)(hnd:(ys.map (·.1)).Nodup)(hx:canB nm x=true)(f:Frm W s₀ μ₀ Z nm env A k F ρ s)
  (h: ∀(u:Value→Sem Unit) (Q:Shared→Prop),(∀D s',Made W s D s'→J2 W s D (fun b=>Mu env nm Z F b∨b=D∨b=D+1) ys s'.heap→UseDo W A D u Q s')→wpAny (MD W) A (evalThenUse e env u) (fun ω=>Q) No s):
  wpAny (MD W) A (exec (.Assign [.Name x px] e p) env) (Done W s₀ μ₀ Z nm env A k F (setV ρ x .o2 (.dict ys)) s) No s:=
 asg_use hs (h _ _ fun D s' z j=>by
  obtain⟨vals,hd,he,hb⟩:=j.vs
  obtain⟨bs,b⟩:=hb hnd
  exact use_bind (t:= .o2) (G:=D::bs) f hx z (fun a q=>(List.mem_cons.mp q).elim (fun q=>q▸z.d) fun q=>(b.r a q).new) (fun q=>(List.mem_cons.mp q).elim (Nat.succ_ne_self D) fun q=>(b.r _ q).mu (.inr (.inr rfl)))
   (.mk D vals ys bs rfl rfl rfl (new_sys f.inv z.d) hd (by rw[he,foldK_nodup hnd]) b.nd b.v fun i b0 d q1 q2=>by
     have y:=b.r b0 (List.mem_of_getElem? q1)
     obtain⟨e,h1,h2⟩:=List.mem_map.mp (List.mem_of_getElem? q2)
     exact⟨[],[],h2▸j.all e h1,y.sys,y.d,rfl,.nil⟩) (fun e=>nomatch e))
structure Two (W:Wd)(s:Shared)(μ:Addr→Prop)(x:Str)(a b:Addr)(s':Shared):Prop where
 t:Stp W s s'
 na:s.heap.get? a=none
 nb:s.heap.get? b=none
 r:F2 W s'.heap (fun y=>μ y∨y∈ [a,b]) [a,b] (.ref a) (.dict [(x,.dict [])])
theorem dict2_eval (S:EvS W k self){ke:Expr}{p p1:Pos}(h1:self nm ρ ke=some (.str x))(c:Cxt W nm env μ ρ A k s):
  wpAny (MD W) A (eval (.Dict [some ke] [.Dict [] [] p1] p) env) (fun v s'=> ∃a b,v= .ref a∧Two W s μ x a b s') No s:=by
 refine wpAny_Dict_pairs (knd:=SK W) (pairs:=[(eval ke env,do let y←eval (.Dict [] [] p1) env;standAt p;pure y)]) rfl (fun z=>nomatch z) (Nat.le_of_ble_eq_true rfl) ?_
 have t0:Stp W s {s with heap:=s.heap.push {cls:= .type "dict",data:= .dict #[]}}:= .push _ _
 have c0:=c.more (μ':=fun b=>μ b∨b=s.heap.objs.size) t0 fun a q=>q.imp id fun(e:a=s.heap.objs.size)=>e▸⟨none_of_size (Nat.le_refl _),_,Heap.get?_push_size _ rfl⟩
 refine evalPairs_cons (S.at_ h1 c0 fun kv s₁ t1 r1=>wpAny_bind (wpAny_Dict_empty (wpAny_bind (wpAny_standAt (wpAny_pure (evalPairs_nil (r1.str_elim fun t=> ?_)))))))
 have t2:Stp W s₁ {s₁ with heap:=s₁.heap.push {cls:= .type "dict",data:= .dict #[]}}:= .push _ _
 refine⟨[(x,.ref s₁.heap.objs.size)],⟨strKind_is PW W.w _ _,rfl,trivial⟩,dictOf_kept (Heap.DictOf.new s.heap) (t1.trans t2).kept,fun h' hd hs=> ?_⟩
 have hd:h'.DictOf (SK W) s.heap.objs.size [(x,.ref s₁.heap.objs.size)]:=hd
 have old: ∀b o,(s₁.heap.push {cls:= .type "dict",data:= .dict #[]}).get? b=some o→b≠s.heap.objs.size→h'.get? b=some o:=fun b o e n=>hs.extBut b o n e
 have hbn:s₁.heap.get? s₁.heap.objs.size=none:=none_of_size (Nat.le_refl _)
 have hab:s₁.heap.objs.size≠s.heap.objs.size:=fun e=>not_there hbn (e▸t1.there ⟨_,Heap.get?_push_size _ rfl⟩)
 exact⟨_,_,rfl,(t0.trans (t1.trans t2)).but (tk:=s₁.toks+1) (fun b o e x=>old b o e (Nat.ne_of_lt (Heap.lt_size x.choose_spec))) (Nat.le_succ _),none_of_size (Nat.le_refl _),(t0.trans t1).grow.noneBack hbn,
  .mk _ _ _ _ rfl rfl rfl c.inv.sys hd rfl (List.nodup_cons.mpr ⟨fun q=>hab (List.mem_singleton.mp q).symm,List.nodup_cons.mpr ⟨(fun q=>nomatch q),List.nodup_nil⟩⟩) rfl fun i b d q1 q2=>match i,q1,q2 with
    |0,q1,q2=>⟨[],[],(Option.some.inj q2).symm,Option.some.inj q1▸(c0.step t1).inv.sys,Option.some.inj q1▸dictOf_at (μ:=fun b=>b=s.heap.objs.size) (Heap.DictOf.new s₁.heap) hab (fun b o e ω n=>old b o e n),rfl,.nil⟩
    |_+1,q1,_=>nomatch q1⟩
end
end Mine
namespace Mine
open PySem PyProof.Rows
section
variable {W:Wd}{s₀ s:Shared}{μ ν μ₀ Z:Addr→Prop}{A:Around}{nm:Names}{ρ:Rho}{env:Env}{k:Nat}{F:Str→List Addr}{self:Ev}{C:Cfg}{h h':Heap}{a a':Addr}{x:Str}{v:Value}
theorem F2.snoc {bs:List Addr}{kvs inner:List (Str×D)}{kv:List (Str×Value)}(n:a≠sysModules)(hd':h'.DictOf (SK W) a (kv++[(x,.ref a')]))(hk:kv.map (·.1)=kvs.map (·.1))(nd:(a::bs).Nodup)(b:kv.map (·.2)=bs.map .ref)
  (r: ∀(i:Nat) b d,bs[i]?=some b→(kvs.map (·.2))[i]?=some d→ ∃kv' ds',d= .dict ds'∧IsD W h ν b kv' ds') (new: ∀b∈a::bs,b≠a') (k0:KeptBut (fun b=>b=a) h h') (hν:ν a) {ki:List (Str×Value)} (y:IsD W h ν a' ki inner):
  F2 W h' ν (a::(bs++[a'])) (.ref a) (.dict (kvs++[(x,.dict inner)])):=by
 have up: ∀{c kv' ds'},c≠a→IsD W h ν c kv' ds'→IsD W h' ν c kv' ds':=fun n z=>⟨z.1,dictOf_at z.2 n k0,z.3,z.4.but fun b o e p q=>k0 b o e p fun(e:b=a)=>q (e▸hν)⟩
 refine .mk a _ _ _ rfl rfl rfl n hd' (by rw[List.map_append,List.map_append,hk];rfl) ?_ (by rw[List.map_append,List.map_append,b];rfl) fun j c d p1 p2=> ?_
 ·rw[←List.cons_append]
  exact List.nodup_append.mpr ⟨nd,List.nodup_cons.mpr ⟨(fun q=>nomatch q),List.nodup_nil⟩,fun b hb c hc e=>new b hb (e.trans (List.mem_singleton.mp hc))⟩
 ·have hl:bs.length=(kvs.map (·.2)).length:=(F2.len hk b).trans (List.length_map _).symm
  rw[List.map_append] at p2
  by_cases hj:j<bs.length
  ·rw[List.getElem?_append_left hj] at p1
   rw[List.getElem?_append_left (hl▸hj)] at p2
   obtain⟨y1,y2,y3,y4⟩:=r j c d p1 p2
   exact⟨y1,y2,y3,up (fun e=>(List.nodup_cons.mp nd).1 (e▸List.mem_of_getElem? p1)) y4⟩
  ·have hj:=Nat.le_of_not_lt hj
   rw[List.getElem?_append_right hj] at p1
   rw[List.getElem?_append_right (hl▸hj),←hl] at p2
   generalize j - bs.length=m at p1 p2
   cases m with
   |zero=>
    cases Option.some.inj p1
    cases Option.some.inj p2
    exact⟨ki,inner,rfl,up (fun e=>new a (.head _) e.symm) y⟩
   |succ=>first|exact nf p1|exact ns p1|cases p1
theorem no_key {kv:List (Str×Value)}{kvs:List (Str×D)}(hk:kv.map (·.1)=kvs.map (·.1))(hn:getK kvs x=none):x∉kv.map (·.1):=fun q=>by
 rw[hk] at q
 obtain⟨kv,h1,h2⟩:=List.mem_map.mp q
 exact List.find?_eq_none.mp (Option.map_eq_none_iff.mp hn) kv h1 (decide_eq_true h2)
theorem swaps_sub {o i e:Expr}{ip:Pos}{n:Nat}:swapsWithSole [.Subscript o i ip] e n env=pure false:=by
 cases swaps_cases (env:=env) [.Subscript o i ip] e n with
 |yes x px h=>first|exact nf h|exact ns h|cases h
 |no h=>exact h
theorem stores_sub {o i e:Expr}{ip:Pos}:swappedStores [.Subscript o i ip] e env=pure none:=rfl
theorem store2_sound (S:EvS W k self){xp ip p:Pos}{i e:Expr}{kvs inner:List (Str×D)}{k':Str}(hx:lk ρ x=some (.o2,.dict kvs))(he:self nm ρ e=some (.dict inner))(hi:self nm ρ i=some (.str k'))(hf:freshE e (.dict inner)=true)
  (hn:getK kvs k'=none) (hl:kvs.length≤lim) (f:Frm W s₀ μ₀ Z nm env A k F ρ s):
  wpAny (MD W) A (exec (.Assign [.Subscript (.Name x xp) i ip] e p) env) (Done W s₀ μ₀ Z nm env A k F (setV ρ x .o2 (.dict (kvs++[(k',.dict inner)]))) s) No s:=
 asg_plain swaps_sub stores_sub (wpAny_mono (S _ _ _ _ he _ _ _ _ f.cxt) (fun v s₁ y=>by
  have⟨a',e,hnew,ki,oa⟩:=y.f hf
  subst e
  show wpAny (MD W) A (assign (.Subscript (.Name x xp) i ip) env (.ref a')) _ _ s₁
  have hd:=lk_dbg hx
  obtain⟨u,hu,a,kv',ds,bs,hG,e1,e2,n,q2,q3,nd,hbs,q4⟩:=f.see x _ _ hd.2
  cases e1
  cases e2
  refine asg_sub (wpAny_Name (load_held f.ok (hu.kept y.t.kept) (S.at_ hi (f.cxt.step y.t) fun iv s₂ t2 ri=>ri.str_elim fun tk=> ?_)) hd.1)
  have t:=y.t.trans t2
  refine wpAny_setItem_pairs (strKind_is PW W.w _ _) (dictOf_kept q2 t.kept) (fun h' hd' hs=> ?_) (keys_len' q3▸Nat.le_trans hl lim_le)
  rw[stored_new (no_key q3 hn)] at hd'
  have hk: ∀b o,s₂.heap.get? b=some o→b∉F x→h'.get? b=some o:=fun b o e n=>hs.extBut b o (fun z=>n (hG▸z▸ .head _)) e
  have inG: ∀b,b∈a::(bs++[a'])→b∈F x∨b=a':=fun b hb=>(List.mem_cons.mp hb).elim (fun q=> .inl (hG▸q▸ .head _)) fun q=>(List.mem_append.mp q).imp (fun q=>hG▸ .tail _ q) List.mem_singleton.mp
  have back: ∀b o,s.heap.get? b=some o→(Mu env nm Z F b∨b∈a::(bs++[a']))→Mu env nm Z F b:=fun b o e q=>q.elim id fun q=>(inG b q).elim (fun q=> .inr (.inr ⟨x,q⟩)) fun q=>nomatch (q▸hnew:s.heap.get? b=none).symm.trans e
  exact⟨rfl,_,f.add t (G:=a::(bs++[a'])) (tk:=s₂.toks+1) (t:= .o2) (ht:=Nat.le_succ _) hu (fun b hb=>(inG b hb).imp id fun(q:b=a')=>q▸hnew) hk
   (F2.snoc (h:=s₂.heap) n hd' q3 nd hbs (fun j b d p1 p2=>by obtain⟨y1,y2,y3,y4⟩:=q4 j b d p1 p2;exact⟨y1,y2,y3,(y4.mu back).kept t.kept⟩) (fun b hb q=>not_there hnew (q▸f.exF x b (hG▸hb))) (fun b o e ω n=>hs.extBut b o n e) (.inr (.head _))
     ((oa.mu fun b o e q=>q.elim (fun q=> .inl q) fun q=>(inG b q).imp (fun q=> .inr (.inr ⟨x,q⟩)) id).kept t2.kept)) (fun e=>nomatch e)⟩) no)
end
end Mine
namespace Mine
open PySem PyProof.Rows
noncomputable def isNil {α:Type}:List α→Bool
 | []=>true
 |_::_=>false
theorem isNil_inv {α:Type}{l:List α}(h:isNil l=true):l= []:=match l,h with
 | [],_=>rfl
noncomputable def emptyD:Expr→Bool
 | .Dict ks vs _=>isNil ks&&isNil vs
 |_=>false
theorem emptyD_inv {e:Expr}(h:emptyD e=true): ∃p,e= .Dict [] [] p:=by
 cases e with
 |Dict ks vs p=>
  have h:=Bool.and_eq_true_iff.mp h
  cases isNil_inv h.1
  cases isNil_inv h.2
  exact⟨p,rfl⟩
 |_=>first|exact nf h|exact ns h|cases h
noncomputable def own1 (E:Ev) (nm:Names) (ρ:Rho) (x:Str) (e:Expr):Option Rho:=(E nm ρ e).bind fun d=>iteO (freshE e d=true∧isLD d=true) (some (setV ρ x .o1 d))
noncomputable def ownD (E:Ev) (nm:Names) (ρ:Rho) (x:Str) (k:Option Expr) (v:Expr):Option Rho:=k.bind fun k=>iteO (emptyD v=true) ((E nm ρ k).bind fun d=>(asStr d).map fun k=>setV ρ x .o2 (.dict [(k,.dict [])]))
noncomputable abbrev localN (nm:Names) (sc:Scope) (x:Str):Prop:=nm.lookup x=some .local∧(sc.names.any fun(n,k)=>n==x&&(k== .local||k== .cell))=false
noncomputable def own2 (C:Cfg) (E:Ev) (nm:Names) (ρ:Rho) (x:Str) (px:Pos):Expr→Option Rho
 | .Dict ks vs _=>match ks with
   | []=>none
   |k::r=>match r with
    |_::_=>none
    | []=>match vs with
      | []=>none
      |v::r=>match r with
       |_::_=>none
       | []=>ownD E nm ρ x k v
 | .DictComp kx vx gs sc pos=>iteO (emptyD vx=true∧px.line=pos.line∧localN nm sc x) ((gensE C E nm (mkV C E nm ρ) gs sc fun s n ρ=>kvE (s n ρ) kx vx).bind fun ys=>iteO ((ys.map (·.1)).Nodup) (some (setV ρ x .o2 (.dict ys))))
 |_=>none
noncomputable def own12 (C:Cfg) (E:Ev) (nm:Names) (ρ:Rho) (x:Str) (px:Pos) (e:Expr):Tag→Option Rho
 | .o1=>own1 E nm ρ x e
 | .o2=>own2 C E nm ρ x px e
 |_=>none
noncomputable def ownT (C:Cfg) (E:Ev) (nm:Names) (ρ:Rho) (e:Expr) (t:Tag) {tx:Expr}:View tx→Option Rho
 | .name x px=>iteO (canB nm x=true) (own12 C E nm ρ x px e t)
 |_=>none
noncomputable def o2V (ρ:Rho) {t:Expr}:View t→Option (Str×Expr×List (Str×D))
 | .sub o i _=>(nameOf o).bind fun x=>(o2? ρ x).bind fun d=>(asDict d).map fun kvs=>(x,i,kvs)
 |_=>none
noncomputable def lone (ts:List Expr):Option Expr:=match ts with
 | []=>none
 |t::r=>match r with
  | []=>some t
  |_::_=>none
noncomputable def store2 (E:Ev) (nm:Names) (ρ:Rho) (e:Expr) (q:Str×Expr×List (Str×D)):Option Rho:=(E nm ρ e).bind fun d=>(asDict d).bind fun inner=>(E nm ρ q.2.1).bind fun i=>(asStr i).bind fun k=>
 iteO (freshE e d=true∧getK q.2.2 k=none∧q.2.2.length≤lim) (some (setV ρ q.1 .o2 (.dict (q.2.2++[(k,d)]))))
noncomputable def asgN (C:Cfg) (E:Ev) (nm:Names) (ρ:Rho) (ts:List Expr) (e:Expr):Option (Str×Expr×List (Str×D))→Option Rho
 |some q=>store2 E nm ρ e q
 |none=>sxPlain C E nm ρ ts e
noncomputable def asgO (C:Cfg) (E:Ev) (nm:Names) (ρ:Rho) (ts:List Expr) (e:Expr):Option Tag→Option Rho
 |none=>asgN C E nm ρ ts e ((lone ts).bind fun t=>o2V ρ (view t))
 |some t=>(lone ts).bind fun tx=>ownT C E nm ρ e t (view tx)
noncomputable def sxAssign (C:Cfg) (E:Ev) (nm:Names) (ρ:Rho) (ts:List Expr) (e:Expr) (p:Pos):Option Rho:=asgO C E nm ρ ts e (C.own p.line)
theorem lone_inv {ts:List Expr}{t:Expr}(h:lone ts=some t):ts= [t]:=match ts,h with
 | [_],h=>Option.some.inj h▸rfl
 | [],h=>nomatch h
 |_::_::_,h=>nomatch h
section
variable {W:Wd}{s₀ s:Shared}{μ₀ Z:Addr→Prop}{A:Around}{nm:Names}{ρ ρ':Rho}{env:Env}{k:Nat}{F:Str→List Addr}{C:Cfg}{n:Nat}{x:Str}{px p:Pos}{e:Expr}{ts:List Expr}
theorem ev_dict0 (p0:Pos): ∀(n:Nat) (nm:Names) (ρ:Rho) (d:D),ev C n nm ρ (.Dict [] [] p0)=some d→d= .dict []
 |0,_,_,_,h=>nomatch h
 |_+1,_,_,_,h=>(Option.some.inj h).symm
theorem plain_any (K:CfgOk W C k)(KS:StoreOk W C)(h:sxPlain C (ev C n) nm ρ ts e=some ρ')(f:Frm W s₀ μ₀ Z nm env A k F ρ s):
  wpAny (MD W) A (exec (.Assign ts e p) env) (Done W s₀ μ₀ Z nm env A k F ρ' s) No s:=by
 cases swaps_cases (env:=env) ts e p.line with
 |yes x px ht he hs=>
  subst ht
  exact ob h fun d hd h=>ob h fun ρ₁ h1 h=>os h fun h=>dite_both h1 (fun hc h1=>os h1 fun h1=>h▸h1▸use_sound K (.inl rfl) hs he hd hc f) fun ω h1=>nomatch h1
 |no hs=>exact plain_sound (ev_sound K n) KS hs h f
theorem own1_sound (K:CfgOk W C k)(h:own1 (ev C n) nm ρ x e=some ρ')(hc:canB nm x=true)(f:Frm W s₀ μ₀ Z nm env A k F ρ s):
  wpAny (MD W) A (exec (.Assign [.Name x px] e p) env) (Done W s₀ μ₀ Z nm env A k F ρ' s) No s:=
 ob h fun d hd h=>oi h fun hf h=>os h fun h=>h▸by
  cases swaps_cases (env:=env) [.Name x px] e p.line with
  |yes _ _ _ he hs=>exact use_sound K (.inr rfl) hs he hd hc f
  |no hs=>exact own_sound (ev_sound K n) hs hf.1 hf.2 hd hc f
theorem swaps_no {e:Expr}(h:isComp e=false):swapsWithSole [.Name x px] e p.line env=pure false:=by
 cases swaps_cases (env:=env) [.Name x px] e p.line with
 |yes _ _ _ he _=>exact nomatch he.symm.trans h
 |no hs=>exact hs
theorem ownD_sound (K:CfgOk W C k){ko:Option Expr}{v:Expr}{pd:Pos}(h:ownD (ev C n) nm ρ x ko v=some ρ')(hc:canB nm x=true)(f:Frm W s₀ μ₀ Z nm env A k F ρ s):
  wpAny (MD W) A (exec (.Assign [.Name x px] (.Dict [ko] [v] pd) p) env) (Done W s₀ μ₀ Z nm env A k F ρ' s) No s:=
 ob h fun ke hk h=>oi h fun hv h=>ob h fun d hd h=>om h fun y hy hz=>by
  obtain⟨p0,rfl⟩:=emptyD_inv hv
  subst hk hz
  cases asStr_inv hy
  exact asg_plain (swaps_no rfl) stores_name (wpAny_mono (dict2_eval (ev_sound K n) hd f.cxt) (fun v s₁ z0=>by obtain⟨a,b,e,z⟩:=z0;exact e▸wpAny_mono (f.own0 (t:= .o2) (p:=px) z.t (G:=[a,b]) (fun c q=>(List.mem_cons.mp q).elim (fun q=>q▸z.na) fun q=>List.mem_singleton.mp q▸z.nb) hc z.r (fun e=>nomatch e)) (fun ω s'' z=>⟨rfl,_,z⟩) no) no)
theorem own2_sound (K:CfgOk W C k)(h:own2 C (ev C n) nm ρ x px e=some ρ')(hc:canB nm x=true)(f:Frm W s₀ μ₀ Z nm env A k F ρ s):
  wpAny (MD W) A (exec (.Assign [.Name x px] e p) env) (Done W s₀ μ₀ Z nm env A k F ρ' s) No s:=by
 cases e with
 |Dict ks vs pd=>cases ks with
  |nil=>first|exact nf h|exact ns h|cases h
  |cons k r=>cases r with
   |cons=>first|exact nf h|exact ns h|cases h
   |nil=>cases vs with
    |nil=>first|exact nf h|exact ns h|cases h
    |cons v r=>cases r with
     |cons=>first|exact nf h|exact ns h|cases h
     |nil=>exact ownD_sound K h hc f
 |DictComp kx vx gs sc pos=>
  refine oi h fun hq h=>ob h fun ys hy h=>oi h fun hn h=>os h fun h=>h▸ ?_
  obtain⟨p0,rfl⟩:=emptyD_inv hq.1
  have hs:swapsWithSole [.Name x px] (.DictComp kx (.Dict [] [] p0) gs sc pos) p.line env=pure true:=by
   show(pure (env.blockKind== .function&&env.kindOf x==some .local&&px.line==pos.line&& !(sc.names.any fun(n,k)=>n==x&&(k== .local||k== .cell))):Sem Bool)=pure true
   have h1:env.blockKind= .function:=by unfold Env.blockKind;rw[f.lay.kind];rfl
   rw[h1,f.lay.loc x hq.2.2.1,hq.2.1,hq.2.2.2,beq_self_eq_true pos.line]
   rfl
  exact use_dict2 hs hn hc f fun u Q hu=>use_d2 (ev_sound K n) (ev_plain n) K.glob (fun nm ρ d h=>ev_dict0 p0 n nm ρ d h) f.cxt hy hu
 |_=>first|exact nf h|exact ns h|cases h
theorem o2_inv {x:Str}{d:D}(h:o2? ρ x=some d):lk ρ x=some (.o2,d):=ob h fun q h1 h2=>by
 obtain⟨t,d'⟩:=q
 cases t with
 |o2=>exact os h2 fun h2=>h2▸h1
 |_=>first|exact nf h2|exact ns h2|cases h2
theorem store2_ok (K:CfgOk W C k){q:Str×Expr×List (Str×D)}{t:Expr}(ht:o2V ρ (view t)=some q)(h:store2 (ev C n) nm ρ e q=some ρ')(f:Frm W s₀ μ₀ Z nm env A k F ρ s):
  wpAny (MD W) A (exec (.Assign [t] e p) env) (Done W s₀ μ₀ Z nm env A k F ρ' s) No s:=by
 generalize view t=w at ht
 cases w with
 |sub o i ip=>
  refine ob ht fun x hx ht=>ob ht fun d hd ht=>om ht fun kvs hk ht=> ?_
  subst ht
  obtain⟨xp,rfl⟩:=nameOf_inv hx
  exact ob h fun d' he h=>ob h fun inner hin h=>ob h fun i' hi h=>ob h fun k' hk' h=>oi h fun hq h=>os h fun hz=>by
   cases asDict_inv hin
   cases asDict_inv hk
   cases asStr_inv hk'
   exact hz▸store2_sound (ev_sound K n) (o2_inv hd) he hi hq.1 hq.2.1 hq.2.2 f
 |_=>first|exact nf ht|exact ns ht|cases ht
theorem assign_sound (K:CfgOk W C k)(KS:StoreOk W C)(h:sxAssign C (ev C n) nm ρ ts e p=some ρ')(f:Frm W s₀ μ₀ Z nm env A k F ρ s):
  wpAny (MD W) A (exec (.Assign ts e p) env) (Done W s₀ μ₀ Z nm env A k F ρ' s) No s:=by
 unfold sxAssign at h
 cases ho:C.own p.line with
 |none=>
  rw[ho] at h
  have h:asgN C (ev C n) nm ρ ts e ((lone ts).bind fun t=>o2V ρ (view t))=some ρ':=h
  cases hq:(lone ts).bind fun t=>o2V ρ (view t) with
  |none=>rw[hq] at h;exact plain_any K KS h f
  |some q=>
   rw[hq] at h
   exact ob hq fun t h1 h2=>lone_inv h1▸store2_ok K h2 h f
 |some t=>
  rw[ho] at h
  refine ob h fun tx h1 h=>lone_inv h1▸ ?_
  generalize view tx=w at h
  cases w with
  |name x px=>exact oi h fun hc h=>match t,h with
   | .o1,h=>own1_sound K h hc f
   | .o2,h=>own2_sound K h hc f
   | .fr,h=>nomatch h
   | .oi,h=>nomatch h
  |_=>first|exact nf h|exact ns h|cases h
end
end Mine
namespace Mine
open PySem PyProof.Rows
noncomputable def appL (d:D):D→Option D
 | .list ds=>iteO (ds.length≤lim) (some (.list (ds++[d])))
 |_=>none
noncomputable def appF (E:Ev) (nm:Names) (ρ:Rho) (as:List Expr) (p:Pos) {f:Expr}:View f→Option Rho
 | .attr o m ap=>(nameOf o).bind fun x=>iteO (m= "append" ∧ap.endLine=p.line) ((lk ρ x).bind fun q=>(tagW q).bind fun l=>(lone as).bind fun a=>(E nm ρ a).bind fun d=>(appL d l).map fun e=>setV ρ x .o1 e)
 |_=>none
noncomputable def appV (E:Ev) (nm:Names) (ρ:Rho) {e:Expr}:View e→Option Rho
 | .call f as kw p=>iteO (isNil kw=true) (appF E nm ρ as p (view f))
 |_=>none
noncomputable def stepV (C:Cfg) (E:Ev) (self:Ex) (nm:Names) (ρ:Rho):Stmt→Option Out
 | .Return e _=>e.bind fun e=>(E nm ρ e).map .ret
 | .Assign ts e p=>(sxAssign C E nm ρ ts e p).map .next
 | .Expr e _=>(appV E nm ρ (view e)).map .next
 | .If t b o _=>(tstE (E nm ρ) 8 t).bind fun c=>exList self nm ρ (if c then b else o)
 | .For t it b o _=>iteO (isNil o=true) ((iterE E C nm ρ t it).bind fun items=>exFor self nm t b ρ items)
 | .Break _=>some (.brk ρ)
 | .Try b _ o f _=>iteO (isNil o=true∧isNil f=true) (exList self nm ρ b)
 |_=>none
noncomputable def sxStep (C:Cfg) (E:Ev) (self:Ex):Ex:=fun nm ρ st=>stepV C E self nm (frzR ρ (C.frz st.pos.line)) st
noncomputable def sx (C:Cfg) (E:Ev):Nat→Ex
 |0=>fun ω ω ω=>none
 |n+1=>sxStep C E (sx C E n)
section
variable {W:Wd}{s₀ s s' s'':Shared}{μ₀ Z:Addr→Prop}{A:Around}{nm:Names}{ρ ρ':Rho}{env:Env}{k:Nat}{F F':Str→List Addr}{C:Cfg}{self:Ex}{fl:Flow}
noncomputable def OutOk (W:Wd) (s₀:Shared) (μ₀ Z:Addr→Prop) (nm:Names) (env:Env) (A:Around) (k:Nat) (F:Str→List Addr) (s:Shared) (out:Out) (fl:Flow) (s':Shared):Prop:=match out with
 | .next ρ'=>fl= .next∧Nxt W s₀ μ₀ Z nm env A k F ρ' s s'
 | .brk ρ'=>fl= .brk∧Nxt W s₀ μ₀ Z nm env A k F ρ' s s'
 | .ret d=> ∃v,fl= .ret v∧Stp W s₀ s'∧Rep W s'.heap μ₀ v d
noncomputable def ExS (W:Wd) (k:Nat) (self:Ex):Prop:=
 ∀nm ρ st out,self nm ρ st=some out→ ∀s₀ μ₀ Z env A F s,Frm W s₀ μ₀ Z nm env A k F ρ s→wpAny (MD W) A (exec st env) (OutOk W s₀ μ₀ Z nm env A k F s out) No s
theorem Nxt.first (m:Moved W env nm F F' s s')(h:Nxt W s₀ μ₀ Z nm env A k F' ρ' s' s''):Nxt W s₀ μ₀ Z nm env A k F ρ' s s'':=by obtain⟨G,a⟩:=h;exact⟨G,a.f,m.trans a.m⟩
theorem OutOk.first {out:Out}(m:Moved W env nm F F' s s')(h:OutOk W s₀ μ₀ Z nm env A k F' s' out fl s''):OutOk W s₀ μ₀ Z nm env A k F s out fl s'':=match out,h with
 | .next _,h=>⟨h.1,h.2.first m⟩
 | .brk _,h=>⟨h.1,h.2.first m⟩
 | .ret _,h=>h
theorem stms_sound (S:ExS W k self): ∀(sts:List Stmt) (ρ:Rho) (out:Out) (F:Str→List Addr) (s:Shared),exList self nm ρ sts=some out→Frm W s₀ μ₀ Z nm env A k F ρ s→wpAny (MD W) A (execs sts env) (OutOk W s₀ μ₀ Z nm env A k F s out) No s
 | [],ρ,out,F,s,h,f=>os h fun h=>h▸wpAny_execs_nil ⟨rfl,F,f,f.refl⟩
 |st::sts,ρ,out,F,s,h,f=>ob h fun o h1 h=>wpAny_execs_cons (wpAny_mono (S _ _ _ _ h1 _ _ _ _ _ _ _ f) (fun fl s' z=>match o,h,z with
  | .next ρ',h,⟨e,F',a⟩=>e▸wpAny_mono (stms_sound S sts ρ' out F' s' h a.f) (fun fl s'' z=>z.first a.m) no
  | .brk ρ',h,z=>os h fun h=>h▸z.1▸⟨rfl,z.2⟩
  | .ret d,h,⟨v,e,q⟩=>os h fun h=>h▸e▸⟨v,rfl,q⟩) no)
theorem append_sound {n:Nat}(K:CfgOk W C k){x:Str}{xp ap cp p:Pos}{a:Expr}{d l e:D}(hl:ap.endLine=cp.line)(hx:lk ρ x=some (.o1,l))(ha:ev C n nm ρ a=some d)(hd:appL d l=some e)(f:Frm W s₀ μ₀ Z nm env A k F ρ s):
  wpAny (MD W) A (exec (.Expr (.Call (.Attribute (.Name x xp) "append" ap) [a] [] cp) p) env) (Done W s₀ μ₀ Z nm env A k F (setV ρ x .o1 e) s) No s:=by
 have hi:interactive env=false:=by unfold interactive;rw[f.lay.kind];rfl
 have S:=ev_sound K n
 have h2:mapO (ev C n nm ρ) [a]=some [d]:=by
  show(ev C n nm ρ a).bind _=_
  rw[ha];rfl
 have pl:=star_eq (env:=env) (ev_plain (C:=C) n) h2
 rw[arm_exec_Expr,hi]
 refine wpAny_bind (wpAny_standAt ?_)
 rw[if_neg (by decide)]
 show wpAny (MD W) A (do if←(pure false:Sem Bool) then _ else _) _ _ _
 refine wpAny_bind (wpAny_pure ?_)
 rw[if_neg (by decide)]
 refine wpAny_bind ?_
 rw[arm_eval_Call]
 refine wpAny_bind (f.name hx fun u hu ru=> ?_)
 cases ru with
 |dict a vs ds hF e1 e2 y=>cases e2;cases hd
 |list a0 vs ds hF e1 e2 g1 g2=>
 cases e1
 cases e2
 refine oi hd fun hlen hd=>os hd fun hd=> ?_
 refine wpAny_bind (wpAny_standAt ?_)
 have hpos:methodCallPos true (.Name x xp) env ap cp=pure cp:=if_pos (beq_iff_eq.mpr hl)
 unfold methodCall
 rw[pl.form (Nat.le_of_ble_eq_true rfl) cp]
 refine wpAny_bind (wpAny_holding (Calls.getMethod_list_append g1.choose_spec rfl rfl ?_))
 refine wpAny_bind (wpAny_of_eq hpos (Calls.callWith_builtin (pl.any cp) (args_of pl (wpAny_mono (s_items S (ev_plain n) h2 f.cxt) (fun ω s₁ z=>z.2.one_elim fun v rv=> ?_) no))))
 have t:=z.1
 refine wpAny_list_append_plain (plain_kept g1 t.kept) (fun h' hd' hs=>wpAny_pure ⟨rfl,?_⟩) (by rw[List.size_toArray,g2.1];exact Nat.le_trans hlen lim_le)
 have hk: ∀b o,s₁.heap.get? b=some o→b∉F x→h'.get? b=some o:=fun b o e n=>hs.extBut b o (fun z=>n (hF▸z▸ .head _)) e
 have kb:=Frm.kb (Z:=Z) (env:=env) (nm:=nm) hk
 obtain⟨F',z⟩:=f.wrote (tk:=s₁.toks) (t:= .o1) t hu hk (.list a0 (vs++[v]) _ hF rfl rfl (List.push_toArray vs v▸hd') (((g2.kept t.kept).but kb).append (.cons (rv.but kb) .nil))) (fun e=>nomatch e)
 exact⟨F',hd▸z.toAt⟩
end
end Mine
namespace Mine
open PySem PyProof.Rows
section
variable {W:Wd}{s₀ s s' s₂:Shared}{μ₀ Z Z' X:Addr→Prop}{A:Around}{nm:Names}{ρ ρ':Rho}{env:Env}{k:Nat}{F Fi Fj:Str→List Addr}{self:Ex}{fp wr:List Addr}{h₁:Heap}{St:Nat→Heap→Prop}{i:Nat}{I:Addr}{ds:List D}{pr:Bool}{t:Expr}{body:List Stmt}{out:Out}
theorem Frm.off (f:Frm W s₀ μ₀ Z' nm env A k F ρ s)(h: ∀a,Z a→Z' a)(h0: ∀a,μ₀ a→Z a)(m:Mv W X s s')(hZ: ∀a,X a→Z' a)(hn: ∀a,X a→s₀.heap.get? a=none)(he: ∀a,X a→Z a→ ∃o,s'.heap.get? a=some o):Frm W s₀ μ₀ Z nm env A k F ρ s':=
 {f with
  mu0:=⟨h0,fun a q=>f.mu0.2 a (h a q)⟩
  newO:=fun a q=>⟨(f.newO a q).1,fun z=>(f.newO a q).2 (h a z)⟩
  newF:=fun x a q=>⟨(f.newF x a q).1,fun z=>(f.newF x a q).2.1 (h a z),(f.newF x a q).2.2⟩
  tk:=fun h=>Nat.lt_of_lt_of_le (f.tk h) m.tk
  stp:=(f.stp.mv.trans m).stp fun b o h e=>nomatch (hn b h).symm.trans e
  lay:=f.lay.at m.kept fun a q z=>(f.newO a z).2 (hZ a q)
  zOld:=fun a z=>(Classical.em (X a)).elim (fun q=>he a q z) (m.there (f.zOld a (h a z)))
  exF:=fun x a h=>m.there (f.exF x a h) fun q=>(f.newF x a h).2.1 (hZ a q)
  see:=fun x t d e=>by
     obtain⟨v,a,b⟩:=f.see.but (fun a q=> .inl (hZ a q)) (fun n a h q=>(f.newF n a h).2.1 (hZ a q)) m.kept (fun n v h=>
      holds_off m.kept (fun q=>(f.newO _ (.inl rfl)).2 (hZ _ q)) (fun x c e q=>(f.newO c (.inr ⟨x,f.cells x c e,e⟩)).2 (hZ c q)) h) x t d e
     exact⟨v,a,b.mu fun a ω ω q=>q.imp (h a) id⟩}
theorem Frm.more (f:Frm W s₀ μ₀ Z nm env A k F ρ s)(t:Stp W s s')(hn: ∀b∈wr,s.heap.get? b=none)(he: ∀b∈wr,∃o,s'.heap.get? b=some o):Frm W s₀ μ₀ (fun a=>Z a∨a∈wr) nm env A k F ρ s':=
 have f2:=f.step t
 {f2 with
  mu0:=⟨fun a q=> .inl (f2.mu0.1 a q),fun a q o e=>q.elim (fun q=>f2.mu0.2 a q o e) fun q=>f.inv.there (hn a q) o e⟩
  newO:=fun a q=>⟨(f2.newO a q).1,fun z=>z.elim (f2.newO a q).2 fun z=>not_there (hn a z) (f.lay.there a q)⟩
  newF:=fun x a q=>⟨(f2.newF x a q).1,fun z=>z.elim (f2.newF x a q).2.1 fun z=>not_there (hn a z) (f.exF x a q),(f2.newF x a q).2.2⟩
  zOld:=fun a z=>z.elim (f2.zOld a) (he a)
  see:=fun x t' d e=>by
   obtain⟨v,a,b⟩:=f.see x t' d e
   exact⟨v,a.kept t.kept,RepF.but (X:=fun ω=>False) (fun ω q=>q.elim) (fun ω ω q=>q) t.kept.toBut (b.mu fun a o e q=>q.elim (fun q=>q.elim .inl fun q=>nomatch (hn a q).symm.trans e) .inr)⟩}
structure LpC (W:Wd)(s₀:Shared)(μ₀ Z:Addr→Prop)(nm:Names)(env:Env)(A:Around)(k:Nat)(F:Str→List Addr)(ρ:Rho)(s s₂:Shared)(I:Addr)(fp wr:List Addr)(h₁:Heap)(ds:List D)(pr:Bool)(St:Nat→Heap→Prop):Prop where
 ok:ItOk W A I fp wr h₁ (Mu env nm Z F) ds pr St
 f:Frm W s₀ μ₀ Z nm env A k F ρ s
 t2:Stp W s s₂
 st:St 0 s₂.heap
 kb:KeptBut (Nu h₁ (Mu env nm Z F)) h₁ s₂.heap
 h01: ∀b o,s.heap.get? b=some o→ ∃o',h₁.get? b=some o'
 h12: ∀b o,h₁.get? b=some o→ ∃o',s₂.heap.get? b=some o'
structure Lp (W:Wd)(s₀:Shared)(μ₀ Z:Addr→Prop)(nm:Names)(env:Env)(A:Around)(k:Nat)(F:Str→List Addr)(s₂:Shared)(wr:List Addr)(St:Nat→Heap→Prop)(i:Nat)(Fi:Str→List Addr)(ρ:Rho)(s:Shared):Prop where
 frm:Frm W s₀ μ₀ (fun a=>Z a∨a∈wr) nm env A k Fi ρ s
 st:St i s.heap
 mv:Mv W (fun b=>Wr env nm F b∨b∈wr) s₂ s
 new: ∀x a,a∈Fi x→(∃y,a∈F y)∨s₂.heap.get? a=none
theorem LpC.new (c:LpC W s₀ μ₀ Z nm env A k F ρ s s₂ I fp wr h₁ ds pr St)(b:Addr)(hb:b∈wr):s.heap.get? b=none:=by
 cases e:s.heap.get? b with
 |none=>rfl
 |some o=>exact not_there (c.ok.new b hb) (c.h01 b o e)
theorem LpC.back (c:LpC W s₀ μ₀ Z nm env A k F ρ s s₂ I fp wr h₁ ds pr St){b:Addr}(q:s₂.heap.get? b=none):h₁.get? b=none:=by
 cases e:h₁.get? b with
 |none=>rfl
 |some o=>exact not_there q (c.h12 b o e)
theorem LpC.ex (c:LpC W s₀ μ₀ Z nm env A k F ρ s s₂ I fp wr h₁ ds pr St){h:Heap}(st:St i h)(b:Addr)(hb:b∈wr): ∃o,h.get? b=some o:=by obtain⟨o,e,_⟩:=c.ok.ex i h st b (c.ok.sub b hb);exact⟨o,e⟩
theorem LpC.start (c:LpC W s₀ μ₀ Z nm env A k F ρ s s₂ I fp wr h₁ ds pr St):Lp W s₀ μ₀ Z nm env A k F s₂ wr St 0 F ρ s₂:=⟨c.f.more c.t2 c.new (c.ex c.st),c.st,.refl,fun x a q=> .inl ⟨x,q⟩⟩
theorem Lp.wrs (L:Lp W s₀ μ₀ Z nm env A k F s₂ wr St i Fi ρ s){b:Addr}(h:Wr env nm Fi b):Wr env nm F b∨s₂.heap.get? b=none:=h.elim (fun h=> .inl (.inl h)) fun z0=>by obtain⟨x,h⟩:=z0;exact(L.new x b h).imp (fun q=> .inr q) id
theorem Lp.step {s₁:Shared}(c:LpC W s₀ μ₀ Z nm env A k F ρ s s₂ I fp wr h₁ ds pr St)(L:Lp W s₀ μ₀ Z nm env A k F s₂ wr St i Fi ρ' s₁){ρ'':Rho}(a:At W s₀ μ₀ (fun a=>Z a∨a∈wr) nm env A k Fi Fj ρ'' s₁ s'):Lp W s₀ μ₀ Z nm env A k F s₂ wr St i Fj ρ'' s' where
 frm:=a.f
 st:=c.ok.frame _ _ _ L.st fun b hb o e=>by
  obtain⟨o',e',hs⟩:=c.ok.ex _ _ L.st b hb
  cases e.symm.trans e'
  exact a.m.mv.kept b o e hs fun q=>(c.ok.off b hb).elim (fun h=>(L.frm.wrNew q).2 (.inr h)) fun z1=>by obtain⟨h1,o1,h2⟩:=z1;exact(L.wrs q).elim (fun q=>h1 (.inr q)) fun q=>not_there q (c.h12 b o1 h2)
 mv:=((L.mv.wider (Y:=fun b=>(Wr env nm F b∨b∈wr)∨Wr env nm Fi b) fun b=> .inl).trans (a.m.mv.wider fun b=> .inr)).fresh fun b o e q=>q.elim id fun q=>(L.wrs q).elim .inl fun q=>nomatch q.symm.trans e
 new:=fun x b h=>(a.m.new x b h).elim (fun z2=>by obtain⟨y,q⟩:=z2;exact L.new y b q) fun q=>Classical.byContradiction fun hn=>by
  cases e:s₂.heap.get? b with
  |none=>exact hn (.inr e)
  |some o=>exact not_there q ((Classical.em (Wr env nm F b∨b∈wr)).elim (fun hx=>hx.elim (fun hx=>hx.elim (L.frm.lay.there b) fun hx=>absurd (.inl hx) hn) fun hx=>L.frm.zOld b (.inr hx)) (L.mv.there ⟨o,e⟩))
theorem Lp.end {s₁:Shared}{h':Heap}{tk:Nat}(c:LpC W s₀ μ₀ Z nm env A k F ρ s s₂ I fp wr h₁ ds pr St)(L:Lp W s₀ μ₀ Z nm env A k F s₂ wr St i Fi ρ' s₁)(hk: ∀b o,b∉wr→s₁.heap.get? b=some o→h'.get? b=some o)(ht:s₁.toks≤tk):
  Nxt W s₀ μ₀ Z nm env A k F ρ' s {s₁ with heap:=h',toks:=tk}:=
 have m:Mv W (fun b=>b∈wr) s₁ {s₁ with heap:=h',toks:=tk}:=Mv.of (fun b o e q=>hk b o q e) (fun b o q e=>c.f.inv.there (c.new b q) o e) ht
 have f:Frm W s₀ μ₀ Z nm env A k Fi ρ' {s₁ with heap:=h',toks:=tk}:=L.frm.off (fun a q=> .inl q) c.f.mu0.1 m (fun a q=> .inr q) (fun a q=>c.f.stp.grow.noneBack (c.new a q)) fun a q z=>not_there (c.new a q) (c.f.zOld a z)
 ⟨Fi,f,(c.t2.mv.trans (L.mv.trans (m.wider fun b q=> .inr q))).fresh fun b o e q=>q.elim id fun q=>(nomatch (c.new b q).symm.trans e),fun x a q=>(L.new x a q).imp id fun q=>c.t2.grow.noneBack q,f.lay.there⟩
theorem Lp.fin {s₁:Shared}(c:LpC W s₀ μ₀ Z nm env A k F ρ s s₂ I fp wr h₁ ds pr St)(L:Lp W s₀ μ₀ Z nm env A k F s₂ wr St i Fi ρ' s₁):Nxt W s₀ μ₀ Z nm env A k F ρ' s s₁:=L.end c (h':=s₁.heap) (tk:=s₁.toks) (fun ω ω ω e=>e) (Nat.le_refl _)
theorem Lp.drawn {s₁:Shared}{j:Nat}{h':Heap}{tk:Nat}(c:LpC W s₀ μ₀ Z nm env A k F ρ s s₂ I fp wr h₁ ds pr St)(L:Lp W s₀ μ₀ Z nm env A k F s₂ wr St i Fi ρ' s₁)(hk: ∀b o,b∉wr→s₁.heap.get? b=some o→h'.get? b=some o)(ht:s₁.toks≤tk)
  (st:St j h'):Lp W s₀ μ₀ Z nm env A k F s₂ wr St j Fi ρ' {s₁ with heap:=h',toks:=tk}:=
 have m:Mv W (fun b=>b∈wr) s₁ {s₁ with heap:=h',toks:=tk}:=Mv.of (fun b o e q=>hk b o q e) (fun b o q e=>c.f.inv.there (c.new b q) o e) ht
 ⟨L.frm.off (fun ω=>id) L.frm.mu0.1 m (fun a q=> .inr q) (fun a q=>c.f.stp.grow.noneBack (c.new a q)) fun a q ω=>c.ex st a q,st,L.mv.trans (m.wider fun b q=> .inr q),L.new⟩
structure LpR (W:Wd)(s₀:Shared)(μ₀ Z:Addr→Prop)(nm:Names)(env:Env)(A:Around)(k:Nat)(F:Str→List Addr)(s:Shared)(out:Out)(r:Result)(s':Shared):Prop where
 ok: ∃fl,r= .ok fl∧OutOk W s₀ μ₀ Z nm env A k F s out fl s'
inductive LpI (W:Wd) (s₀:Shared) (μ₀ Z:Addr→Prop) (nm:Names) (env:Env) (A:Around) (k:Nat) (F:Str→List Addr) (s₂:Shared) (wr:List Addr) (ds:List D) (St:Nat→Heap→Prop) (self:Ex) (t:Expr) (body:List Stmt) (out:Out) (n:Nat) (si:Shared):Prop
 |mk (i Fi ρi) (e:ds.length - i=n) (le:i≤ds.length) (ex:exFor self nm t body ρi (ds.drop i)=some out) (L:Lp W s₀ μ₀ Z nm env A k F s₂ wr St i Fi ρi si)
theorem for_turn (S:ExS W k self)(c:LpC W s₀ μ₀ Z nm env A k F ρ s s₂ I fp wr h₁ ds pr St){s₃:Shared}{v:Value}{d:D}{r:List D}{ρi:Rho}(L:Lp W s₀ μ₀ Z nm env A k F s₂ wr St i Fi ρi s₃)(hi:i≤ds.length)(hr:ds.drop i=r)
  (h:(bindT nm ρi t d).bind (fun ρ'=>(exList self nm ρ' body).bind fun o=>match o with
    | .next ρ''=>exFor self nm t body ρ'' r
    | .brk ρ''=>some (.next ρ'')
    | .ret v=>some (.ret v))=some out) (hit:ItemIs W s₃.heap (Nu h₁ (Mu env nm Z F)) v d) (hrep:isTupT t=true∨Rep W s₃.heap (Nu h₁ (Mu env nm Z F)) v d):
  wpAny (MD W) A (assign t env v) (fun ω s₄=>wpAny (MD W) A (execs body env) (fun f s₃=>match f with
   | .next| .cont=>LpI W s₀ μ₀ Z nm env A k F s₂ wr ds St self t body out (ds.length - i) s₃
   | .brk=>LpR W s₀ μ₀ Z nm env A k F s out (.ok .next) s₃
   | .ret v=>LpR W s₀ μ₀ Z nm env A k F s out (.ok (.ret v)) s₃) No s₄) No s₃:=
 ob h fun ρ1 hb h=>ob h fun o h2 h=>
  have itm: ∀a,Mu env nm (fun a=>Z a∨a∈wr) Fi a→Nu h₁ (Mu env nm Z F) a:=fun a q=>q.elim (fun q=>q.elim (fun q=> .inl (.inl q)) fun q=> .inr (c.ok.new a q)) fun q=>(L.wrs q).elim (fun q=> .inl (.inr q)) fun q=> .inr (c.back q)
  wpAny_mono (bind_sound (W:=W) L.frm.room.handled (fun a q=> .inr (.inl q)) hb (fun n a q=>(L.frm.newF n a q).2.2) L.frm.lay L.frm.see (hit.mu itm) (hrep.imp id fun q=>q.mu fun a ω ω q=>itm a q)) (fun ω s4 b=>by
   obtain⟨Fj,b4⟩:=L.frm.bound b (bindT_oi hb)
   exact wpAny_mono (stms_sound S body ρ1 _ Fj s4 h2 b4.f) (fun fl s5 z=>match o,fl,h,z with
    | .next ρ2,_,h,⟨rfl,Fk,a5⟩=>⟨i,Fk,ρ2,rfl,hi,hr▸h,L.step c ⟨a5.f,b4.m.trans a5.m⟩⟩
    | .brk ρ2,_,h,⟨rfl,Fk,a5⟩=>os h fun h=>h▸⟨_,rfl,rfl,Lp.fin c (L.step c ⟨a5.f,b4.m.trans a5.m⟩)⟩
    | .ret d,_,h,⟨v,rfl,q⟩=>os h fun h=>h▸⟨_,rfl,v,rfl,q⟩) no) no
theorem for_sound (S:ExS W k self)(c:LpC W s₀ μ₀ Z nm env A k F ρ s s₂ I fp wr h₁ ds pr St)(hpr:pr=true→isTupT t=true)(h:exFor self nm t body ρ ds=some out):
  codeAny (MD W) A (.forLoop t (.ref I) body [] env) (LpR W s₀ μ₀ Z nm env A k F s out) s₂:=by
 refine codeAny_forLoop_any (LpI W s₀ μ₀ Z nm env A k F s₂ wr ds St self t body out) ?_ ds.length ⟨0,F,ρ,rfl,Nat.zero_le _,h,c.start⟩
 intro n si ⟨i,Fi,ρi,e,hi,hex,L⟩
 subst e
 by_cases hlt:i<ds.length
 ·rw[List.drop_eq_getElem_cons hlt] at hex
  have kb:KeptBut (Nu h₁ (Mu env nm Z F)) h₁ si.heap:=c.kb.trans (L.mv.kept.wider fun b o e q=>q.elim (fun q=> .inl (.inr q)) fun q=> .inr (c.ok.new b q))
  refine ob hex fun ρ1 hb ω=>c.ok.item i ds[i] si t _ _ (List.getElem?_eq_getElem hlt) (fit_of hb) hpr L.st kb fun v h' tk hk htk hgo=> ?_
  refine hgo _ _ fun h'' st'' hk'' hit hrep=> ?_
  exact wpAny_mono (for_turn S c (L.drawn c hk'' htk st'') hlt rfl hex hit hrep) (fun ω s₄ z=>wpAny_mono z (fun f s₅ z=>match f,z with
   | .next,z=>⟨_,Nat.sub_succ_lt_self _ _ hlt,z⟩
   | .cont,z=>⟨_,Nat.sub_succ_lt_self _ _ hlt,z⟩
   | .brk,z=>z
   | .ret _,z=>z) no) no
 ·cases Nat.le_antisymm hi (Nat.le_of_not_lt hlt)
  rw[List.drop_length] at hex
  exact os hex fun hex=>c.ok.done si _ _ L.st fun h' tk hk htk=>wpAny_execs_nil (hex▸⟨_,rfl,rfl,L.end c hk htk⟩)
end
end Mine
namespace Mine
open PySem PyProof.Rows
section
variable {W:Wd}{s₀ s:Shared}{μ₀ Z:Addr→Prop}{A:Around}{nm:Names}{ρ ρ':Rho}{env:Env}{k:Nat}{F:Str→List Addr}{C:Cfg}{self:Ex}{n:Nat}{out:Out}
theorem attempt_none {sts:List Stmt}{hs:List ExceptHandler}{p:Pos}{Q:Flow→Shared→Prop}(h:wpAny (MD W) A (execs sts env) Q No s):wpAny (MD W) A (exec (.Try sts hs [] [] p) env) Q No s:=by
 rw[arm_exec_Try]
 refine wpAny_bind (wpAny_standAt ?_)
 unfold tryStmt
 rw[if_pos (by rfl)]
 refine wpAny_bind (wpAny_attempt (wpAny_mono h (fun fl s' q=> ?_) fun ω ω q=>q.elim))
 cases fl with
 |next=>exact wpAny_execs_nil q
 |brk=>exact wpAny_pure q
 |cont=>exact wpAny_pure q
 |ret v=>exact wpAny_pure q
theorem s_append (K:CfgOk W C k){e:Expr}{p:Pos}(h:appV (ev C n) nm ρ (view e)=some ρ')(f:Frm W s₀ μ₀ Z nm env A k F ρ s):wpAny (MD W) A (exec (.Expr e p) env) (Done W s₀ μ₀ Z nm env A k F ρ' s) No s:=by
 generalize view e=w at h
 cases w with
 |call g as kw cp=>
  refine oi h fun hk h=> ?_
  cases isNil_inv hk
  have h:appF (ev C n) nm ρ as cp (view g)=some ρ':=h
  generalize view g=w at h
  cases w with
  |attr o m ap=>
   refine ob h fun x hx h=>oi h fun hm h=>ob h fun q h1 h=>ob h fun l h2 h=>ob h fun a h3 h=>ob h fun d h4 h=>om h fun e h5 hz=> ?_
   obtain⟨xp,rfl⟩:=nameOf_inv hx
   cases lone_inv h3
   cases hm.1
   obtain⟨t,q⟩:=q
   cases t with
   |o1=>
    cases h2
    exact hz▸append_sound K hm.2 h1 h4 h5 f
   |_=>first|exact nf h2|exact ns h2|cases h2
  |_=>first|exact nf h|exact ns h|cases h
 |_=>first|exact nf h|exact ns h|cases h
theorem Done.toOut {fl:Flow}{s':Shared}(d:Done W s₀ μ₀ Z nm env A k F ρ' s fl s'):OutOk W s₀ μ₀ Z nm env A k F s (.next ρ') fl s':=⟨d.e,d.n⟩
theorem if_sound (K:CfgOk W C k)(S:ExS W k self){t:Expr}{b o:List Stmt}{p:Pos}(h:((tstE (ev C n nm ρ) 8 t).bind fun c=>exList self nm ρ (if c then b else o))=some out)(f:Frm W s₀ μ₀ Z nm env A k F ρ s):
  wpAny (MD W) A (exec (.If t b o p) env) (OutOk W s₀ μ₀ Z nm env A k F s out) No s:=
 ob h fun c h1 h=>wpAny_If (wpAny_mono (tst_sound (ev_sound K n) _ _ _ _ h1 f.cxt) (fun r s' y=>by
  have q:=f.at y.2
  cases y.1
  cases c
  ·exact wpAny_mono (stms_sound S _ _ _ _ _ h q.f) (fun fl s' z=>z.first q.m) no
  ·exact wpAny_mono (stms_sound S _ _ _ _ _ h q.f) (fun fl s' z=>z.first q.m) no) no)
theorem loop_ok (K:CfgOk W C k)(S:ExS W k self){t it:Expr}{b:List Stmt}{p:Pos}(h:((iterE (ev C n) C nm ρ t it).bind fun items=>exFor self nm t b ρ items)=some out)(f:Frm W s₀ μ₀ Z nm env A k F ρ s):
  wpAny (MD W) A (exec (.For t it b [] p) env) (OutOk W s₀ μ₀ Z nm env A k F s out) No s:=
 ob h fun items hi h=>by
  obtain⟨pr,hset,hpr,hit⟩:=iterE_sound (ev_sound K n) K.glob (ev_plain n) hi f.cxt
  exact wpAny_For (wpAny_mono hit (fun x s₁ h₁=>wpAny_mono h₁ (fun i s₂ y=>by
   obtain⟨t2,I,fp,wr,h₁,St,e,ok,st,hkb,h01,h12⟩:=y
   subst e
   refine codeAny_mono (for_sound S ⟨ok,f,t2,st,hkb,h01,h12⟩ hpr h) fun r s' z=> ?_
   obtain⟨fl,e,q⟩:=z.ok
   subst e
   exact q) no) no) (folded_pure hset)
theorem step_sound (K:CfgOk W C k)(KS:StoreOk W C)(S:ExS W k self){st:Stmt}(h:stepV C (ev C n) self nm ρ st=some out)(f:Frm W s₀ μ₀ Z nm env A k F ρ s):wpAny (MD W) A (exec st env) (OutOk W s₀ μ₀ Z nm env A k F s out) No s:=by
 cases st with
 |Return e p=>exact ob h fun e' he h=>om h fun d hd h=>h▸he▸wpAny_Return_some ((ev_sound K n).at_ hd f.cxt fun v s' t r=>⟨v,rfl,f.stp.trans t,r.mu fun a o e q=> .inl (f.mu0.1 a q)⟩)
 |Assign ts e p=>exact om h fun ρ' hr h=>h▸wpAny_mono (assign_sound K KS hr f) (fun ω ω z=>z.toOut) no
 |Expr e p=>exact om h fun ρ' hr h=>h▸wpAny_mono (s_append K hr f) (fun ω ω z=>z.toOut) no
 |If t b o p=>exact if_sound K S h f
 |For t it b o p=>exact oi h fun ho h=>isNil_inv ho▸loop_ok K S h f
 |Break p=>exact os h fun h=>h▸wpAny_Break ⟨rfl,F,f,f.refl⟩
 |Try b hs o g p=>
  refine oi h fun ho hz=> ?_
  cases isNil_inv ho.1
  cases isNil_inv ho.2
  exact attempt_none (stms_sound S _ _ _ _ _ hz f)
 |_=>first|exact nf h|exact ns h|cases h
theorem sx_sound (K:CfgOk W C k)(KS:StoreOk W C)(n:Nat): ∀m,ExS W k (sx C (ev C n) m)
 |0=>fun nm ρ st out h=>nomatch h
 |m+1=>fun nm ρ₀ st out h s₀ μ₀ Z env A F₀ s f₀=>by
  obtain⟨F,a⟩:=f₀.frz (C.frz st.pos.line)
  exact wpAny_mono (step_sound K KS (sx_sound K KS n m) h a.f) (fun fl s' z=>z.first a.m) no
end
end Mine
namespace Mine
open PySem PyProof.Rows
structure DefAt (W:Wd)(fa:Addr)(f:Fn)(fd:FuncData):Prop where
 obj: ∃o,W.T.get? fa=some o∧o.data= .func fd
 rcd:W.T.CodeRec fd.code fd.qualname
 body:fd.body= .stmts f.body
 clo:fd.closure= []
 names:fd.scope.names=f.names
 glob:fd.globals=mainGlobals
 bi:fd.builtins=builtinsNs
 kind:fd.scope.kind= .function
 co:fd.scope.isCoroutine=false
 gen:fd.scope.isGenerator=false
 nodup:(f.names.map (·.1)).Nodup
 pnodup:f.params.Nodup
 par: ∀x∈f.params,f.names.lookup x=some .local∨f.names.lookup x=some .cell
 bind: ∀vals,vals.length=f.params.length→bindArgs fd ⟨vals,[]⟩=pure (f.params.zip vals)
 code:f.names.lookup genMark=some .local→fd.code= .ref W.cac
 txt:f.names.lookup txtMark=some .local→ ∃x∈f.params,f.names.lookup x=some .local
section
variable {W:Wd}{s₀ s s₁ s₂ s' s'':Shared}{μ ν μ₀ Z Z':Addr→Prop}{A:Around}{nm:Names}{ρ ρ':Rho}{env:Env}{k:Nat}{F F' F'':Str→List Addr}{X:Addr→Prop}{C:Cfg}{self:Ex}{R:Result→Shared→Prop}{fa:Addr}{f:Fn}{fd:FuncData}
theorem lookup_zip_none: ∀{xs:List Str} {vs:List Value} {x:Str},x∉xs→(xs.zip vs).lookup x=none
 | [],_,_,_=>rfl
 |_::_,[],_,_=>rfl
 |y::xs,v::vs,x,h=>by
  rw[List.zip_cons_cons,List.lookup_cons,beq_false_of_ne fun(q:x=y)=>h (q▸ .head _)]
  exact lookup_zip_none fun q=>h (.tail _ q)
noncomputable def orM (o:Option Value) (e:Option Value):Option Value:=match o with
 |some v=>some v
 |none=>e
theorem bindL_zip {kf:Str→Option NameKind}: ∀{xs:List Str} {vs:List Value} {m:Str→Option Value} {x:Str},xs.Nodup→kf x=some .local→bindL kf (xs.zip vs) m x=orM ((xs.zip vs).lookup x) (m x)
 | [],_,_,_,_,_=>rfl
 |_::_,[],_,_,_,_=>rfl
 |y::xs,v::vs,m,x,h,hk=>by
  have hd:=List.nodup_cons.mp h
  rw[List.zip_cons_cons,List.lookup_cons]
  unfold bindL
  rw[bindL_zip hd.2 hk]
  by_cases q:x=y
  ·subst q
   rw[lookup_zip_none hd.1,if_pos hk,beq_self_eq_true]
   exact if_pos rfl
  ·rw[beq_false_of_ne q]
   refine congrArg (orM _) ?_
   by_cases h2:kf y=some .local
   ·rw[if_pos h2];exact if_neg q
   ·rw[if_neg h2]
theorem bindC_zip {kf:Str→Option NameKind}: ∀{xs:List Str} {vs:List Value} {m:Str→Option Value} {x:Str},xs.Nodup→kf x≠some .local→bindC kf (xs.zip vs) m x=orM ((xs.zip vs).lookup x) (m x)
 | [],_,_,_,_,_=>rfl
 |_::_,[],_,_,_,_=>rfl
 |y::xs,v::vs,m,x,h,hk=>by
  have hd:=List.nodup_cons.mp h
  rw[List.zip_cons_cons,List.lookup_cons]
  unfold bindC
  rw[bindC_zip hd.2 hk]
  by_cases q:x=y
  ·subst q
   rw[lookup_zip_none hd.1,if_neg hk,beq_self_eq_true]
   exact if_pos rfl
  ·rw[beq_false_of_ne q]
   refine congrArg (orM _) ?_
   by_cases h2:kf y=some .local
   ·rw[if_pos h2]
   ·rw[if_neg h2];exact if_neg q
theorem put_local {cm m:Str→Option Value}{n:Str}{v:Value}{E:Value→Shared→Prop}{Q:Unit→Shared→Prop}(x:InCallC s₀ env.locals m env.cells cm s)(hk:env.scope.kind= .function)(hl:env.kindOf n=some .local)
  (h: ∀s',s'.toks=s.toks+1→InCallC s₀ env.locals (fun y=>if y=n then some v else m y) env.cells cm s'→Q () s'):wpAny (MD W) A (storeName env n v) Q E s:=by
 refine wpAny_storeName_local hl x.toInCall.ns (fun h' hn' hs'=>h {s with heap:=h',toks:=s.toks+1} rfl ?_) (by rw[hk];rfl)
 obtain⟨h₁,tk,hs⟩:=x.toInCall.same
 subst hs
 exact{
  toInCall:=⟨⟨h',_,rfl⟩,hn',fun b o e=>hs'.extBut b o (Nat.ne_of_lt (Nat.lt_of_lt_of_le (Heap.lt_size e) x.toInCall.fresh)) (x.toInCall.keep b o e),x.toInCall.fresh⟩
  cell:=fun k c hc=>(x.cell k c hc).sameBut hs' (Nat.ne_of_gt (x.above k c (PySem.mem_of_lookup hc)))
  apart:=x.apart
  above:=x.above}
theorem put_params {f:Str×Value→PUnit→Sem (ForInStep PUnit)}(hf: ∀n v u,f (n,v) u=(do storeName env n v;pure (.yield ⟨⟩)))(hk:env.scope.kind= .function){E:Value→Shared→Prop}:
  ∀(binds:List (Str×Value)) (m cm:Str→Option Value) (s:Shared) (Q:PUnit→Shared→Prop),InCallC s₀ env.locals m env.cells cm s→
   (∀x∈binds,env.kindOf x.1=some .local∨(env.kindOf x.1=some .cell∧(env.cells.lookup x.1).isSome=true))→
   (∀s',s.toks≤s'.toks→((∃x∈binds,env.kindOf x.1=some .local)→0<s'.toks)→InCallC s₀ env.locals (bindL env.kindOf binds m) env.cells (bindC env.kindOf binds cm) s'→Q ⟨⟩ s')→wpAny (MD W) A (forIn binds ⟨⟩ f) Q E s
 | [],m,cm,s,Q,x,_,h=>by rw[List.forIn_nil];exact wpAny_pure (h s (Nat.le_refl _) (fun z0=>by obtain⟨_,q,_⟩:=z0;exact nomatch q) x)
 |(n,v)::r,m,cm,s,Q,x,hkind,h=>by
  rw[List.forIn_cons,hf]
  have hr:=fun y hy=>hkind y (List.mem_cons_of_mem _ hy)
  refine wpAny_bind (wpAny_bind ((hkind (n,v) (.head _)).elim (fun hl=>put_local x hk hl fun s' htk x'=>wpAny_pure (put_params hf hk r _ _ s' Q x' hr fun s'' h1 h2 x''=>h s'' (Nat.le_trans (Nat.le_succ _) (Nat.le_trans (Nat.le_of_eq htk.symm) h1)) (fun ω=>Nat.lt_of_lt_of_le (Nat.succ_pos _) (Nat.le_trans (Nat.le_of_eq htk.symm) h1)) ?_)) fun hl=> ?_))
  ·unfold bindL bindC;rw[if_pos hl,if_pos hl];exact x''
  ·obtain⟨c,hc⟩:=Option.isSome_iff_exists.mp hl.2
   have hnl: ¬env.kindOf n=some .local:=fun q=>nomatch hl.1.symm.trans q
   refine wpAny_with_toks (Nat.le_refl s.toks) (stCC x hk hl.1 hc fun s' x' htk=>wpAny_pure (put_params hf hk r _ _ s' Q x' hr fun s'' h1 h2 x''=>h s'' (Nat.le_trans htk h1) (fun z1=>by obtain⟨y,hy,hy2⟩:=z1;exact h2 ⟨y,(List.mem_cons.mp hy).resolve_left fun(q:y=(n,v))=>hnl (by rw[q] at hy2;exact hy2),hy2⟩) ?_))
   unfold bindL bindC;rw[if_neg hnl,if_neg hnl];exact x''
theorem new_env {scope:Scope}{globals:Addr}{binds:List (Str×Value)}{qual:Str}{func:Option Addr}{code:Value}{builtins:Addr}{E:Value→Shared→Prop}{Q:Env→Shared→Prop}
  (hk:scope.kind= .function)
  (hkind: ∀x∈binds,scope.names.lookup x.1=some .local∨(scope.names.lookup x.1=some .cell∧((cellsFrom (s.heap.objs.size+1) scope.names []).lookup x.1).isSome=true))
  (hQ: ∀env,env=newEnv scope s.heap.objs.size globals (cellsFrom (s.heap.objs.size+1) scope.names []) qual func code none builtins→
    ∀s',s.toks≤s'.toks→((∃x∈binds,env.kindOf x.1=some .local)→0<s'.toks)→InCallC s env.locals (bindL env.kindOf binds fun ω=>none) env.cells (bindC env.kindOf binds fun ω=>none) s'→Q env s'):
  wpAny (MD W) A (newFunctionEnv scope globals [] binds qual func code none builtins) Q E s:=by
 simp only[newFunctionEnv,Option.isSome_none,Bool.false_eq_true,if_false]
 refine wpAny_bind (wpAny_alloc ?_)
 refine wpAny_bind (wpAny_layCells _ (fun name kind cells=>by cases hkc:kind==NameKind.cell<;>simp[hkc]) _ _ _ _ ?_)
 have ok:=cellsFrom_ok scope.names (s.heap.push {cls:= .type "frame",data:= .dict #[]}) (s.heap.objs.size+1) [] ⟨fun ω ω hm=>(nomatch hm),List.Pairwise.nil⟩ (by rw[Heap.size_push];exact Nat.le_refl _)
 rw[Heap.size_push] at ok
 rw[show({s with heap:=s.heap.push {cls:= .type "frame",data:= .dict #[]}}:Shared).heap.objs.size=s.heap.objs.size+1 from Heap.size_push ..]
 have X0:InCallC s s.heap.objs.size (fun ω=>none) (cellsFrom (s.heap.objs.size+1) scope.names []) (fun ω=>none) {s with heap:=pushCells (s.heap.push {cls:= .type "frame",data:= .dict #[]}) scope.names}:=
  ⟨⟨⟨_,_,rfl⟩,(Heap.Ns.new s.heap (.type "frame")).keeps (pushCells_keeps _ _),fun b o e=>pushCells_keeps _ _ b o (Heap.get?_push_of_some _ e),Nat.le_refl _⟩,
    fun n c hc=>(ok.empty n c (PySem.mem_of_lookup hc)).1,ok.apart,fun n c hm=>(ok.empty n c hm).2⟩
 exact wpAny_bind (put_params (s₀:=s) (env:=newEnv scope s.heap.objs.size globals (cellsFrom (s.heap.objs.size+1) scope.names []) qual func code none builtins)
  (fun ω ω ω=>rfl) hk binds (fun ω=>none) (fun ω=>none) _ _ X0 hkind fun s' h1 h2 x=>wpAny_pure (hQ _ rfl s' h1 h2 x))
theorem DefAt.code' (D:DefAt W fa f fd)(i:Inv W s):s.heap.CodeRec fd.code fd.qualname:=by
 obtain⟨c,o,vs,t,e1,e2,e3,e4⟩:=D.rcd
 refine(i.grow c o e2).elim (fun z=>⟨c,o,vs,t,e1,z,e3,e4⟩) fun⟨_,ps,more,z1,z⟩=> ?_
 subst z1
 have e3':ps=vs:=Data.fields.inj e3
 subst e3'
 exact⟨c,_,ps++more,t,e1,z,rfl,(Array.getElem?_append_left (Array.getElem?_eq_some_iff.mp e4).1).trans e4⟩
theorem frame_size (s:Shared):(s.heap.push {cls:= .type "frame",data:= .dict #[]}).objs.size=s.heap.objs.size+1:=Heap.size_push ..
theorem DefAt.cell (D:DefAt W fa f fd)(s:Shared){x:Str}(h:f.names.lookup x=some .cell): ∃c,(cellsFrom (s.heap.objs.size+1) fd.scope.names []).lookup x=some c:=by
 have hcell:=cells_facts fd.scope.names (s.heap.push {cls:= .type "frame",data:= .dict #[]}) [] fun x c q=>nomatch q
 rw[frame_size] at hcell
 obtain⟨c,z,_⟩:=hcell.1 x ((mem_lookup (D.names▸D.nodup)).mpr (D.names▸h))
 exact⟨c,z⟩
theorem DefAt.cell_of (D:DefAt W fa f fd)(s:Shared){x:Str}{c:Addr}(h:(cellsFrom (s.heap.objs.size+1) fd.scope.names []).lookup x=some c):f.names.lookup x=some .cell:=by
 have hcell:=cells_facts fd.scope.names (s.heap.push {cls:= .type "frame",data:= .dict #[]}) [] fun x c q=>nomatch q
 rw[frame_size] at hcell
 exact D.names▸(mem_lookup (D.names▸D.nodup)).mp (Classical.byContradiction fun n=>nomatch (hcell.old x n).symm.trans h)
theorem DefAt.call (D:DefAt W fa f fd)(i:Inv W s)(hroom:A.depth<recursionLimit){vals:List Value}(hv:vals.length=f.params.length)
  (h: ∀s₁,s.toks≤s₁.toks→((∃x∈f.params,f.names.lookup x=some .local)→0<s₁.toks)→InCallC s (callEnvC fd s.heap.objs.size fa).locals (bindL (callEnvC fd s.heap.objs.size fa).kindOf (f.params.zip vals) fun ω=>none) (callEnvC fd s.heap.objs.size fa).cells
     (bindC (callEnvC fd s.heap.objs.size fa).kindOf (f.params.zip vals) fun ω=>none) s₁→
    wpAny (MD W) (A.deeper (callEnvC fd s.heap.objs.size fa)) (execs f.body (callEnvC fd s.heap.objs.size fa)) (fun fl s'=>R (.ok (.ret (match fl with| .ret v=>v|_=> .none))) s') No s₁):
  codeAny (MD W) A (.call (.ref fa) ⟨vals,[]⟩) R s:=by
 obtain⟨o,ho,hdata⟩:=D.obj
 refine codeAny_call_function hroom (i.grow.kept _ _ ho (soft_data hdata rfl)) hdata D.co D.gen D.body (D.code' i) ?_
 rw[D.bind vals hv,D.clo]
 refine wpAny_pure (new_env D.kind (fun x hx=> ?_) fun env he s' htk htp x=> ?_)
 ·rw[D.names]
  exact(D.par _ (List.of_mem_zip (a:=x.1) (b:=x.2) hx).1).imp id fun q=>⟨q,by obtain⟨c,z⟩:=D.cell s q;exact D.names▸(congrArg Option.isSome z).trans rfl⟩
 ·subst he
  refine⟨i.nolim.keeps x.toInCall.keep,codeAny_func (wpAny_mono (h s' htk (fun⟨y,hy,hy2⟩=>htp ?_) x) (fun ω ω q=>q) no)⟩
  obtain⟨n,hn,rfl⟩:=List.getElem_of_mem hy
  exact⟨(f.params[n],vals[n]'(hv▸hn)),List.mem_iff_getElem.mpr ⟨n,List.length_zip▸Nat.lt_min.mpr ⟨hn,hv▸hn⟩,List.getElem_zip⟩,D.names▸hy2⟩
theorem DefAt.enter (D:DefAt W fa f fd)(i:Inv W s)(m:MuOk W μ s.heap)(t:Stp W s s₂)(hr:Room (A.deeper (callEnvC fd s₂.heap.objs.size fa)) k){vals:List Value}(htk:s₂.toks≤s₁.toks)(htp:(∃x∈f.params,f.names.lookup x=some .local)→0<s₁.toks)
  (X:InCallC s₂ (callEnvC fd s₂.heap.objs.size fa).locals (bindL (callEnvC fd s₂.heap.objs.size fa).kindOf (f.params.zip vals) fun ω=>none) (callEnvC fd s₂.heap.objs.size fa).cells
     (bindC (callEnvC fd s₂.heap.objs.size fa).kindOf (f.params.zip vals) fun ω=>none) s₁)
  (hF: ∀x a,a∈F x→s.heap.get? a=none∧ ∃o,s₂.heap.get? a=some o) (disj: ∀x y a,a∈F x→a∈F y→x=y)
  (hv: ∀x t d,ρ.lookup x=some (t,d)→x∈f.params∧ ∃v,(f.params.zip vals).lookup x=some v∧RepF W s₂.heap (fun a=>μ a∨ ∃x,a∈F x) t (F x) v d)
  (hoi: ∀x d,ρ.lookup x=some (.oi,d)→F x= [s.heap.objs.size+1,s.heap.objs.size]):
  Frm W s μ μ f.names (callEnvC fd s₂.heap.objs.size fa) (A.deeper (callEnvC fd s₂.heap.objs.size fa)) k F ρ s₁:=by
 have hkind: ∀x,(callEnvC fd s₂.heap.objs.size fa).kindOf x=f.names.lookup x:=fun x=>congrArg (List.lookup x) D.names
 have hOld: ∀a,OwnP (callEnvC fd s₂.heap.objs.size fa) f.names a→s₂.heap.get? a=none:=fun a q=>q.elim (fun q=>q▸none_of_size X.toInCall.fresh) fun z4=>by obtain⟨x,_,q⟩:=z4;exact none_of_size (Nat.le_trans X.toInCall.fresh (Nat.le_of_lt (X.above x a (mem_of_lookup q))))
 have st:Stp W s₂ s₁:=by obtain⟨h',tk,e⟩:=X.toInCall.same;exact .of X.toInCall.keep (e▸rfl) (e▸rfl) htk
 have st':=t.trans st
 have hn: ∀a,OwnP (callEnvC fd s₂.heap.objs.size fa) f.names a→s.heap.get? a=none:=fun a q=>t.grow.noneBack (hOld a q)
 exact{
  ok:=⟨D.names,D.kind,D.glob,D.bi,fun x hx=>D.cell s₂ hx⟩
  room:=hr
  inv0:=i
  mu0:=⟨fun ω q=>q,m.lo⟩
  stp:=st'
  lay:=⟨D.kind,fun x hx=>(hkind x).trans hx,fun x hx=>by obtain⟨c,q⟩:=D.cell s₂ hx;exact⟨(hkind x).trans hx,c,_,q,X.cell x c q⟩,⟨_,X.toInCall.ns⟩,fun x c q=>Nat.ne_of_gt (X.above x c (mem_of_lookup q)),fun x y c ω q1 q2=>name_of_addr X.apart (mem_of_lookup q2) (mem_of_lookup q1)⟩
  newO:=fun a q=>⟨hn a q,fun z=>not_there (hn a q) (m.hi a z)⟩
  newF:=fun x a q=>⟨(hF x a q).1,fun z=>not_there (hF x a q).1 (m.hi a z),fun z=>not_there (hOld a z) (hF x a q).2⟩
  zOld:=fun a q=>st'.there (m.hi a q)
  disj:=disj
  exF:=fun x a q=>st.there (hF x a q).2
  cells:=fun x c e=>D.cell_of s₂ e
  see:=fun x t d e=>by
     obtain⟨hx,v,hl,r⟩:=hv x t d e
     exact⟨v,(D.par x hx).elim (fun q=> .inl ⟨(hkind x).trans q,_,X.toInCall.ns,(bindL_zip D.pnodup ((hkind x).trans q)).trans (congrArg (orM · none) hl)⟩) (fun q=>by
      obtain⟨c,z⟩:=D.cell s₂ q
      exact .inr ⟨(hkind x).trans q,c,z,(((bindC_zip (m:=fun ω=>none) D.pnodup fun hh=>nomatch ((hkind x).trans q).symm.trans hh).trans (congrArg (orM · none) hl):_=some v)▸X.cell x c z)⟩),
      RepF.but (X:=fun ω=>False) (fun ω q=>q.elim) (fun ω ω q=>q) st.kept.toBut (r.mu fun a o ho q=>q.imp id fun q=>q.resolve_left fun q=>nomatch (hOld a q).symm.trans ho)⟩
  code:=fun h=>D.code h
  oi:=hoi
  tk:=fun h=>htp (D.txt h)}
noncomputable def outD:Out→Option D
 | .ret d=>some d
 | .next _=>some .none
 | .brk _=>none
noncomputable def argsR (ps:List Str) (ds:List D):Rho:=(ps.zip ds).map fun e=>(e.1,.fr,e.2)
noncomputable def runX (C:Cfg) (n m:Nat) (f:Fn) (ds:List D):Option D:=iteO (f.params.length=ds.length) ((exList (sx C (ev C n) m) f.names (argsR f.params ds) f.body).bind outD)
theorem lookup_args {h:Heap}{ν:Addr→Prop}: ∀{ps:List Str} {vals:List Value} {ds:List D},RepL W h ν vals ds→ ∀{x:Str} {t:Tag} {d:D},(argsR ps ds).lookup x=some (t,d)→
  x∈ps∧ ∃v,(ps.zip vals).lookup x=some v∧t= .fr∧Rep W h ν v d
 | [],_,_,_,_,_,_,e=>nomatch e
 |_::_,_,[],_,_,_,_,e=>nomatch e
 |y::ps,_,d0::ds,r,x,t,d,e=>r.cons_elim fun v vs a b=>by
  have e:List.lookup x ((y,.fr,d0)::argsR ps ds)=some (t,d):=e
  rw[List.lookup_cons] at e
  rw[List.zip_cons_cons,List.lookup_cons]
  cases q:x==y with
  |true=>
   rw[q] at e
   cases e
   exact⟨eq_of_beq q▸ .head _,_,rfl,rfl,a⟩
  |false=>
   rw[q] at e
   exact by obtain⟨h1,h2⟩:=lookup_args b e;exact⟨.tail _ h1,h2⟩
theorem Room.deep (hr:Room A (k+1))(env:Env):Room (A.deeper env) k where
 handled:=hr.handled
 depth:=Nat.lt_of_le_of_lt (show A.depth+1+4*k+8≤A.depth+4*(k+1)+8 from Nat.add_le_add_right (by rw[Nat.add_assoc,Nat.mul_succ,Nat.add_comm 1];exact Nat.add_le_add_left (Nat.add_le_add_left (Nat.le_of_ble_eq_true rfl) _) _) _) hr.depth
 units:=Nat.lt_of_le_of_lt (show A.units+3+40*k+100≤A.units+40*(k+1)+100 from Nat.add_le_add_right (by rw[Nat.add_assoc,Nat.mul_succ,Nat.add_comm 3];exact Nat.add_le_add_left (Nat.add_le_add_left (Nat.le_of_ble_eq_true rfl) _) _) _) hr.units
theorem DefAt.con (Da:DefAt W fa f fd)(K:CfgOk W C k)(KS:StoreOk W C){n m:Nat}{ds:List D}{d:D}(h:runX C n m f ds=some d):Con W (k+1) fa ds d:=fun A s μ vs hr i hm r=>
 oi h fun hl h=>ob h fun o hx h=>Da.call i (Nat.lt_of_le_of_lt (Nat.le_trans (Nat.le_add_right ..) (Nat.le_add_right ..)) hr.depth) (r.1.trans hl.symm) fun s₁ htk htp X=>
  have fr:=Da.enter (F:=fun ω=>[]) (ρ:=argsR f.params ds) i hm (.refl s) (hr.deep _) htk htp X (fun x a q=>nomatch q) (fun x y a q=>nomatch q) (fun x t d e=>by
   obtain⟨h1,v,h2,h3,h4⟩:=lookup_args (ps:=f.params) r e
   exact⟨h1,v,h2,h3▸ .fr (h4.mu fun a o e q=>q.resolve_right fun z5=>by obtain⟨x,z⟩:=z5;exact nomatch z)⟩) fun x d e=>by obtain⟨_,v,_,h3,_⟩:=lookup_args (ps:=f.params) r e;exact nomatch h3
  wpAny_mono (stms_sound (sx_sound K KS n m) _ _ _ _ _ hx fr) (fun fl s' z=>match o,fl,h,z with
   | .ret d',_,h,⟨v,rfl,z1,z2⟩=>os h fun h=>⟨z1,v,rfl,h▸z2⟩
   | .next ρ',_,h,⟨rfl,F',z⟩=>os h fun h=>⟨z.f.stp,.none,rfl,h▸ .none⟩
   | .brk _,_,h,_=>nomatch h) no
end
end Mine
namespace Mine
open PySem PyProof.Rows
noncomputable def isNoneV:Value→Bool
 | .none=>true
 |_=>false
noncomputable def isHard (o:Obj):Bool:= !(isNoneV o.cls&&isFieldsD o.data)
noncomputable def hardO (K:PySem.W.Frag) (a:Addr):Option (Addr×Obj):=(K.lookup a).bind fun o=>iteO (isHard o=true) (some (a,o))
noncomputable def hardF (K:PySem.W.Frag) (as:List Addr):PySem.W.Frag:=as.filterMap (hardO K)
theorem hardF_lookup {K:PySem.W.Frag}{a:Addr}{o:Obj}: ∀{as:List Addr},(hardF K as).lookup a=some o→K.lookup a=some o∧isHard o=true
 | [],h=>nomatch h
 |b::as,h=>by
  unfold hardF at h
  rw[List.filterMap_cons] at h
  cases he:hardO K b with
  |none=>rw[he] at h;exact hardF_lookup (as:=as) h
  |some e=>
   rw[he] at h
   refine ob he fun o' h1 h2=>oi h2 fun hh h2=> ?_
   cases h2
   have h:List.lookup a ((b,o')::hardF K as)=some o:=h
   rw[List.lookup_cons] at h
   cases q:a==b with
   |true=>
    rw[q] at h
    cases h
    exact⟨eq_of_beq q▸h1,hh⟩
   |false=>
    rw[q] at h
    exact hardF_lookup (as:=as) h
section
variable {W:Wd}{s:Shared}{A:Around}{k:Nat}{C:Cfg}{fa:Addr}{f:Fn}{fd:FuncData}
theorem hard_not {o:Obj}(h:isHard o=true): ¬Soft o:=fun⟨q1,ps,q2⟩=>by
 unfold isHard at h
 rw[q1,q2] at h
 cases h
theorem hard_in {K:PySem.W.Frag}{as:List Addr}(KX:K.In W.T)(i:Inv W s):(hardF K as).In s.heap:=fun a o e=>by obtain⟨h1,h2⟩:=hardF_lookup e;exact i.grow.kept a o (KX a o h1) (hard_not h2)
noncomputable def instD (self:Str):Out→Option D
 | .next ρ=>(ρ.lookup self).bind tagOi
 |_=>none
noncomputable def runI (C:Cfg) (n m:Nat) (c:Addr) (f:Fn) (ds:List D):Option D:=match f.params with
 | []=>none
 |self::ps=>iteO (ps.length=ds.length) ((exList (sx C (ev C n) m) f.names ((self,.oi,.inst c [])::argsR ps ds) f.body).bind (instD self))
theorem Room.made (hr:Room A (k+1))(c:Addr)(vs:List Value)(env:Env):Room ((A.under (.builtin "type.__call__" ⟨.ref c::vs,[]⟩)).deeper env) k:=by
 refine⟨hr.handled,?_,?_⟩
 ·have:=hr.depth;show A.depth+_+1+4*k+8<_
  have e:(Code.builtin "type.__call__" ⟨.ref c::vs,[]⟩).weight=1:=by kernel_rfl
  omega
 ·have:=hr.units;show A.units+_+3+40*k+100<_
  have e:(Code.builtin "type.__call__" ⟨.ref c::vs,[]⟩).cUnits=1:=by kernel_rfl
  omega
theorem lookup_self {x y:Str}{e:Tag×D}{r:Rho}:((y,e)::r).lookup x=if x=y then some e else r.lookup x:=by
 rw[List.lookup_cons]
 by_cases h:x=y
 ·rw[if_pos h,beq_iff_eq.mpr h]
 ·rw[if_neg h,beq_false_of_ne h]
theorem look_or {x y:Str}{e e':Tag×D}{r:Rho}(h:((y,e)::r).lookup x=some e'):(x=y∧e=e')∨(x≠y∧r.lookup x=some e'):=by
 rw[lookup_self] at h
 exact dite_both h (fun q h=> .inl ⟨q,Option.some.inj h⟩) fun q h=> .inr ⟨q,h⟩
structure Inst0 (s:Shared)(Ca:Addr)(s':Shared):Prop where
 i:s'.heap.get? (s.heap.objs.size+1)=some (PySem.W.instObj Ca s.heap.objs.size)
 d:s'.heap.Ns1 s.heap.objs.size fun ω=>none
theorem inst0 (s:Shared)(Ca:Addr):Inst0 s Ca {s with heap:=(s.heap.push PySem.W.emptyDict).push (PySem.W.instObj Ca s.heap.objs.size)}:=
 ⟨(Heap.size_push s.heap PySem.W.emptyDict)▸Heap.get?_push_size _ rfl,Heap.Ns1.of_empty ((Heap.Ns.new s.heap (.type "dict")).keeps fun b o e=>Heap.get?_push_of_some _ e)⟩
theorem cls_con {K:PySem.W.Frag}{Ca:Addr}(FK: ∀s,Inv W s→K.In s.heap)(hm:PySem.W.makesIn K Ca=true)(hi:PySem.W.findIn K (.ref Ca) "__init__" =some (some (.ref fa)))(hf:PySem.W.typeIn K (.ref fa)=some (.type "function"))
  (Da:DefAt W fa f fd) (CK:CfgOk W C k) (KS:StoreOk W C) {n m:Nat} {ds:List D} {d:D} (h:runI C n m Ca f ds=some d):Con W (k+1) Ca ds d:=fun A s μ vs hr i hmu r=>by
 obtain⟨ps0,body,names⟩:=f
 cases ps0 with
 |nil=>first|exact nf h|exact ns h|cases h
 |cons self ps=>
 refine oi h fun hl h=>ob h fun o hx h=> ?_
 cases o with
 |brk=>first|exact nf h|exact ns h|cases h
 |ret=>first|exact nf h|exact ns h|cases h
 |next ρ'=>
 have t:Stp W s {s with heap:=(s.heap.push PySem.W.emptyDict).push (PySem.W.instObj Ca s.heap.objs.size)}:= .of (fun b o e=>Heap.get?_push_of_some _ (Heap.get?_push_of_some _ e)) rfl rfl (Nat.le_refl _)
 have z:=inst0 s Ca
 have n1: ∀a∈ [s.heap.objs.size+1,s.heap.objs.size],s.heap.get? a=none:=fun a q=>(List.mem_cons.mp q).elim (fun q=>q▸none_of_size (Nat.le_succ _)) fun q=>List.mem_singleton.mp q▸none_of_size (Nat.le_refl _)
 refine PySem.W.make_core (PySem.W.makes_of (FK _ i) hm) (PySem.W.looks_findIn (FK _ i) hi) (fun self=>PySem.W.bind_fn (FK _ i) self hf) (.inl rfl) ?_
 refine Da.call (i.step t) (Nat.lt_of_le_of_lt (Nat.le_trans (Nat.le_succ _) (Nat.le_trans (Nat.le_add_right ..) (Nat.le_add_right ..))) (hr.made Ca vs (callEnvC fd 0 0)).depth) (by rw[List.length_cons,r.1,List.length_cons,hl]) fun s₁ htk htp X=> ?_
 have fr:=Da.enter (F:=withF (fun ω=>[]) self [s.heap.objs.size+1,s.heap.objs.size]) (ρ:=(self,.oi,.inst Ca [])::argsR ps ds) i hmu t (hr.made Ca vs _) htk htp X
  (fun x a q=>(withF_in q).elim (fun q=>⟨n1 a q.2,(List.mem_cons.mp q.2).elim (fun q=>q▸⟨_,z.i⟩) fun q=>by obtain⟨o,_,_,ho,_⟩:=z.d;exact⟨o,by rw[List.mem_singleton.mp q];exact ho⟩⟩) fun q=>nomatch q.2)
  (fun x y a q1 q2=>(withF_in q1).elim (fun q1=>(withF_in q2).elim (fun q2=>q1.1.trans q2.1.symm) fun q2=>nomatch q2.2) fun q1=>nomatch q1.2)
  (fun x tg d e=>(look_or e).elim (fun⟨q1,q2⟩=>by
     cases q2
     subst q1
     refine⟨.head _,_,(List.lookup_cons.trans (by rw[beq_self_eq_true])),?_⟩
     rw[withF_eq rfl]
     exact .mk _ Ca _ [] _ rfl rfl rfl (Nat.succ_ne_self _) z.i z.d rfl .nil) fun⟨q1,q2⟩=>by
     obtain⟨h1,v,h2,h3,h4⟩:=lookup_args (ps:=ps) r q2
     subst h3
     refine⟨.tail _ h1,v,(List.lookup_cons.trans (by rw[beq_false_of_ne q1];exact h2)),?_⟩
     rw[withF_ne q1]
     exact .fr ((h4.mu fun a o e z=>z.resolve_right fun⟨y,z⟩=>(withF_in z).elim (fun z=>nomatch (n1 a z.2).symm.trans e) fun z=>nomatch z.2).kept t.kept))
  (fun x d e=>(look_or e).elim (fun q=>withF_eq q.1) fun q=>by obtain⟨_,_,_,q,_⟩:=lookup_args (ps:=ps) r q.2;exact nomatch q)
 refine wpAny_mono (stms_sound (sx_sound CK KS n m) _ _ _ _ _ hx fr) (fun fl s' ⟨e,F',z⟩=>⟨e▸rfl,z.f.stp,_,rfl,ob h fun q h1 h2=> ?_⟩) no
 obtain⟨t,d'⟩:=q
 cases t with
 |oi=>
  cases h2
  have ho:=z.f.oi self _ h1
  obtain⟨v,hv,rv⟩:=z.f.see self _ _ h1
  rw[ho] at rv
  have hv':v= .ref (s.heap.objs.size+1):=let .mk _ _ _ _ _ f e _ _ _ _ _ _:=rv;e.trans (congrArg Value.ref (List.cons.inj f).1.symm)
  exact hv'▸RepF.freeze (t:= .oi) rv (fun a ha q=>not_there (n1 a ha) (hmu.hi a q)) fun a o ω q=> .inl q
 |_=>first|exact nf h2|exact ns h2|cases h2
end
end Mine
namespace Mine
open PySem PyProof.Rows
section
variable {W:Wd}{s:Shared}{A:Around}{K:PySem.W.Frag}{C x c dx f:Addr}{m:Str}{kvs:List (Str×Value)}{v:Value}
theorem nsFind_eq {es:Array DictEntry}{m:Str→Option Value}{name:Str}(h:nsFind es name=m name):es.toList.find? (·.key.isStr name)=none∧m name=none∨ ∃e,es.toList.find? (·.key.isStr name)=some e∧m name=some e.val:=by
 unfold nsFind findBy at h
 rw[←Array.find?_toList] at h
 cases q:es.toList.find? (·.key.isStr name) with
 |none=>rw[q] at h;exact .inl ⟨rfl,h.symm⟩
 |some e=>rw[q] at h;exact .inr ⟨e,rfl,h.symm⟩
theorem ns_look {h:Heap}{m:Str→Option Value}(n:h.Ns dx m): ∃od,h.get? dx=some od∧ ∀name,PySem.W.lookIn name od=some (m name):=by
 obtain⟨o,es,ep,ho,hd,hk,hf⟩:=n
 refine⟨o,ho,fun name=> ?_⟩
 unfold PySem.W.lookIn
 rw[hd]
 dsimp only
 have hr:es.toList.any (·.refKey)=false:=by
  rw[List.any_eq_false];intro e he;obtain⟨n,t,z⟩:=hk e (Array.mem_toList_iff.mp he);simp[DictEntry.refKey,z]
 rcases nsFind_eq (hf name) with⟨e1,e2⟩|⟨e,e1,e2⟩
 ·rw[e1,e2,hr];rfl
 ·rw[e1,e2]
theorem inst_at {h:Heap}{od:Obj}(g1:h.get? x=some (PySem.W.instObj c dx))(g2:h.get? dx=some od):PySem.W.InstAt h x (PySem.W.instObj c dx) c (some od):=⟨g1,rfl,rfl,g2⟩
structure PlainCls (K:PySem.W.Frag)(c:Addr):Prop where
 ga:PySem.W.findIn K (.ref c) "__getattribute__" =some (some (.builtin "object.__getattribute__"))
 gat:PySem.W.findIn K (.ref c) "__getattr__" =some none
 sa:PySem.W.findIn K (.ref c) "__setattr__" =some (some (.builtin "object.__setattr__"))
 over:PySem.W.plainOver K c=true
 dict: ∃cd,PySem.W.clsIn K c=some cd∧cd.hasDict=true
theorem meth_ok (X:K.In s.heap)(P:PlainCls K c)(hf:PySem.W.findIn K (.ref c) m=some (some (.ref f)))(ht:PySem.W.typeIn K (.ref f)=some (.type "function"))
  (g1:s.heap.get? x=some (PySem.W.instObj c dx)) (g2:s.heap.Ns dx (fun x=>kvs.lookup x)) (g3:kvs.lookup m=none) {pl:Sem Bool} {Q:Value×List Value→Shared→Prop}
  (h:Q (.ref f,[.ref x]) s):wpAny (MD W) A (getMethod (.ref x) m pl) Q No s:=by
 obtain⟨od,h1,h2⟩:=ns_look g2
 exact PySem.W.method_fn X (inst_at g1 h1) P.ga P.gat hf ht (by show(PySem.W.lookIn m od).map _=_;rw[h2,g3];rfl) h
theorem iattr_ok (X:K.In s.heap)(P:PlainCls K c)(hn:PySem.W.findIn K (.ref c) m=some none)
  (g1:s.heap.get? x=some (PySem.W.instObj c dx)) (g2:s.heap.Ns dx (fun x=>kvs.lookup x)) (g3:kvs.lookup m=some v) (hh:PySem.W.handedIn v=true) {Q:Value→Shared→Prop}
  (h:Q v {s with toks:=s.toks+1}):wpAny (MD W) A (getAttr (.ref x) m true) Q No s:=by
 obtain⟨od,h1,h2⟩:=ns_look g2
 refine PySem.W.get_value X (inst_at g1 h1) P.ga ?_ hh h
 obtain⟨cd,hc,hd⟩:=P.dict
 unfold PySem.W.findObj
 rw[hc,hn]
 simp only[Option.bind_some]
 unfold PySem.W.ownOf
 rw[if_pos hd]
 simp only[h2,g3,Option.bind_some]
theorem store_ok (X:K.In s.heap)(P:PlainCls K c)(hn:PySem.W.takerIn K c m=some none)
  (g1:s.heap.get? x=some (PySem.W.instObj c dx)) (g2:s.heap.Ns1 dx (fun x=>kvs.lookup x)) (hne:x≠dx) (hl:kvs.length≤lim) {Q:Unit→Shared→Prop}
  (h: ∀h' tk,s.toks≤tk→h'.get? x=some (PySem.W.instObj c dx)→h'.Ns1 dx (fun y=>if y=m then some v else kvs.lookup y)→(∀b o,b≠x→b≠dx→s.heap.get? b=some o→h'.get? b=some o)→Q () {s with heap:=h',toks:=tk}):
  wpAny (MD W) A (setAttr (.ref x) m v) Q No s:=by
 obtain⟨od,h1,h2⟩:=ns_look g2.ns
 obtain⟨cd,hc,hd⟩:=P.dict
 have I:=inst_at g1 h1
 refine PySem.W.set_plain X I P.sa ?_
 have I':PySem.W.InstAt ({s with toks:=s.toks+1}:Shared).heap x (PySem.W.instObj c dx) c (some od):=I
 refine PySem.W.osa_open (s:={s with toks:=s.toks+1}) X I' P.over hn fun b=> ?_
 refine wpAny_bind (wpAny_pure (wpAny_bind (wpAny_bind (wpAny_loadPart (s:={s with toks:=s.toks+1}) g1 (wpAny_bind ((PySem.W.looks_clsIn X hc).here (s:={s with toks:=s.toks+1}) ?_))))))
 rw[hd]
 refine wpAny_pure (a:=some dx) (wpAny_bind (wpAny_pure (wpAny_bind (wpAny_nsSet1 (s:={s with toks:=s.toks+1}) g2 fun h' hn' hs=> ?_))))
 have hw:Within (fun x=>kvs.lookup x) (kvs.map (·.1)):=fun y hy=>by
  cases e:kvs.lookup y with
  |none=>exact absurd e hy
  |some u=>exact List.mem_map_of_mem (mem_of_lookup e)
 obtain⟨oD,esD,epD,hoD,hdD,hcD⟩:=hn'.count (Within.cons m v hw)
 refine wpAny_bind (wpAny_lookBehind hoD (by rw[hdD];exact pastItsLine_dict (Nat.le_trans hcD (by rw[List.length_cons,List.length_map,sizeLine_eq];unfold lim at hl;omega))) ?_)
 exact wpAny_pure (h h' (s.toks+1+1) (by omega) (by rw[hs.2 x hne];exact g1) hn' fun b o hb1 hb2 e=>(hs.2 b hb2).trans e)
theorem cattr_ok (X:K.In s.heap){mc u:Value}(hr:PySem.W.readsIn K c mc=true)(e:PySem.W.findCls K (.ref c) mc m=some (.val u))(hh:PySem.W.handedIn u=true){Q:Value→Shared→Prop}
  (h:Q u {s with toks:=s.toks+1}):wpAny (MD W) A (getAttr (.ref c) m true) Q No s:=PySem.W.cls_value X hr e hh h
theorem callee_ok (FK: ∀s,Inv W s→K.In s.heap){a:Addr}(hk:PySem.W.keepIn K (.ref a)=true){pos:Pos}{first:List Value}{args:List (Bool×Sem Value)}{Q:Value→Shared→Prop}(hp:args.any (·.1)=false)
  (h:wpAny (MD W) A (evalArgs (.ref a) true args []) (fun x s₁=>Inv W s₁∧x.kw= []∧wpAny (MD W) A (call (.ref a) (first++x.pos) []) Q No s₁) No s):wpAny (MD W) A (callWith pos (.ref a) first args []) Q No s:=
 PySem.W.callWith_of (by rw[hp];rfl) (PySem.W.keeps_K hk) (wpAny_mono h (fun x s₁ z=>⟨FK _ z.1,by rw[z.2.1];exact z.2.2⟩) no)
end
end Mine
namespace Mine
open PySem PyProof.Rows
namespace Ip
open PySem.Sre
noncomputable def code:Array Nat:= #[14,8,1,2,4294967295,1,1,46,0,16,46,24,9,1,4294967295,13,4,8,0,0,1,6,5,1]
noncomputable def Goes (b:Nat) (m m':M):Prop:= ∃n,n≤b∧ ∀j,m.runFor (n+j)=m'.runFor j
theorem Goes.trans {a b:Nat}{m m' m'':M}(x:Goes a m m')(y:Goes b m' m''):Goes (a+b) m m'':=by
 obtain⟨n,h1,h2⟩:=x
 obtain⟨k,h3,h4⟩:=y
 exact⟨n+k,by omega,fun j=>by rw[Nat.add_assoc,h2,h4]⟩
theorem Goes.refl {m:M}:Goes 0 m m:=⟨0,Nat.le_refl _,fun j=>by rw[Nat.zero_add]⟩
theorem Goes.more {a b:Nat}{m m':M}(x:Goes a m m')(h:a≤b):Goes b m m':=by obtain⟨n,h1,h2⟩:=x;exact⟨n,by omega,h2⟩
theorem Goes.one {m m':M}(h:m.outcome=none)(e:m.step=m'):Goes 1 m m':=⟨1,Nat.le_refl _,fun j=>by
 rw[Nat.add_comm];show(if m.outcome.isSome then m else M.runFor j m.step)=_
 rw[h,e];rfl⟩
theorem runFor_end {m:M}(h:m.outcome.isSome=true): ∀j,m.runFor j=m
 |0=>rfl
 |j+1=>by show(if m.outcome.isSome then m else _)=_;rw[if_pos h]
theorem runFor_add: ∀(a b:Nat) (m:M),m.runFor (a+b)=(m.runFor a).runFor b
 |0,b,m=>by rw[Nat.zero_add];rfl
 |a+1,b,m=>by
  rw[Nat.add_right_comm]
  show(if m.outcome.isSome then m else M.runFor (a+b) m.step)=M.runFor b (if m.outcome.isSome then m else M.runFor a m.step)
  split
  ·rename_i h;rw[runFor_end h]
  ·exact runFor_add a b _
noncomputable def fr (s:Nat) (om:Bool):Sre.Frame:={wait:= .nextStart,pc:=9,pos:=s,outermost:=om}
noncomputable def at0 (t:Array Nat) (s:Nat) (seen:Sre.Seen) (om:Bool):M:=
 {code:=code,text:=t,lim:=t.size,start:=s,lastStart:=t.size,pc:=9,pos:=s,handed:=s,outermost:=om,marks:= #[],frames:=[fr s om],weight:=1,seen:=seen}
theorem acc_dot (c:Nat)(seen:Sre.Seen):accepts code 9 c seen= .ok (c==46,seen):=rfl
theorem acc_fig (c:Nat)(seen:Sre.Seen): ∃seen',accepts code 15 c seen= .ok (isDigit c,seen'):=by
 have e:accepts code 15 c seen=(do if←category 0 c then pure (true,(seen.add 8).add 55) else inSet code c 23 19 true ((seen.add 8).add 55)):=rfl
 rw[e]
 have e2:category 0 c= .ok (isDigit c):=by show Except.ok (isDigit c !=false)=_;cases isDigit c<;>rfl
 rw[e2]
 cases isDigit c with
 |true=>exact⟨_,rfl⟩
 |false=>exact⟨_,rfl⟩
theorem run_none {t:Array Nat}{n p found:Nat}{seen:Sre.Seen}(h:isDigit (t.getD p 0)=false): ∃seen',Sre.run code t 15 n p found seen= .ok (found,seen'):=by
 cases n with
 |zero=>exact⟨_,rfl⟩
 |succ n=>
  obtain⟨s',e⟩:=acc_fig (t.getD p 0) seen
  refine⟨s',?_⟩
  show(do let (yes,seen)←accepts code 15 (t.getD p 0) seen;if yes then Sre.run code t 15 n (p+1) (found+1) seen else pure (found,seen))=_
  rw[e,h];rfl
theorem run_all {t:Array Nat}: ∀{n p found:Nat} {seen:Sre.Seen},(∀j,j<n→isDigit (t.getD (p+j) 0)=true)→ ∃seen',Sre.run code t 15 n p found seen= .ok (found+n,seen')
 |0,p,found,seen,_=>⟨_,rfl⟩
 |n+1,p,found,seen,h=>by
  obtain⟨s',e⟩:=acc_fig (t.getD p 0) seen
  obtain⟨s'',e2⟩:=run_all (t:=t) (n:=n) (p:=p+1) (found:=found+1) (seen:=s') fun j hj=>by
   have:=h (j+1) (by omega);rwa[Nat.add_comm j 1,←Nat.add_assoc] at this
  refine⟨s'',?_⟩
  show(do let (yes,seen)←accepts code 15 (t.getD p 0) seen;if yes then Sre.run code t 15 n (p+1) (found+1) seen else pure (found,seen))=_
  rw[e,show isDigit (t.getD p 0)=true from h 0 (by omega)]
  show Sre.run code t 15 n (p+1) (found+1) s'=_
  rw[e2,show found+1+n=found+(n+1) by omega]
noncomputable def failed (t:Array Nat) (s:Nat) (seen:Sre.Seen) (om:Bool) (pc pos:Nat):M:={at0 t s seen om with pc:=pc,pos:=pos,answer:=some false}
theorem go_on {t:Array Nat}{s:Nat}{seen:Sre.Seen}{om:Bool}{pc pos:Nat}(hs:s<t.size):Goes 1 (failed t s seen om pc pos) (at0 t (s+1) seen false):=by
 have e:(failed t s seen om pc pos).step=(if s<t.size then M.attemptFrom {failed t s seen om pc pos with answer:=none,frames:=[],weight:=0,pc:=9,pos:=s,outermost:=om,mustAdvance:=false} (s+1) false else M.say {failed t s seen om pc pos with answer:=none,frames:=[],weight:=0,pc:=9,pos:=s,outermost:=om} false):=rfl
 rw[if_pos hs] at e
 exact .one rfl e
theorem give_up {t:Array Nat}{s:Nat}{seen:Sre.Seen}{om:Bool}{pc pos:Nat}(hs: ¬s<t.size): ∃m',Goes 2 (failed t s seen om pc pos) m'∧m'.outcome=some .failed:=by
 have e:(failed t s seen om pc pos).step=(if s<t.size then M.attemptFrom {failed t s seen om pc pos with answer:=none,frames:=[],weight:=0,pc:=9,pos:=s,outermost:=om,mustAdvance:=false} (s+1) false else M.say {failed t s seen om pc pos with answer:=none,frames:=[],weight:=0,pc:=9,pos:=s,outermost:=om} false):=rfl
 rw[if_neg hs] at e
 exact⟨_,(Goes.one rfl e).trans (Goes.one rfl rfl),rfl⟩
theorem miss {t:Array Nat}{s:Nat}{seen:Sre.Seen}{om:Bool}(h:s<t.size→t.getD s 0=46→s+1<t.size→isDigit (t.getD (s+1) 0)=false): ∃seen' pc pos,Goes 2 (at0 t s seen om) (failed t s seen' om pc pos):=by
 have e1:(at0 t s seen om).step=(if s≥t.size then({at0 t s (seen.add 16) om with answer:=some false}:M) else
   if t.getD s 0==46 then{at0 t s (seen.add 16) om with pc:=11,pos:=s+1} else{at0 t s (seen.add 16) om with answer:=some false}):=by
  show(if s≥t.size then({at0 t s (seen.add 16) om with answer:=some false}:M) else match accepts code 9 (t.getD s 0) (seen.add 16) with
   | .error why=>M.stick (at0 t s (seen.add 16) om) why
   | .ok (false,seen)=>{at0 t s seen om with answer:=some false}
   | .ok (true,seen)=>{at0 t s seen om with pc:=11,pos:=s+1})=_
  rw[acc_dot]
  cases (t.getD s 0==46)<;>rfl
 by_cases hs:s<t.size
 ·rw[if_neg (Nat.not_le.mpr hs)] at e1
  cases hd:(t.getD s 0==46) with
  |false=>rw[hd] at e1;exact⟨_,9,s,(Goes.one rfl e1).more (by omega)⟩
  |true=>
   rw[hd] at e1
   have h2:=h hs (by simpa using hd)
   let m1:M:={at0 t s (seen.add 16) om with pc:=11,pos:=s+1}
   have hm:Goes 1 (at0 t s seen om) m1:= .one rfl e1
   have e2:m1.step=(if((1:Nat):Int)>(t.size:Int) - ((s+1:Nat):Int) then({m1 with seen:=m1.seen.add 24,answer:=some false}:M) else
     match Sre.run code t 15 (min 4294967295 ((t.size:Int) - ((s+1:Nat):Int)).toNat) (s+1) 0 ((m1.seen.add 24).add 13) with
     | .error why=>M.stick {m1 with seen:=m1.seen.add 24} why
     | .ok (n,seen)=>if n<1 then{m1 with seen:=seen,answer:=some false} else M.afterRun {m1 with seen:=seen,pos:=s+1+n} .giveBack n (({m1 with seen:=seen,pos:=s+1+n}:M).keep false)):=rfl
   by_cases hr:s+1<t.size
   ·obtain⟨s',e3⟩:=run_none (n:=min 4294967295 ((t.size:Int) - ((s+1:Nat):Int)).toNat) (found:=0) (seen:=(m1.seen.add 24).add 13) (h2 hr)
    rw[if_neg (by omega),e3] at e2
    exact⟨s',11,s+1,hm.trans (.one rfl e2)⟩
   ·rw[if_pos (by omega)] at e2
    exact⟨_,11,s+1,hm.trans (.one rfl e2)⟩
 ·rw[if_pos (Nat.not_lt.mp hs)] at e1
  exact⟨_,9,s,(Goes.one rfl e1).more (by omega)⟩
theorem hit {t:Array Nat}{s:Nat}{seen:Sre.Seen}{om:Bool}{n:Nat}(h1:t.getD s 0=46)(hn:0<n)(hz:s+1+n=t.size)(hl:t.size<4294967295)(hd: ∀j,j<n→isDigit (t.getD (s+1+j) 0)=true):
  ∃m',Goes 8 (at0 t s seen om) m'∧m'.outcome=some .matched:=by
 have e1:(at0 t s seen om).step=(if s≥t.size then({at0 t s (seen.add 16) om with answer:=some false}:M) else
   if t.getD s 0==46 then{at0 t s (seen.add 16) om with pc:=11,pos:=s+1} else{at0 t s (seen.add 16) om with answer:=some false}):=by
  show(if s≥t.size then({at0 t s (seen.add 16) om with answer:=some false}:M) else match accepts code 9 (t.getD s 0) (seen.add 16) with
   | .error why=>M.stick (at0 t s (seen.add 16) om) why
   | .ok (false,seen)=>{at0 t s seen om with answer:=some false}
   | .ok (true,seen)=>{at0 t s seen om with pc:=11,pos:=s+1})=_
  rw[acc_dot]
  cases (t.getD s 0==46)<;>rfl
 rw[if_neg (by omega),if_pos (by simp[h1])] at e1
 let m1:M:={at0 t s (seen.add 16) om with pc:=11,pos:=s+1}
 have e2:m1.step=(if((1:Nat):Int)>(t.size:Int) - ((s+1:Nat):Int) then({m1 with seen:=m1.seen.add 24,answer:=some false}:M) else
   match Sre.run code t 15 (min 4294967295 ((t.size:Int) - ((s+1:Nat):Int)).toNat) (s+1) 0 ((m1.seen.add 24).add 13) with
   | .error why=>M.stick {m1 with seen:=m1.seen.add 24} why
   | .ok (n,seen)=>if n<1 then{m1 with seen:=seen,answer:=some false} else M.afterRun {m1 with seen:=seen,pos:=s+1+n} .giveBack n (({m1 with seen:=seen,pos:=s+1+n}:M).keep false)):=rfl
 have hm:min 4294967295 ((t.size:Int) - ((s+1:Nat):Int)).toNat=n:=by omega
 obtain⟨s',e3⟩:=run_all (t:=t) (n:=n) (p:=s+1) (found:=0) (seen:=(m1.seen.add 24).add 13) hd
 rw[if_neg (by omega),hm,e3] at e2
 dsimp only at e2
 rw[Nat.zero_add,if_neg (by omega)] at e2
 let m2:M:=M.afterRun {m1 with seen:=s',pos:=s+1+n} .giveBack n (({m1 with seen:=s',pos:=s+1+n}:M).keep false)
 have e4:m2.step=(if(s+1+n==t.size||(s+1+n+1==t.size&&t.getD (s+1+n) 0==10)) then({m2 with seen:=(m2.seen.add 6).add 48,pc:=23}:M) else{m2 with seen:=(m2.seen.add 6).add 48,answer:=some false}):=rfl
 rw[if_pos (by rw[hz];simp)] at e4
 let m3:M:={m2 with seen:=(m2.seen.add 6).add 48,pc:=23}
 have e5:m3.step=(if om&&((false&&s+1+n !=t.size)||(false&&s+1+n==s)) then({m3 with seen:=m3.seen.add 1,answer:=some false}:M) else{m3 with seen:=m3.seen.add 1,handed:=s+1+n,answer:=some true}):=rfl
 rw[if_neg (by simp)] at e5
 refine⟨_,((((Goes.one rfl e1).trans (Goes.one (m:=m1) rfl e2)).trans (Goes.one (m:=m2) rfl e4)).trans (Goes.one (m:=m3) rfl e5)).trans ((Goes.one rfl rfl).trans ((Goes.one rfl rfl).trans (Goes.one rfl rfl)))|>.more (by omega),rfl⟩
noncomputable def noFig (t:Array Nat) (b:Nat):Prop:= ∀s,s<b→t.getD s 0=46→s+1<t.size→isDigit (t.getD (s+1) 0)=false
theorem walk {t:Array Nat}{b:Nat}(hb:b≤t.size)(h:noFig t b): ∀(d s:Nat) (seen:Sre.Seen) (om:Bool),s+d=b→ ∃seen' om',Goes (3*d) (at0 t s seen om) (at0 t b seen' om')
 |0,s,seen,om,e=>by rw[Nat.add_zero] at e;subst e;exact⟨seen,om,.refl⟩
 |d+1,s,seen,om,e=>by
  obtain⟨seen',pc,pos,g⟩:=miss (t:=t) (s:=s) (seen:=seen) (om:=om) fun ω=>h s (by omega)
  obtain⟨s2,o2,g2⟩:=walk hb h d (s+1) seen' false (by omega)
  exact⟨s2,o2,((g.trans (go_on (by omega))).trans g2).more (by omega)⟩
theorem search_none {t:Array Nat}(h:noFig t t.size): ∃m',Goes (3*t.size+5) (Sre.forSearch code t 0 0 t.size false) m'∧m'.outcome=some .failed:=by
 have e:Sre.forSearch code t 0 0 t.size false=if(decide (0>t.size)||decide (t.size - 0<2))=true then{code:=code,text:=t,lim:=t.size,start:=0,pc:=9,pos:=0,handed:=0,marks:= #[],seen:=({}:Sre.Seen).add 14,answer:=some false} else at0 t 0 (({}:Sre.Seen).add 14) true:=rfl
 rw[e]
 split
 ·exact⟨_,(Goes.one rfl rfl).more (by omega),rfl⟩
 ·obtain⟨seen',om',g⟩:=walk (Nat.le_refl _) h t.size 0 (({}:Sre.Seen).add 14) true (by omega)
  obtain⟨s2,pc,pos,g2⟩:=miss (t:=t) (s:=t.size) (seen:=seen') (om:=om') fun q=>absurd q (Nat.lt_irrefl _)
  obtain⟨m',g3,hm⟩:=give_up (t:=t) (s:=t.size) (seen:=s2) (om:=om') (pc:=pc) (pos:=pos) (Nat.lt_irrefl _)
  exact⟨m',((g.trans g2).trans g3).more (by omega),hm⟩
theorem search_some {t:Array Nat}{b n:Nat}(h:noFig t b)(h1:t.getD b 0=46)(hn:0<n)(hz:b+1+n=t.size)(hl:t.size<4294967295)(hd: ∀j,j<n→isDigit (t.getD (b+1+j) 0)=true):
  ∃m',Goes (3*t.size+9) (Sre.forSearch code t 0 0 t.size false) m'∧m'.outcome=some .matched:=by
 have e:Sre.forSearch code t 0 0 t.size false=if(decide (0>t.size)||decide (t.size - 0<2))=true then{code:=code,text:=t,lim:=t.size,start:=0,pc:=9,pos:=0,handed:=0,marks:= #[],seen:=({}:Sre.Seen).add 14,answer:=some false} else at0 t 0 (({}:Sre.Seen).add 14) true:=rfl
 rw[e,if_neg (by simp;omega)]
 obtain⟨seen',om',g⟩:=walk (by omega) h b 0 (({}:Sre.Seen).add 14) true (by omega)
 obtain⟨m',g3,hm⟩:=hit (t:=t) (s:=b) (seen:=seen') (om:=om') h1 hn hz hl hd
 exact⟨m',(g.trans g3).more (by omega),hm⟩
end Ip
end Mine
namespace Mine
open PySem PyProof.Rows
namespace Ip
open PySem.Sre PySem.Builtin.Re
noncomputable def noFigL:List Nat→Bool
 |a::b::r=> !(a==46&&isDigit b)&&noFigL (b::r)
 |_=>true
noncomputable def headFig:List Nat→Bool
 |b::_=>isDigit b
 | []=>false
noncomputable def endFigL:List Nat→Bool
 | []=>false
 |a::r=>(a==46&& !r.isEmpty&&r.all isDigit)||(!(a==46&&headFig r)&&endFigL r)
theorem noFig_of: ∀{l:List Nat},noFigL l=true→ ∀s,l.getD s 0=46→s+1<l.length→isDigit (l.getD (s+1) 0)=false
 | [],_,s,_,h=>by simp at h
 | [a],_,s,_,h=>by simp at h
 |a::b::r,h,0,e,_=>by
  simp only[noFigL,Bool.and_eq_true] at h
  simp at e;subst e
  simpa using h.1
 |a::b::r,h,s+1,e,hs=>by
  simp only[noFigL,Bool.and_eq_true] at h
  simpa using noFig_of h.2 s (by simpa using e) (by simpa using hs)
theorem endFig_of: ∀{l:List Nat},endFigL l=true→ ∃b n,(∀s,s<b→l.getD s 0=46→s+1<l.length→isDigit (l.getD (s+1) 0)=false)∧l.getD b 0=46∧0<n∧b+1+n=l.length∧ ∀j,j<n→isDigit (l.getD (b+1+j) 0)=true
 | [],h=>by cases h
 |a::r,h=>by
  simp only[endFigL,Bool.or_eq_true,Bool.and_eq_true] at h
  rcases h with⟨⟨h1,h2⟩,h3⟩|⟨h1,h2⟩
  ·refine⟨0,r.length,fun s hs=>absurd hs (Nat.not_lt_zero _),by simpa using h1,by cases r;simp at h2;simp,by simp[Nat.add_comm],fun j hj=> ?_⟩
   have hm:r[j]∈r:=List.getElem_mem hj
   have:=(List.all_eq_true.mp h3) _ hm
   rw[show 0+1+j=j+1 by omega]
   simpa [List.getD,hj] using this
  ·obtain⟨b,n,g1,g2,g3,g4,g5⟩:=endFig_of h2
   refine⟨b+1,n,fun s hs e hl=> ?_,by simpa using g2,g3,by simp;omega,fun j hj=>by rw[show b+1+1+j=(b+1+j)+1 by omega];simpa using g5 j hj⟩
   cases s with
   |zero=>
    simp at e;subst e
    cases r with
    |nil=>simp at hl
    |cons c r=>simpa [headFig] using h1
   |succ s=>simpa using g1 s (by omega) (by simpa using e) (by simpa using hl)
noncomputable def search (x:Str):Option D:=if x.cps.size≤lim then(if noFigL x.cps.toList then some .none else if endFigL x.cps.toList then some .mtch else none) else none
theorem search_ends {x:Str}{d:D}(h:search x=some d): ∃n m',n≤4*2^64∧(Sre.forSearch code x.cps 0 0 x.cps.size false).runFor n=m'∧((d= .none∧m'.outcome=some .failed)∨(d= .mtch∧m'.outcome=some .matched)):=by
 unfold search at h
 split at h
 rotate_left
 ·cases h
 rename_i hl
 obtain⟨⟨l⟩⟩:=x
 dsimp only at h hl⊢
 have hl':l.length≤lim:=hl
 have hz:(⟨l⟩:Array Nat).size=l.length:=rfl
 have gd: ∀s,(⟨l⟩:Array Nat).getD s 0=l.getD s 0:=fun s=>by simp[Array.getD_eq_getD_getElem?,List.getD]
 split at h
 ·rename_i q
  cases h
  obtain⟨m',⟨n,hn,g⟩,ho⟩:=search_none (t:=⟨l⟩) fun s ω e hs=>by rw[gd] at e⊢;exact noFig_of q s e hs
  refine⟨n,m',by rw[hz] at hn;unfold lim at hl';omega,?_,.inl ⟨rfl,ho⟩⟩
  have:=g 0
  rw[Nat.add_zero] at this
  exact this
 ·split at h
  ·rename_i q
   cases h
   obtain⟨b,n,g1,g2,g3,g4,g5⟩:=endFig_of q
   obtain⟨m',⟨k,hk,g⟩,ho⟩:=search_some (t:=⟨l⟩) (b:=b) (n:=n) (fun s hs e hs'=>by rw[gd] at e⊢;exact g1 s hs e hs') (by rw[gd];exact g2) g3 g4 (by rw[hz];unfold lim at hl';omega) (fun j hj=>by rw[gd];exact g5 j hj)
   refine⟨k,m',by rw[hz] at hk;unfold lim at hl';omega,?_,.inr ⟨rfl,ho⟩⟩
   have:=g 0
   rw[Nat.add_zero] at this
   exact this
  ·cases h
section
variable {W:Wd}{M:Model}{A:Around}{E:Value→Shared→Prop}{s:Shared}
theorem drive {Q:Sre.M→Shared→Prop}: ∀(turns n:Nat) (m:Sre.M),n≤4*turns→0<turns→(m.runFor n).outcome.isSome=true→Q (m.runFor n) s→wpAny M A (reDrive turns m) Q E s
 |0,n,m,_,h,_,_=>absurd h (Nat.lt_irrefl _)
 |turns+1,n,m,hn,_,ho,hq=>by
  show wpAny M A (if(m.runFor 4).outcome.isSome then pure (m.runFor 4) else(rule "sre.turn" >>=fun ω=>reDrive turns (m.runFor 4))) Q E s
  by_cases h4:n≤4
  ·have e:m.runFor 4=m.runFor n:=by
    have:=runFor_add n (4 - n) m
    rw[show n+(4 - n)=4 by omega,runFor_end ho] at this
    exact this
   rw[e,if_pos ho];exact wpAny_pure hq
  ·have e:m.runFor n=(m.runFor 4).runFor (n - 4):=by
    have:=runFor_add 4 (n - 4) m
    rwa[show 4+(n - 4)=n by omega] at this
   split
   ·rename_i h
    rw[e,runFor_end h] at hq
    exact wpAny_pure hq
   ·rw[e] at ho hq
    exact wpAny_bind (wpAny_rule (drive turns (n - 4) _ (by omega) (by omega) ho hq))
theorem to_end {Q:Option Sre.M→Shared→Prop}{m m':Sre.M}{n:Nat}(hn:n≤4*2^64)(e:m.runFor n=m')(h:(m'.outcome=some .failed∧Q none s)∨(m'.outcome=some .matched∧Q (some m') s)):wpAny M A (reRunToEnd m) Q E s:=by
 unfold reRunToEnd
 refine wpAny_bind (drive _ n m hn (by decide) (by rw[e];rcases h with h|h<;>rw[h.1]<;>rfl) ?_)
 rw[e]
 refine wpAny_bind (wpAny_forIn_list _ (fun ω ω s'=>s'=s) _ ?_ ?_ _ _ rfl)
 ·rintro i rest b s' rfl
  split
  ·exact wpAny_bind (wpAny_rule (wpAny_pure rfl))
  ·exact wpAny_pure rfl
 ·rintro b s' rfl
  rcases h with⟨h1,h2⟩|⟨h1,h2⟩
  ·rw[h1];exact wpAny_pure h2
  ·rw[h1];exact wpAny_pure h2
theorem named (id:String)(v:Value):reNamed id "search" ["string","pos","endpos"] 1 [v] []=pure [some v,none,none]:=by rfl
end
end Ip
end Mine
namespace Mine
open PySem PyProof.Rows
namespace Ip
open PySem.Sre PySem.Builtin.Re
theorem plainAttrs:PlainAttrs "re.Pattern" :=
 ⟨⟨"object.__getattribute__",by rw[typeLookup_type,builtinLookup_eq_fast];kernel_rfl,by decide+kernel⟩,by rw[typeLookup_type,builtinLookup_eq_fast];kernel_rfl⟩
theorem slot:Slot "re.Pattern" "search" "re.Pattern.search" :=
 .of (owner:= "re.Pattern") (n:= "search") (by rw[typeLookup_type,builtinLookup_eq_fast];kernel_rfl) (by decide+kernel) (by decide+kernel) (by decide+kernel)
   (by first|exact .inl (by decide+kernel)|exact .inr (by decide+kernel)) (by rw[isSubtype_type];kernel_rfl)
theorem entry:entryFor table "re.Pattern.search" =some Builtin.«re.Pattern.search»:=entryFor_of_tree (by kernel_rfl)
theorem args (a b:Value):argsOk "re.Pattern.search" ⟨[a,b],[]⟩:=by unfold argsOk;kernel_rfl
theorem typ:typeOf (.builtin "re.Pattern.search")=pure (.type "method_descriptor"):=by
 show builtinType _=_;rw[builtinType_eq_fast];kernel_rfl
section
variable {W:Wd}{A:Around}{E:Value→Shared→Prop}{s:Shared}{μ:Addr→Prop}
structure PatAt (h:Heap)(a c:Addr):Prop where
 pat: ∃fs,h.get? a=some {cls:= .type "re.Pattern",data:= .fields fs}∧reRawNat (fs.getD 6 .none)=0∧reRawNat (fs.getD 2 .none)=0∧fs.getD 5 .none= .ref c
 code: ∃o xs n,h.get? c=some o∧o.data= .seq xs n∧(xs.map reRawOf).map (·.toNat)=code
theorem target {a c:Addr}{x:Str}{t:Tok}(P:PatAt s.heap a c)(hx:x.cps.size≤lim){Q:ReTarget→Shared→Prop}
  (h:Q {pattern:= .ref a,string:= .str x t,code:=code,text:=x.cps,kind:=0,groups:=0,pos:=0,lim:=x.cps.size} s):wpAny (MD W) A (reTarget "re.Pattern.search" "search" ⟨[.ref a,.str x t],[]⟩) Q E s:=by
 obtain⟨⟨fs,h1,h2,h3,h4⟩,⟨o,xs,n,h5,h6,h7⟩⟩:=P
 unfold reTarget
 dsimp only
 rw[named]
 refine wpAny_bind (wpAny_pure ?_)
 dsimp only
 refine wpAny_bind (wpAny_pure (wpAny_bind (wpAny_pure ?_)))
 unfold fieldsOf
 refine wpAny_bind (wpAny_bind (wpAny_load h1 (wpAny_pure ?_)))
 refine wpAny_bind (m:=reTextOf _) ?_
 refine wpAny_bind (m:=asStr? _) (wpAny_pure ?_)
 refine wpAny_pure ?_
 dsimp only
 rw[h2]
 refine wpAny_bind (m:=reRawItems _) ?_
 rw[h4]
 unfold reRawItems seqItems?
 refine wpAny_bind (wpAny_bind (wpAny_load h5 ?_))
 rw[h6]
 refine wpAny_pure (wpAny_pure ?_)
 refine wpAny_pure ?_
 have e:min ((2^63 - 1:Int)).toNat x.cps.size=x.cps.size:=by unfold lim at hx;omega
 have e0:min ((0:Int)).toNat x.cps.size=0:=by simp
 dsimp only[Option.getD_some]
 rw[h7,h3,e,e0]
 exact h
theorem search_call {a c:Addr}{x:Str}{t:Tok}{d:D}(P:PatAt s.heap a c)(hm:MuOk W μ s.heap)(hd:search x=some d):wpAny (MD W) A (call (.builtin "re.Pattern.search") [.ref a,.str x t]) (Post W μ s d) No s:=by
 have hx:x.cps.size≤lim:=by unfold search at hd;split at hd;assumption;cases hd
 obtain⟨n,m',hn,he,ho⟩:=search_ends hd
 have hT:s.TypeIs (.ref a) "re.Pattern" :=by obtain⟨fs,h1,_⟩:=P.pat;exact⟨_,h1,rfl⟩
 refine wpAny_call_entry slot hT entry ?_ (args _ _)
 unfold Builtin.«re.Pattern.search»
 refine wpAny_bind (target P hx ?_)
 unfold reAnswer
 dsimp only
 refine wpAny_bind (to_end hn he ?_)
 rcases ho with⟨rfl,ho⟩|⟨rfl,ho⟩
 ·exact .inl ⟨ho,wpAny_pure ⟨.none,rfl,.refl s,.none⟩⟩
 ·refine .inr ⟨ho,?_⟩
  show wpAny _ _ (reNewMatch _ _ 0 _ _ m'>>=_) _ _ _
  refine wpAny_bind (m:=reNewMatch _ _ _ _ _ _) ?_
  unfold reNewMatch
  dsimp only[List.range,List.range.loop,List.flatMap_nil,List.any_nil]
  refine wpAny_bind (wpAny_newTuple ?_ (by simp[sizeLine_eq]))
  refine wpAny_newObj_type ?_ (by show _≤_;simp[sizeLine_eq])
  refine wpAny_pure ⟨_,rfl,?_⟩
  have t1:Stp W s _:=(Stp.push {cls:= .type "tuple",data:= .seq #[rawInt m'.start,rawInt m'.handed]} s.toks (Nat.le_refl _)).trans (Stp.push (s:={s with heap:=s.heap.push {cls:= .type "tuple",data:= .seq #[rawInt m'.start,rawInt m'.handed]}}) {cls:= .type "re.Match",data:= .fields #[.str x t,.ref a,rawInt 0,rawInt x.cps.size,rawInt m'.lastindex,.ref s.heap.objs.size]} s.toks (Nat.le_refl _))
  refine⟨t1,?_⟩
  refine .mtch (o:={cls:= .type "re.Match",data:= .fields #[.str x t,.ref a,rawInt 0,rawInt x.cps.size,rawInt m'.lastindex,.ref s.heap.objs.size]}) (fun q=> ?_) (Heap.get?_push_size _ rfl) rfl
  have h1:=hm.lt q
  have h2:(s.heap.push {cls:= .type "tuple",data:= .seq #[rawInt m'.start,rawInt m'.handed]}).objs.size=s.heap.objs.size+1:=Heap.size_push ..
  exact absurd (h2▸h1) (by show¬(s.heap.objs.size+1<s.heap.objs.size);omega)
end
end Ip
end Mine
namespace Mine
open PySem PyProof.Rows
noncomputable def someB {α:Type} (p:α→Bool):Option α→Bool
 |none=>false
 |some a=>p a
theorem sb {α:Type}{p:α→Bool}{o:Option α}{P:Prop}(h:someB p o=true)(k: ∀a,o=some a→p a=true→P):P:=match o,h with
 |some a,h=>k a rfl h
theorem ab {a b:Bool}{P:Prop}(h:(a&&b)=true)(k:a=true→b=true→P):P:=let q:=Bool.and_eq_true_iff.mp h;k q.1 q.2
noncomputable def p0:Pos:={line:=0,col:=0,endLine:=0,endCol:=0}
noncomputable def sE:Stmt→Expr
 | .Assign _ e _=>e
 | .If t _ _ _=>t
 | .For _ it _ _ _=>it
 | .Return e _=>e.getD (.Constant .none 0 p0)
 |_=> .Constant .none 0 p0
noncomputable def sB:Stmt→List Stmt
 | .If _ b _ _=>b
 | .For _ _ b _ _=>b
 | .Try b _ _ _ _=>b
 |_=>[]
noncomputable def sT:Stmt→Expr
 | .For t _ _ _ _=>t
 |_=> .Constant .none 0 p0
noncomputable def cLR:Expr→Expr×List Expr
 | .Compare l _ rs _=>(l,rs)
 |_=>(.Constant .none 0 p0,[])
noncomputable def argsF:Stmt→Arguments
 | .FunctionDef _ a _ _ _ _ _ _ _ _=>a
 |_=>⟨[],[],none,[],[],none,[]⟩
noncomputable def bodyF:Stmt→List Stmt
 | .FunctionDef _ _ b _ _ _ _ _ _ _=>b
 |_=>[]
noncomputable def scF:Stmt→Scope
 | .FunctionDef _ _ _ _ _ _ sc _ _ _=>sc
 |_=>⟨.function,[],false,false,[]⟩
noncomputable def stF (st:Stmt):Fn:=⟨(argsF st).args.map (·.arg),bodyF st,(scF st).names⟩
noncomputable def inCls (j:Nat):Stmt→Stmt
 | .ClassDef _ _ _ b _ _ _ _ _ _ _=>b.getD j (.Pass p0)
 |_=> .Pass p0
noncomputable def stAt (i:Nat):Stmt:=PySem.Challenge.pw_xt0016_01.main.body.getD i (.Pass p0)
noncomputable def fn (i:Nat):Fn:=stF (stAt i)
noncomputable def fnC (i j:Nat):Fn:=stF (inCls j (stAt i))
noncomputable def defS:List (Addr×Stmt):=[(73,stAt 4),(80,stAt 5),(92,stAt 8),(99,stAt 9),(106,stAt 10),(113,stAt 11),(59,inCls 1 (stAt 3)),(144,inCls 3 (stAt 13)),(193,stAt 16),(200,stAt 17),(207,stAt 18),(214,stAt 19),(221,stAt 20),(226,stAt 22),
 (231,stAt 23),(238,stAt 24),(245,stAt 25),(250,stAt 26),(255,stAt 27),(260,stAt 28),(265,stAt 29),(52,inCls 0 (stAt 3)),(130,inCls 1 (stAt 13))]
noncomputable def defAt (a:Addr):Option Fn:=(defS.lookup a).map stF
noncomputable def globA:List (Str×D):=[("add_func_stats",.obj 73),("add_callers",.obj 80),("is_HDN",.obj 92),("liberal_is_HDN",.obj 99),("user_domain_match",.obj 106),("reach",.obj 113),("TupleComp",.obj 62),("Whitespace",.obj 175),("IPV4_RE",.obj 85)]
noncomputable def globB:List (Str×D):=[("_escape_cdata",.obj 193),("_escape_attrib",.obj 200),("_escape_attrib_html",.obj 207),("_escape_cdata_c14n",.obj 214),("_escape_attrib_c14n",.obj 221),("_law_tree",.obj 226),("_law_reference",.obj 231),("_law_ladder",.obj 238),
 ("_law_part",.obj 245),("_law_way",.obj 250),("_law_side",.obj 255),("_law_joined",.obj 260),("law",.obj 265)]
noncomputable def globC:List (Str×D):=[("len",.bi "len"),("sum",.bi "sum"),("min",.bi "min"),("sorted",.bi "sorted"),("isinstance",.bi "isinstance"),
 ("tuple",.ty "tuple"),("list",.ty "list"),("int",.ty "int"),("range",.ty "range"),("enumerate",.ty "enumerate"),("zip",.ty "zip")]
noncomputable def globL:List (Str×D):=globA++globB++globC
noncomputable def frzT:Nat→List Str:=fun n=>match n with
 |36=>["new_callers"]|89=>["count"]|96=>["count"]|204=>["tree"]|213=>["rungs"]
 |238=>["books","due"]|265=>["news"]|268=>["found"]|299=>["far","due"]|_=>[]
noncomputable def ownL:Nat→Option Tag:=fun n=>match n with
 |25=>some .o1|79=>some .o1|89=>some .o1|196=>some .o1|209=>some .o1|225=>some .o1
 |230=>some .o1|231=>some .o1|260=>some .o2|283=>some .o2|292=>some .o1|_=>none
noncomputable def attrL:List (Nat×List Str):=[(62,["comp_select_list"]),(175,["raw","n","nt","norm","is_simple"])]
noncomputable def iattrT (c:Addr) (m:Str):Bool:=attrL.any fun e=>decide (e.1=c)&&e.2.contains m
noncomputable def methL:List (Addr×Str×Addr):=[(62,"compare",59),(175,"indent_level",144)]
noncomputable def methT (c:Addr) (m:Str):Option Addr:=(methL.find? fun e=>decide (e.1=c∧e.2.1=m)).map fun e=>e.2.2
noncomputable def omethT (a:Addr) (m:Str) (ds:List D):Option D:=iteO (a=85∧m= "search") ((one? ds).bind fun d=>(asStr d).bind Ip.search)
noncomputable def cattrL:List (Addr×Str×Str):=[(175,"S"," "),(175,"T","\t")]
noncomputable def cattrT (c:Addr) (m:Str):Option D:=(cattrL.find? fun e=>decide (e.1=c∧e.2.1=m)).map fun e=> .str e.2.2
noncomputable def mkC (F:Addr→List D→Option D):Cfg:=⟨F,fun x=>globL.lookup x,methT,omethT,cattrT,iattrT,frzT,ownL⟩
noncomputable def cfgF (C:Cfg) (a:Addr) (ds:List D):Option D:=if a=62 then runI C 40 40 62 (fnC 3 0) ds else if a=175 then runI C 40 40 175 (fnC 13 1) ds else(defAt a).bind fun f=>runX C 40 40 f ds
noncomputable def cfg:Nat→Cfg
 |0=>mkC fun ω ω=>none
 |n+1=>mkC (cfgF (cfg n))
end Mine
namespace Mine
open PySem PyProof.Rows
noncomputable def asL:List Addr:=[2,52,59,61,62,63,73,80,84,85,92,99,106,113,130,144,174,175,176,193,200,207,214,221,226,231,238,245,250,255,260,265]
noncomputable def fragO (h:Heap) (a:Addr):Option (Addr×Obj):=(h.get? a).map fun o=>(a,o)
noncomputable def fragH (h:Heap):PySem.W.Frag:=(mainGlobals::asL).filterMap (fragO h)
noncomputable abbrev KH (h:Heap):PySem.W.Frag:=hardF (fragH h) asL
theorem frag_in (h:Heap):(fragH h).In h:=fun a o e=>by
 obtain⟨b,_,h2⟩:=List.mem_filterMap.mp (PySem.W.mem_of_lookupK e)
 exact om h2 fun o' h3 h4=>by
  cases h4
  exact h3
noncomputable def fdD:Data→Option FuncData
 | .func fd=>some fd
 |_=>none
noncomputable def fdAt (h:Heap) (a:Addr):Option FuncData:=(h.get? a).bind fun o=>fdD o.data
noncomputable def isTxt (q:Str):Value→Bool
 | .str x _=>x==q
 |_=>false
noncomputable def recD (q:Str):Data→Bool
 | .fields vs=>someB (isTxt q) vs[1]?
 |_=>false
noncomputable def isRec (h:Heap) (q:Str):Value→Bool
 | .ref c=>someB (fun o=>recD q o.data) (h.get? c)
 |_=>false
noncomputable def isRef (a:Addr):Value→Bool
 | .ref c=>c==a
 |_=>false
noncomputable def restOk (h:Heap) (a:Addr) (fd:FuncData):Bool:=isRec h fd.qualname fd.code&&(isNil fd.closure&&(fd.globals==mainGlobals&&(fd.builtins==builtinsNs&&((a !=80||isRef 79 fd.code)&&isNoneV fd.defaults))))
noncomputable def obsD (h:Heap) (e:Addr×Stmt):Option ((Arguments×FuncBody×Scope)×Bool):=(fdAt h e.1).map fun fd=>((fd.params,fd.body,fd.scope),restOk h e.1 fd)
noncomputable def expD (e:Addr×Stmt):Option ((Arguments×FuncBody×Scope)×Bool):=some ((argsF e.2,.stmts (bodyF e.2),scF e.2),true)
noncomputable def isLC:Option NameKind→Bool
 |none=>false
 |some k=>match k with
  | .local=>true
  | .cell=>true
  |_=>false
theorem isLC_inv {o:Option NameKind}(h:isLC o=true):o=some .local∨o=some .cell:=by
 cases o with
 |none=>first|exact nf h|exact ns h|cases h
 |some k=>cases k with
  |«local»=>exact .inl rfl
  |cell=>exact .inr rfl
  |_=>first|exact nf h|exact ns h|cases h
noncomputable def nmOk (a:Addr) (f:Fn):Bool:=decide (f.names.map (·.1)).Nodup&&(decide f.params.Nodup&&((decide (f.names.lookup txtMark≠some .local)||f.params.any fun x=>decide (f.names.lookup x=some .local))&&
 ((f.params.all fun x=>isLC (f.names.lookup x))&&((decide (f.names.lookup genMark≠some .local)||a==80)&&decide (f.params.length≤3)))))
noncomputable def txtOk (e:Addr×Stmt):Bool:=decide ((scF e.2).kind= .function)&&(!(scF e.2).isCoroutine&&(!(scF e.2).isGenerator&&nmOk e.1 (stF e.2)))
theorem txt_all:defS.all txtOk=true:=by kernel_rfl
noncomputable def mkFd (P:Arguments) (fd:FuncData):FuncData:={fd with params:=P,defaults:= .none}
theorem binds (fd:FuncData)(v0 v1 v2:Value):(defS.map fun e=>bindArgs (mkFd (argsF e.2) fd) ⟨[v0,v1,v2].take (stF e.2).params.length,[]⟩)=defS.map fun e=>pure ((stF e.2).params.zip ([v0,v1,v2].take (stF e.2).params.length)):=by kernel_rfl
theorem take3: ∀{vals:List Value} {n:Nat},vals.length=n→n≤3→ ∃v0 v1 v2,[v0,v1,v2].take n=vals
 | [],_,rfl,_=>⟨.none,.none,.none,rfl⟩
 | [a],_,rfl,_=>⟨a,.none,.none,rfl⟩
 | [a,b],_,rfl,_=>⟨a,b,.none,rfl⟩
 | [a,b,c],_,rfl,_=>⟨a,b,c,rfl⟩
 |_::_::_::_::r,_,rfl,h=>absurd h (Nat.not_le.mpr (Nat.lt_of_lt_of_le (Nat.lt_succ_self 3) (Nat.le_add_left 4 r.length)))
theorem map_all {α β:Type}{f g:α→β}: ∀{l:List α},l.map f=l.map g→ ∀e∈l,f e=g e
 |a::l,h,e,m=>(List.mem_cons.mp m).elim (fun q=>q▸(List.cons.inj h).1) fun m=>map_all (List.cons.inj h).2 e m
noncomputable def globChk (h:Heap) (e:Str×D):Bool:=match e.2 with
 | .obj a=>PySem.W.nsIn (fragH h) mainGlobals e.1==some (some (.ref a))&&someB isHard (h.get? a)
 | .ty n=>PySem.W.nsIn (fragH h) mainGlobals e.1==some none&&(bootBuiltins e.1==some (.type n)&&e.1 != "__name__")
 | .bi n=>PySem.W.nsIn (fragH h) mainGlobals e.1==some none&&(bootBuiltins e.1==some (.builtin n)&&(e.1 != "__name__" &&PySem.W.handedIn (.builtin n)))
 |_=>false
noncomputable def plainB (K:PySem.W.Frag) (c:Addr):Bool:=PySem.W.findIn K (.ref c) "__getattribute__" ==some (some (.builtin "object.__getattribute__"))&&(PySem.W.findIn K (.ref c) "__getattr__" ==some none&&
 (PySem.W.findIn K (.ref c) "__setattr__" ==some (some (.builtin "object.__setattr__"))&&(PySem.W.plainOver K c&&someB (fun cd=>cd.hasDict) (PySem.W.clsIn K c))))
noncomputable def attrB (K:PySem.W.Frag) (e:Addr×List Str):Bool:=plainB K e.1&&e.2.all fun m=>PySem.W.findIn K (.ref e.1) m==some none&&PySem.W.takerIn K e.1 m==some none
noncomputable def methB (K:PySem.W.Frag) (e:Addr×Str×Addr):Bool:=plainB K e.1&&(PySem.W.findIn K (.ref e.1) e.2.1==some (some (.ref e.2.2))&&PySem.W.typeIn K (.ref e.2.2)==some (.type "function"))
noncomputable def valB (x:Str):PySem.W.CFound→Bool
 | .val v=>isTxt x v
 |_=>false
noncomputable def cattrB (K:PySem.W.Frag) (e:Addr×Str×Str):Bool:=PySem.W.readsIn K e.1 (.type "type")&&someB (valB e.2.2) (PySem.W.findCls K (.ref e.1) (.type "type") e.2.1)
noncomputable def clsB (K:PySem.W.Frag) (e:Addr×Addr):Bool:=PySem.W.makesIn K e.1&&(PySem.W.findIn K (.ref e.1) "__init__" ==some (some (.ref e.2))&&PySem.W.typeIn K (.ref e.2)==some (.type "function"))
noncomputable def patD:Data→Bool
 | .fields fs=>Builtin.Re.reRawNat (fs.getD 6 .none)==0&&(Builtin.Re.reRawNat (fs.getD 2 .none)==0&&isRef 84 (fs.getD 5 .none))
 |_=>false
noncomputable def codeD:Data→Bool
 | .seq xs _=>decide ((xs.map Builtin.Re.reRawOf).map (·.toNat)=Ip.code)
 |_=>false
noncomputable def patO (o:Obj):Bool:=o.cls== .type "re.Pattern" &&(o.dict.isNone&&(o.slots.size==0&&patD o.data))
noncomputable def keepL:List Addr:=62::175::defS.map (·.1)
noncomputable def chkH (h:Heap):Bool:=globL.all (globChk h)&&(attrL.all (attrB (KH h))&&(methL.all (methB (KH h))&&(cattrL.all (cattrB (KH h))&&([(62,52),(175,130)].all (clsB (KH h))&&(keepL.all (fun a=>PySem.W.keepIn (KH h) (.ref a))&&
 (someB patO (h.get? 85)&&(someB (fun o=>codeD o.data) (h.get? 84)&&(PySem.W.nsIn (fragH h) mainGlobals "add_callers" ==some (some (.ref 80))&&PySem.W.nsIn (fragH h) mainGlobals "law" ==some (some (.ref 265))))))))))
structure Facts (h:Heap):Prop where
 chk:chkH h=true
 defs:defS.map (obsD h)=defS.map expD
end Mine
namespace Mine
open PySem PyProof.Rows
theorem nsFind_at {es:Array DictEntry}{v:Option Value}{x:Str}(h:nsFind es x=v):(es.toList.find? (·.key.isStr x)).map (·.val)=v:=by
 unfold nsFind findBy at h
 rw[←Array.find?_toList] at h
 exact h
noncomputable def pickO (b:Bool):Option DictEntry→Option (Option Value)
 |some e=>some (some e.val)
 |none=>if b=true then none else some none
theorem pick_inv {b:Bool}{o:Option DictEntry}{r:Option Value}(h:pickO b o=some r):o.map (·.val)=r:=match o,h with
 |some _,h=>Option.some.inj h
 |none,h=>dite_both h (fun ω h=>nomatch h) fun ω h=>Option.some.inj h
theorem ns_in {K:PySem.W.Frag}{h:Heap}(X:K.In h){ns:Addr}{m:Str→Option Value}(n:h.Ns ns m){x:Str}{r:Option Value}(e:PySem.W.nsIn K ns x=some r):m x=r:=by
 obtain⟨o,es,ep,h1,h2,h3,h4⟩:=n
 unfold PySem.W.nsIn at e
 cases ho:K.lookup ns with
 |none=>rw[ho] at e;cases e
 |some o'=>
  cases h1.symm.trans (X _ _ ho)
  obtain⟨c,d,dt,sl⟩:=o
  cases h2
  rw[ho] at e
  have e:pickO _ (es.toList.find? (·.key.isStr x))=some r:=e
  exact(nsFind_at (h4 x)).symm.trans (pick_inv e)
theorem memN {α:Type}: ∀{l:List (Nat×α)} {n:Nat} {c:α},l.lookup n=some c→(n,c)∈l
 |(k,v)::r,n,c,h=>by
  rw[List.lookup_cons] at h
  cases hb:n==k with
  |true=>rw[hb] at h;cases h;exact beq_iff_eq.mp hb▸ .head _
  |false=>rw[hb] at h;exact .tail _ (memN h)
theorem find_at {α:Type}{l:List α}{p:α→Bool}{a:α}(h:l.find? p=some a):a∈l∧p a=true:=⟨List.mem_of_find?_eq_some h,List.find?_some h⟩
theorem isRef_inv {a:Addr}{v:Value}(h:isRef a v=true):v= .ref a:=by
 cases v with
 |ref c=>exact congrArg Value.ref (beq_iff_eq.mp h)
 |_=>first|exact nf h|exact ns h|cases h
theorem isNoneV_inv {v:Value}(h:isNoneV v=true):v= .none:=by
 cases v with
 |none=>rfl
 |_=>first|exact nf h|exact ns h|cases h
theorem isTxt_inv {q:Str}{v:Value}(h:isTxt q v=true): ∃t,v= .str q t:=by
 cases v with
 |str x t=>exact⟨t,by rw[eq_of_beq h]⟩
 |_=>first|exact nf h|exact ns h|cases h
theorem rec_of {h:Heap}{q:Str}{v:Value}(e:isRec h q v=true):h.CodeRec v q:=by
 cases v with
 |ref c=>
  refine sb e fun o ho hr=> ?_
  obtain⟨cl,d,dt,sl⟩:=o
  cases dt with
  |fields vs=>exact sb hr fun u hu ht=>by obtain⟨t,e⟩:=isTxt_inv ht;exact⟨c,_,vs,t,rfl,ho,rfl,e▸hu⟩
  |_=>first|exact nf hr|exact ns hr|cases hr
 |_=>first|exact nf e|exact ns e|cases e
theorem fd_inv {h:Heap}{a:Addr}{fd:FuncData}(e:fdAt h a=some fd): ∃o,h.get? a=some o∧o.data= .func fd:=ob e fun o ho hd=>by
 obtain⟨cl,d,dt,sl⟩:=o
 cases dt with
 |func f=>exact⟨_,ho,congrArg Data.func (Option.some.inj hd)⟩
 |_=>first|exact nf hd|exact ns hd|cases hd
section
variable {W:Wd}{h0:Heap}(Fk:Facts h0)(X: ∀b o,h0.get? b=some o→W.T.get? b=some o)
include Fk X
theorem def_at (hc:W.cac=79){a:Addr}{st:Stmt}(m:(a,st)∈defS): ∃fd,DefAt W a (stF st) fd:=
 om (map_all Fk.defs _ m) fun fd hf e=>by
  have e1:=congrArg Prod.fst e
  have e2:fd.params=argsF st:=congrArg Prod.fst e1
  have e3:fd.body= .stmts (bodyF st):=congrArg (fun q=>q.2.1) e1
  have e4:fd.scope=scF st:=congrArg (fun q=>q.2.2) e1
  have e5:restOk h0 a fd=true:=congrArg Prod.snd e
  obtain⟨o,ho,hd⟩:=fd_inv hf
  refine ab e5 fun r1 e5=>ab e5 fun r2 e5=>ab e5 fun r3 e5=>ab e5 fun r4 e5=>ab e5 fun r5 r6=>ab (List.all_eq_true.mp txt_all _ m) fun t1 t=>ab t fun t2 t=>ab t fun t3 t=>ab t fun t4 t=>ab t fun t5 t=>ab t fun t6 t=>ab t fun t7 t=>ab t fun t8 t9=> ?_
  exact⟨fd,{
   obj:=⟨o,X _ _ ho,hd⟩
   rcd:=by obtain⟨c,o,vs,t,x1,x2,x3,x4⟩:=rec_of r1;exact⟨c,o,vs,t,x1,X _ _ x2,x3,x4⟩
   body:=e3
   clo:=isNil_inv r2
   names:=congrArg Scope.names e4
   glob:=beq_iff_eq.mp r3
   bi:=beq_iff_eq.mp r4
   kind:=(congrArg Scope.kind e4).trans (of_decide_eq_true t1)
   co:=(congrArg Scope.isCoroutine e4).trans ((Bool.not_eq_true' _).mp t2)
   gen:=(congrArg Scope.isGenerator e4).trans ((Bool.not_eq_true' _).mp t3)
   nodup:=of_decide_eq_true t4
   pnodup:=of_decide_eq_true t5
   par:=fun x hx=>isLC_inv (List.all_eq_true.mp t7 x hx)
   bind:=fun vals hv=>by
    obtain⟨v0,v1,v2,ht⟩:=take3 hv (of_decide_eq_true t9)
    have b:=map_all (binds fd v0 v1 v2) _ m
    have e7:mkFd (argsF st) fd=fd:=by
     obtain⟨_,_,P,_,_,_,_,df⟩:=fd
     cases (show P=argsF st from e2)
     cases (show df= .none from isNoneV_inv r6)
     rfl
    rw[e7] at b
    exact ht▸b
   code:=fun h=>(Bool.or_eq_true_iff.mp t8).elim (fun q=>absurd h (of_decide_eq_true q)) fun q=>(Bool.or_eq_true_iff.mp r5).elim (fun r=>absurd (beq_iff_eq.mp q) (bne_iff_ne.mp r)) fun r=>hc▸isRef_inv r
   txt:=fun h=>(Bool.or_eq_true_iff.mp t6).elim (fun q=>absurd h (of_decide_eq_true q)) fun q=>by obtain⟨x,h1,h2⟩:=List.any_eq_true.mp q;exact⟨x,h1,of_decide_eq_true h2⟩}⟩
theorem ns_main {x:Str}{r:Option Value}(e:(PySem.W.nsIn (fragH h0) mainGlobals x==some r)=true):W.mg x=r:=ns_in (fun a o q=>X a o (frag_in h0 a o q)) W.g (beq_iff_eq.mp e)
omit Fk in
theorem hard_at {a:Addr}(e:someB isHard (h0.get? a)=true): ∃o,W.T.get? a=some o∧ ¬Soft o:=sb e fun o ho hh=>⟨o,X _ _ ho,hard_not hh⟩
theorem glob_look {C:Cfg}(hC:C.glob=fun x=>globL.lookup x)(hb: ∀x:Str,x≠ "__name__" →W.mb x=bootBuiltins x):GlobOk W C:=⟨fun x d h=>by
 rw[hC] at h
 have hc:globChk h0 (x,d)=true:=ab Fk.chk fun q ω=>List.all_eq_true.mp q _ (mem_of_lookup h)
 cases d with
 |obj a=>exact ab hc fun h1 h2=>by obtain⟨o,ho,hs⟩:=hard_at X h2;exact⟨_,.inl (ns_main Fk X h1),.obj ho hs⟩
 |ty n=>exact ab hc fun h1 hc=>ab hc fun h2 h3=>⟨_,.inr ⟨ns_main Fk X h1,(hb _ (bne_iff_ne.mp h3)).trans (beq_iff_eq.mp h2)⟩,.ty n⟩
 |bi n=>exact ab hc fun h1 hc=>ab hc fun h2 hc=>ab hc fun h3 h4=>⟨_,.inr ⟨ns_main Fk X h1,(hb _ (bne_iff_ne.mp h3)).trans (beq_iff_eq.mp h2)⟩,.bi n h4⟩
 |_=>cases hc⟩
omit Fk in
theorem fk (s:Shared)(i:Inv W s):(KH h0).In s.heap:=hard_in (fun a o q=>X a o (frag_in h0 a o q)) i
omit Fk X in
theorem plain_of {K:PySem.W.Frag}{c:Addr}(h:plainB K c=true):PlainCls K c:=ab h fun h1 h=>ab h fun h2 h=>ab h fun h3 h=>ab h fun h4 h=>sb h fun cd h5 h6=>⟨beq_iff_eq.mp h1,beq_iff_eq.mp h2,beq_iff_eq.mp h3,h4,cd,h5,h6⟩
omit X in
theorem iattr_find {c:Addr}{m:Str}(h:iattrT c m=true):PlainCls (KH h0) c∧PySem.W.findIn (KH h0) (.ref c) m=some none∧PySem.W.takerIn (KH h0) c m=some none:=by
 obtain⟨e,he,h⟩:=List.any_eq_true.mp h
 refine ab h fun h1 h2=>ab Fk.chk fun ω q=>ab q fun q ω=>ab (List.all_eq_true.mp q e he) fun p q=>ab (List.all_eq_true.mp q m (List.contains_iff_mem.mp h2)) fun q1 q2=> ?_
 cases of_decide_eq_true h1
 exact⟨plain_of p,beq_iff_eq.mp q1,beq_iff_eq.mp q2⟩
theorem store_all {C:Cfg}(hC:C.iattr=iattrT):StoreOk W C:=fun c m h A s a dx kvs v Q i g1 g2 hne hl hq=>by
 obtain⟨P,_,h2⟩:=iattr_find Fk (hC▸h:iattrT c m=true)
 exact store_ok (fk X s i) P h2 g1 g2 hne hl hq
omit Fk X in
theorem F_keep {C:Cfg}{a:Addr}{ds:List D}{d:D}(h:cfgF C a ds=some d):a∈keepL:=
 dite_both h (fun q ω=>q▸ .head _) fun ω h=>dite_both h (fun q ω=>q▸ .tail _ (.head _)) fun ω h=>ob h fun f hf ω=>om hf fun st hs ω=> .tail _ (.tail _ (List.mem_map.mpr ⟨_,memN hs,rfl⟩))
omit Fk in
theorem pat_at {s:Shared}(i:Inv W s)(p:someB patO (h0.get? 85)=true)(q:someB (fun o=>codeD o.data) (h0.get? 84)=true):Ip.PatAt s.heap 85 84:=sb p fun o ho p=>sb q fun o' ho' q=>ab p fun p1 p=>ab p fun p2 p=>ab p fun p3 p=>by
 obtain⟨cl,d,dt,sl⟩:=o
 obtain⟨cl',d',dt',sl'⟩:=o'
 cases dt with
 |fields fs=>cases dt' with
  |seq xs n=>
   have e1:cl=_:=beq_iff_eq.mp p1
   have e2:d=none:=Option.isNone_iff_eq_none.mp p2
   have e3:sl= #[]:=Array.eq_empty_of_size_eq_zero (beq_iff_eq.mp p3)
   subst e1 e2 e3
   exact ab p fun r1 p=>ab p fun r2 r3=>⟨⟨fs,i.grow.kept _ _ (X _ _ ho) (soft_cls fun q=>nomatch q),beq_iff_eq.mp r1,beq_iff_eq.mp r2,isRef_inv r3⟩,⟨_,xs,n,i.grow.kept _ _ (X _ _ ho') (soft_seq rfl),rfl,of_decide_eq_true q⟩⟩
  |_=>first|exact nf q|exact ns q|cases q
 |_=>first|exact nf p|exact ns p|cases p
theorem ometh_all {k:Nat}{a:Addr}{m:Str}{ds:List D}{d:D}(h:omethT a m ds=some d):OMeth W k a m ds d:=
 oi h fun q h=>ob h fun e he h=>ob h fun x hx h=>ab Fk.chk fun ω c=>ab c fun ω c=>ab c fun ω c=>ab c fun ω c=>ab c fun ω c=>ab c fun ω c=>ab c fun c1 c=>ab c fun c2 ω=>by
  cases q.1
  cases q.2
  cases one_inv he
  cases asStr_inv hx
  refine sb c1 fun o ho p=>ab p fun p1 p=>ab p fun p2 p=> ?_
  have p1:=beq_iff_eq.mp p1
  exact⟨"re.Pattern","re.Pattern.search",o,Ip.plainAttrs,Ip.slot,Ip.typ,X _ _ ho,p1,Option.isNone_iff_eq_none.mp p2,(soft_cls (p1▸fun q=>nomatch q)),fun A s μ vs ω i hm r=>r.one_elim fun v r=>r.str_elim fun t=>Ip.search_call (pat_at X i c1 c2) hm h⟩
theorem cfg_ok1 {F:Addr→List D→Option D}{n:Nat}(hb: ∀x:Str,x≠ "__name__" →W.mb x=bootBuiltins x)(con: ∀a ds d,F a ds=some d→Con W n a ds d)(kp: ∀a ds d,F a ds=some d→a∈keepL):CfgOk W (mkC F) n where
 glob:=glob_look Fk X rfl hb
 con:=con
 callee:=fun a ds d h A s pos first args Q hp z=>callee_ok (fk X) (ab Fk.chk fun ω c=>ab c fun ω c=>ab c fun ω c=>ab c fun ω c=>ab c fun ω c=>ab c fun c ω=>List.all_eq_true.mp c a (kp a ds d h)) hp z
 ometh:=fun a m ds d h=>ometh_all Fk X h
 meth:=fun c m f h A s a dx kvs pl Q i g1 g2 g3 hq=>om h fun e he h=>by
  obtain⟨h1,h2⟩:=find_at he
  obtain⟨h2,h3⟩:=of_decide_eq_true h2
  subst h h2 h3
  exact ab Fk.chk fun ω c=>ab c fun ω c=>ab c fun c ω=>ab (List.all_eq_true.mp c e h1) fun p q=>ab q fun q1 q2=>meth_ok (fk X s i) (plain_of p) (beq_iff_eq.mp q1) (beq_iff_eq.mp q2) g1 g2 g3 (hq _ (Nat.le_refl _))
 iattr:=fun c m h A s a dx kvs v Q i g1 g2 g3 hh hq=>by obtain⟨P,h1,_⟩:=iattr_find Fk h;exact iattr_ok (fk X s i) P h1 g1 g2 g3 hh (hq _ (Nat.le_succ _))
 cattr:=fun c m d h A s μ Q i hm hq=>om h fun e he h=>by
  obtain⟨h1,h2⟩:=find_at he
  obtain⟨h2,h3⟩:=of_decide_eq_true h2
  subst h h2 h3
  refine ab Fk.chk fun ω c=>ab c fun ω c=>ab c fun ω c=>ab c fun c ω=>ab (List.all_eq_true.mp c e h1) fun p q=>sb q fun r hr q=> ?_
  cases r with
  |val v=>
   obtain⟨t,e⟩:=isTxt_inv q
   subst e
   exact cattr_ok (fk X s i) p hr rfl (hq _ _ (Nat.le_succ _) (.str _ _))
  |_=>first|exact nf q|exact ns q|cases q
theorem cfg_ok (hc:W.cac=79)(hb: ∀x:Str,x≠ "__name__" →W.mb x=bootBuiltins x): ∀n,CfgOk W (cfg n) n
 |0=>cfg_ok1 Fk X hb (fun ω ω ω h=>nomatch h) fun ω ω ω h=>nomatch h
 |n+1=>cfg_ok1 Fk X hb (fun a ds d h=>by
   have CK:=cfg_ok hc hb n
   have KS:StoreOk W (cfg n):=store_all Fk X (by cases n<;>rfl)
   have cls: ∀(c i:Addr) (st:Stmt),(c,i)∈ [(62,52),(175,130)]→(i,st)∈defS→ ∀{d},runI (cfg n) 40 40 c (stF st) ds=some d→Con W (n+1) c ds d:=fun c i st h1 h2 {d} h=>by
    obtain⟨fd,D⟩:=def_at Fk X hc h2
    exact ab Fk.chk fun ω c=>ab c fun ω c=>ab c fun ω c=>ab c fun ω c=>ab c fun c ω=>ab (List.all_eq_true.mp c _ h1) fun q1 q=>ab q fun q2 q3=>cls_con (fk X) q1 (beq_iff_eq.mp q2) (beq_iff_eq.mp q3) D CK KS h
   exact dite_both h (fun q h=>q▸cls 62 52 _ (.head _) (memN (by rfl)) h) fun ω h=>dite_both h (fun q h=>q▸cls 175 130 _ (.tail _ (.head _)) (memN (by rfl)) h) fun ω h=>ob h fun f hf h=>om hf fun st hs e=>by obtain⟨fd,D⟩:=def_at Fk X hc (memN hs);exact D.con CK KS (e▸h)) fun ω ω ω h=>F_keep h
end
end Mine
namespace Mine
open PySem PySem.W PyProof.Rows
noncomputable def at30 (i:Nat):Stmt:=PW.main.body.getD i (.Pass {line:=0,col:=0,endLine:=0,endCol:=0})
noncomputable def VW:Program:={PW with main:={PW.main with body:=[at30 0,at30 5,at30 29]}}
theorem Grow.oldK {P c:Addr}{h h':Heap}{ps:Array Value}(g:Grow P h h')(t:h.TableAt c P ps):OldK h h':=
 ⟨fun b o e=>(g b o e).elim .inl fun⟨e1,qs,more,e2,x⟩=>by
   subst e1 e2
   exact .inr (.inl ⟨t.isCodeTable,rfl,qs,more,rfl,x⟩),fun b o e=>g.there ⟨o,e⟩⟩
theorem ints_rep {W:Wd}{h:Heap}{μ:Addr→Prop}: ∀{vs:List Value} {ns:List Int},PyProof.Rows.IntsAre vs ns→RepL W h μ vs (ns.map .int)
 |_,_,.nil=> .nil
 |_,_,.cons n t r=> .cons (.int n t) (ints_rep r)
structure Start (w:World)(h:Heap)(W:Wd):Prop where
 w:W.w=w
 t:W.T=h
 c:W.cac=79
 b: ∀x:Str,x≠ "__name__" →W.mb x=bootBuiltins x
 ta:h.TableAt W.cac W.Pac #[]
 ti:TabI W h
theorem start {w:World}{h h0:Heap}(Fk:Facts h0)(X: ∀b o,h0.get? b=some o→h.get? b=some o){loose:List Str}{mean:ExcName→Option Value}{mg mb:Str→Option Value}(T:Top VW loose mean mg mb h): ∃W:Wd,Start w h W:=
 ab Fk.chk fun ω c=>ab c fun ω c=>ab c fun ω c=>ab c fun ω c=>ab c fun ω c=>ab c fun ω c=>ab c fun ω c=>ab c fun ω c=>ab c fun c1 ω=>om (map_all Fk.defs (80,stAt 5) (.tail _ (.head _))) fun fd hf e=>by
  have e5:restOk h0 80 fd=true:=congrArg Prod.snd e
  obtain⟨o80,ho80,hd80⟩:=fd_inv hf
  have hcode79:fd.code= .ref 79:=ab e5 fun ω e5=>ab e5 fun ω e5=>ab e5 fun ω e5=>ab e5 fun ω e5=>ab e5 fun r ω=>isRef_inv ((Bool.or_eq_true_iff.mp r).resolve_left fun q=>nomatch q)
  obtain⟨d,hf⟩:=Option.isSome_iff_exists.mp (show((recsOf VW).find? (fun e=>e.name==Str.ofString "add_callers")).isSome=true by kernel_rfl)
  obtain⟨c,Pt,hcode,BB⟩:=based_of_top T hf (ns_in (fun a o q=>X a o (frag_in h0 a o q)) T.g (beq_iff_eq.mp c1)) (X _ _ ho80) hd80
  cases hcode79.symm.trans hcode
  have⟨⟨o,vs,e,_⟩,t⟩:=BB.tab
  obtain⟨mm,hmm,_⟩:=(T.seer (by kernel_rfl)).mods
  exact⟨{w:=w,T:=h,cac:=79,Pac:=Pt,mg:=mg,mb:=mb,g:=T.g,b:=T.b,nolim:=T.nolimit,there:=⟨⟨o,e⟩,⟨_,t⟩⟩,sys:=by obtain⟨o,_,_,ho,_⟩:=hmm;exact⟨o,ho⟩,bm:=T.bmain,apart:=⟨(by decide),BB.notStatics⟩},rfl,rfl,rfl,T.builtins,BB.tab,#[],BB.code,BB.tab⟩
theorem law_call {w:World}{s₁:Shared}{h0:Heap}(Fk:Facts h0)(X: ∀b o,h0.get? b=some o→s₁.heap.get? b=some o){loose:List Str}{mean:ExcName→Option Value}{mg mb:Str→Option Value}(T:Top VW loose mean mg mb s₁.heap)(hg:s₁.gens= #[])
  {zs:List Int} {vs:List Value} {l:Addr} {fa:Addr} (hm:mg "law" =some (.ref fa)) (hl:s₁.heap.IsList l vs.toArray) (hi:PyProof.Rows.IntsAre vs zs) (H:runX (cfg 5) 40 40 (fn 29) [.list (zs.map .int)]=some (.bool true)):
  codeAny (model PW w) callerA (.call (.ref fa) ⟨[.ref l],[]⟩) (fun r s'=>r= .ok (.ret (.bool true))∧OldK s₁.heap s'.heap∧s'.os=s₁.os∧AllBare s'.gens) s₁:=by
 obtain⟨W,S⟩:=start (w:=w) Fk X T
 obtain⟨S1,S2,S3,S4,S5,S6⟩:=S
 have hfa:mg "law" =some (.ref 265):=ab Fk.chk fun ω c=>ab c fun ω c=>ab c fun ω c=>ab c fun ω c=>ab c fun ω c=>ab c fun ω c=>ab c fun ω c=>ab c fun ω c=>ab c fun ω c=>ns_in (fun a o q=>X a o (frag_in h0 a o q)) T.g (beq_iff_eq.mp c)
 cases hm.symm.trans hfa
 subst S1
 have hF:(cfg 6).F 265 [.list (zs.map .int)]=some (.bool true):=H
 have CK:=cfg_ok Fk (W:=W) (fun b o e=>S2.symm▸X b o e) S3 S4 6
 have i:Inv W s₁:=⟨S2.symm▸ .of fun ω ω e=>e,S6,.of_eq hg⟩
 exact codeAny_mono (CK.con 265 _ _ hF callerA s₁ (fun ω=>False) [.ref l] ⟨rfl,(by decide),(by decide)⟩ i ⟨fun ω q=>q.elim,fun ω q=>q.elim⟩ (.cons (.list id hl (ints_rep hi)) .nil)) fun r s' ⟨z1,v,e,z2⟩=>
  ⟨e.trans (z2.bool_elim (P:=fun v=>Except.ok (Flow.ret v)=_) rfl),(S2▸z1.grow:Grow W.Pac s₁.heap s'.heap).oldK S5,z1.os,z1.bare i.bare⟩
end Mine
namespace Mine
open PySem
noncomputable def Eqv (ρ ρ':Rho):Prop:= ∀x,ρ.lookup x=ρ'.lookup x
noncomputable def Sim {α:Type} (R:α→α→Prop) (o' o:Option α):Prop:= ∀q',o'=some q'→ ∃q,o=some q∧R q q'
section
variable {α β:Type}{R:α→α→Prop}{S:β→β→Prop}{c:Prop}[Decidable c]
theorem Sim.refl (h: ∀a,R a a)(o:Option α):Sim R o o:=fun q e=>⟨q,e,h q⟩
theorem Sim.of {a a':α}(h:R a a'):Sim R (some a') (some a):=fun ω e=>⟨a,rfl,Option.some.inj e▸h⟩
theorem Sim.b {x:Option β}{f' f:β→Option α}(h: ∀b,Sim R (f' b) (f b)):Sim R (x.bind f') (x.bind f):=fun q e=>ob e fun b h1 h2=>by obtain⟨q,h3,h4⟩:=h b q h2;exact⟨q,h1▸h3,h4⟩
theorem Sim.bb {x' x:Option β}{f' f:β→Option α}(hx:Sim S x' x)(h: ∀b b',S b b'→Sim R (f' b') (f b)):Sim R (x'.bind f') (x.bind f):=fun q e=>ob e fun b h1 h2=>by obtain⟨b',h3,h4⟩:=hx b h1;exact by obtain⟨q,h5,h6⟩:=h b' b h4 q h2;exact⟨q,h3▸h5,h6⟩
theorem Sim.i {x' x:Option α}(h:Sim R x' x):Sim R (iteO c x') (iteO c x):=fun q e=>oi e fun hc e=>by obtain⟨q,h1,h2⟩:=h q e;exact⟨q,(if_pos hc).trans h1,h2⟩
theorem Sim.ite {x' x y' y:Option α}(h1:Sim R x' x)(h2:Sim R y' y):Sim R (if c then x' else y') (if c then x else y):=fun q e=>dite_both e (fun hc e=>by obtain⟨q,h1,h2⟩:=h1 q e;exact⟨q,(if_pos hc).trans h1,h2⟩) fun hc e=>by obtain⟨q,h1,h2⟩:=h2 q e;exact⟨q,(if_neg hc).trans h1,h2⟩
theorem Sim.m {x:Option β}{f' f:β→α}(h: ∀b,R (f b) (f' b)):Sim R (x.map f') (x.map f):=fun q e=>om e fun b h1 h2=>⟨f b,h1▸rfl,h2▸h b⟩
theorem Sim.mm {x' x:Option β}{f' f:β→α}(hx:Sim S x' x)(h: ∀b b',S b b'→R (f b) (f' b')):Sim R (x'.map f') (x.map f):=fun q e=>om e fun b h1 h2=>by obtain⟨b',h3,h4⟩:=hx b h1;exact⟨f b',h3▸rfl,h2▸h b' b h4⟩
end
theorem sim_none {α:Type}{R:α→α→Prop}{o:Option α}:Sim R none o:=fun ω e=>nomatch e
section
variable {C:Cfg}{nm:Names}{ρ ρ' ρ₁:Rho}{self E:Ev}
theorem Eqv.refl (ρ:Rho):Eqv ρ ρ:=fun ω=>rfl
theorem Eqv.set (h:Eqv ρ ρ')(x:Str)(t:Tag)(d:D):Eqv (setV ρ x t d) (setV ρ' x t d):=fun y=>by rw[lookup_setV,lookup_setV,h y]
theorem Eqv.frz (h:Eqv ρ ρ')(xs:List Str):Eqv (frzR ρ xs) (frzR ρ' xs):=fun y=>by rw[lookup_frz,lookup_frz,h y]
theorem Eqv.lk (h:Eqv ρ ρ'):Mine.lk ρ=Mine.lk ρ':=funext fun x=>by
 unfold Mine.lk
 rw[h x]
theorem Eqv.name (h:Eqv ρ ρ'):nameD C nm ρ=nameD C nm ρ':=funext fun x=>by
 unfold nameD
 rw[h x]
theorem Eqv.o2 (h:Eqv ρ ρ'):o2? ρ=o2? ρ':=funext fun x=>congrArg (fun q=>(q x).bind tagO2) h.lk
theorem Eqv.capt (h:Eqv ρ ρ')(ns:Names):captured ns ρ=captured ns ρ':=by
 unfold captured
 exact congrArg (List.filterMap · ns) (funext fun e=>by rw[h e.1])
theorem Eqv.v (h:Eqv ρ ρ')(hs:self nm ρ=self nm ρ'):mkV C self nm ρ=mkV C self nm ρ':=by
 have h1:o1? ρ=o1? ρ':=funext fun x=>congrArg (fun q=>(q x).bind tagO1) h.lk
 have h3:oi? ρ=oi? ρ':=funext fun x=>congrArg (fun q=>(q x).bind tagOi) h.lk
 have h4:(fun ns=>captured ns ρ)=fun ns=>captured ns ρ':=funext h.capt
 unfold mkV
 rw[hs,h1,h.o2,h3,h.name,h4]
theorem Eqv.ev (h:Eqv ρ ρ'): ∀{nm} n,Mine.ev C n nm ρ=Mine.ev C n nm ρ'
 |_,0=>rfl
 |nm,n+1=>congrArg (evE C (Mine.ev C n) nm) (h.v (h.ev n))
theorem Eqv.iter (h:Eqv ρ ρ')(hs:self nm ρ=self nm ρ')(t e:Expr):iterE self C nm ρ t e=iterE self C nm ρ' t e:=by
 show iterN (self nm ρ) (nameD C nm ρ) t e=iterN (self nm ρ') (nameD C nm ρ') t e
 rw[hs,h.name]
theorem bindN_e (h:Eqv ρ ρ')(x:Str)(d:D):Sim Eqv (bindN nm ρ' x d) (bindN nm ρ x d):= .ite (.of (h.set _ _ _)) sim_none
theorem bindTs_e: ∀(ts:List Expr) (ds:List D) (ρ ρ':Rho),Eqv ρ ρ'→Sim Eqv (bindTs nm ρ' ts ds) (bindTs nm ρ ts ds)
 | [],[],_,_,h=> .of h
 | [],_::_,_,_,_=>sim_none
 |_::_,[],_,_,_=>sim_none
 |t::ts,d::ds,ρ,ρ',h=> .b fun x=> .bb (bindN_e h x d) fun q q' hq=>bindTs_e ts ds q q' hq
theorem bindV_e (h:Eqv ρ ρ')(d:D){t:Expr}(w:View t):Sim Eqv (bindV nm ρ' d w) (bindV nm ρ d w):=by
 cases w with
 |name x p=>exact bindN_e h x d
 |tuple ts k p=>exact .b fun ds=>bindTs_e ts ds ρ ρ' h
 |_=>exact sim_none
noncomputable def OutR (o o':Out):Prop:=match o' with
 | .next ρ'=> ∃ρ,o= .next ρ∧Eqv ρ ρ'
 | .brk ρ'=> ∃ρ,o= .brk ρ∧Eqv ρ ρ'
 | .ret d=>o= .ret d
theorem exList_e {sf:Ex}(hs: ∀ρ ρ' st,Eqv ρ ρ'→Sim OutR (sf nm ρ' st) (sf nm ρ st)): ∀(b:List Stmt) (ρ ρ':Rho),Eqv ρ ρ'→Sim OutR (exList sf nm ρ' b) (exList sf nm ρ b)
 | [],ρ,ρ',h=> .of ⟨ρ,rfl,h⟩
 |st::r,ρ,ρ',h=> .bb (hs ρ ρ' st h) fun o o' q=>match o,o',q with
  |_,.next q',⟨q,rfl,e⟩=>exList_e hs r q q' e
  |_,.brk _,⟨q,rfl,e⟩=> .of ⟨q,rfl,e⟩
  |_,.ret _,rfl=> .of rfl
theorem exFor_e {sf:Ex}(hs: ∀ρ ρ' st,Eqv ρ ρ'→Sim OutR (sf nm ρ' st) (sf nm ρ st))(t:Expr)(b:List Stmt): ∀(items:List D) (ρ ρ':Rho),Eqv ρ ρ'→Sim OutR (exFor sf nm t b ρ' items) (exFor sf nm t b ρ items)
 | [],ρ,ρ',h=> .of ⟨ρ,rfl,h⟩
 |d::r,ρ,ρ',h=> .bb (bindV_e h d (view t)) fun q q' e=> .bb (exList_e hs b q q' e) fun o o' z=>match o,o',z with
  |_,.next q',⟨q,rfl,e⟩=>exFor_e hs t b r q q' e
  |_,.brk _,⟨q,rfl,e⟩=> .of ⟨q,rfl,e⟩
  |_,.ret _,rfl=> .of rfl
theorem asgSub_e (h:Eqv ρ ρ')(hs:E nm ρ=E nm ρ')(i:Expr)(d:D){o:Expr}(w:View o):Sim Eqv (asgSub E nm ρ' i d w) (asgSub E nm ρ i d w):=by
 cases w with
 |name x p=>show Sim _ ((lk ρ' x).bind _) ((lk ρ x).bind _);rw[h.lk,hs];exact .b fun q=> .b fun e=> .b fun i=> .m fun e=>h.set _ _ _
 |sub o i' p=>show Sim _ ((nameOf o).bind fun x=>(lk ρ' x).bind _) ((nameOf o).bind fun x=>(lk ρ x).bind _);rw[h.lk,hs];exact .b fun x=> .b fun q=> .b fun e=> .b fun i=> .b fun j=> .m fun e=>h.set _ _ _
 |_=>exact sim_none
theorem sxAsg_e (h:Eqv ρ ρ')(hs:E nm ρ=E nm ρ')(t:Expr)(d:D):Sim Eqv (sxAsg C E nm ρ' t d) (sxAsg C E nm ρ t d):=by
 unfold sxAsg
 generalize view t=w
 cases w with
 |attr o m p=>show Sim _ ((nameOf o).bind fun x=>(lk ρ' x).bind _) ((nameOf o).bind fun x=>(lk ρ x).bind _);rw[h.lk];exact .b fun x=> .b fun q=> .b fun e=> .m fun e=>h.set _ _ _
 |sub o i p=>exact asgSub_e h hs i d (view o)
 |name x p=>exact bindV_e h d (.name x p)
 |tuple ts k p=>exact bindV_e h d (.tuple ts k p)
 |_=>exact sim_none
theorem sxAsgs_e (hs: ∀ρ ρ',Eqv ρ ρ'→E nm ρ=E nm ρ')(d:D): ∀(ts:List Expr) (ρ ρ':Rho),Eqv ρ ρ'→Sim Eqv (sxAsgs C E nm ρ' ts d) (sxAsgs C E nm ρ ts d)
 | [],_,_,h=> .of h
 |t::ts,ρ,ρ',h=> .bb (sxAsg_e h (hs _ _ h) t d) fun q q' e=>sxAsgs_e hs d ts q q' e
theorem sxPlain_e (hs: ∀ρ ρ',Eqv ρ ρ'→E nm ρ=E nm ρ')(h:Eqv ρ ρ')(ts:List Expr)(e:Expr):Sim Eqv (sxPlain C E nm ρ' ts e) (sxPlain C E nm ρ ts e):=by
 unfold sxPlain
 rw[hs _ _ h]
 exact .b fun d=> .ite (.b fun q=> .i (sxAsgs_e hs d ts ρ ρ' h)) (sxAsgs_e hs d ts ρ ρ' h)
theorem own2_e (h:Eqv ρ ρ')(hs:E nm ρ=E nm ρ')(x:Str)(px:Pos)(e:Expr):Sim Eqv (own2 C E nm ρ' x px e) (own2 C E nm ρ x px e):=by
 cases e with
 |Dict ks vs p=>cases ks with
  |nil=>exact sim_none
  |cons k r=>cases r with
   |cons=>exact sim_none
   |nil=>cases vs with
    |nil=>exact sim_none
    |cons v r=>cases r with
     |cons=>exact sim_none
     |nil=>
      show Sim _ (k.bind fun k=>iteO (emptyD v=true) ((E nm ρ' k).bind _)) (k.bind fun k=>iteO (emptyD v=true) ((E nm ρ k).bind _))
      rw[hs]
      exact .b fun k=> .i (.b fun d=> .m fun y=>h.set _ _ _)
 |DictComp kx vx gs sc pos=>
  show Sim _ (iteO _ ((gensE C E nm (mkV C E nm ρ') gs sc _).bind _)) (iteO _ ((gensE C E nm (mkV C E nm ρ) gs sc _).bind _))
  rw[h.v hs]
  exact .i (.b fun ys=> .i (.of (h.set _ _ _)))
 |_=>exact sim_none
theorem sxAssign_e (hs: ∀nm ρ ρ',Eqv ρ ρ'→E nm ρ=E nm ρ')(h:Eqv ρ ρ')(ts:List Expr)(e:Expr)(p:Pos):Sim Eqv (sxAssign C E nm ρ' ts e p) (sxAssign C E nm ρ ts e p):=by
 have hq:=hs nm ρ ρ' h
 unfold sxAssign
 cases C.own p.line with
 |none=>
  have ho:(fun t:Expr=>o2V ρ (view t))=fun t=>o2V ρ' (view t):=funext fun t=>by
   generalize view t=w
   cases w with
   |sub o i p=>exact congrArg (fun f:Str→Option D=>(nameOf o).bind fun x=>(f x).bind fun d=>(asDict d).map fun kvs=>(x,i,kvs)) h.o2
   |_=>rfl
  show Sim _ (asgN C E nm ρ' ts e ((lone ts).bind fun t=>o2V ρ' (view t))) (asgN C E nm ρ ts e ((lone ts).bind fun t=>o2V ρ (view t)))
  rw[ho]
  cases (lone ts).bind fun t=>o2V ρ' (view t) with
  |none=>exact sxPlain_e (hs nm) h ts e
  |some q=>
   show Sim _ ((E nm ρ' e).bind fun d=>(asDict d).bind fun inner=>(E nm ρ' q.2.1).bind _) ((E nm ρ e).bind fun d=>(asDict d).bind fun inner=>(E nm ρ q.2.1).bind _)
   rw[hq]
   exact .b fun d=> .b fun i=> .b fun d=> .b fun k=> .i (.of (h.set _ _ _))
 |some t=>
  refine .b fun tx=> ?_
  generalize view tx=w
  cases w with
  |name x px=>
   refine .i ?_
   cases t with
   |o1=>show Sim _ ((E nm ρ' e).bind _) ((E nm ρ e).bind _);rw[hq];exact .b fun d=> .i (.of (h.set _ _ _))
   |o2=>exact own2_e h hq x px e
   |_=>exact sim_none
  |_=>exact sim_none
theorem appV_e (h:Eqv ρ ρ')(hs:E nm ρ=E nm ρ')(e:Expr):Sim Eqv (appV E nm ρ' (view e)) (appV E nm ρ (view e)):=by
 generalize view e=w
 cases w with
 |call f as kw p=>
  refine .i ?_
  generalize view f=w
  cases w with
  |attr o m ap=>show Sim _ ((nameOf o).bind fun x=>iteO _ ((lk ρ' x).bind _)) ((nameOf o).bind fun x=>iteO _ ((lk ρ x).bind _));rw[h.lk,hs];exact .b fun x=> .i (.b fun q=> .b fun l=> .b fun a=> .b fun d=> .m fun e=>h.set _ _ _)
  |_=>exact sim_none
 |_=>exact sim_none
theorem stepV_e (hs: ∀nm ρ ρ',Eqv ρ ρ'→E nm ρ=E nm ρ'){sf:Ex}(hf: ∀nm ρ ρ' st,Eqv ρ ρ'→Sim OutR (sf nm ρ' st) (sf nm ρ st))(st:Stmt)(h:Eqv ρ ρ'):Sim OutR (stepV C E sf nm ρ' st) (stepV C E sf nm ρ st):=by
 have hq:=hs nm ρ ρ' h
 have nx: ∀{o' o:Option Rho},Sim Eqv o' o→Sim OutR (o'.map .next) (o.map .next):=fun z=> .mm z fun b b' e=>⟨b,rfl,e⟩
 have rf: ∀o:Out,OutR o o:=fun o=>match o with
  | .next ρ=>⟨ρ,rfl,.refl ρ⟩
  | .brk ρ=>⟨ρ,rfl,.refl ρ⟩
  | .ret d=>rfl
 cases st with
 |Return e p=>show Sim _ (e.bind fun e=>(E nm ρ' e).map _) (e.bind fun e=>(E nm ρ e).map _);rw[hq];exact .refl rf _
 |Assign ts e p=>exact nx (sxAssign_e hs h ts e p)
 |Expr e p=>exact nx (appV_e h hq e)
 |If t b o p=>show Sim _ ((tstE (E nm ρ') 8 t).bind _) ((tstE (E nm ρ) 8 t).bind _);rw[hq];exact .b fun c=>exList_e (hf nm) _ ρ ρ' h
 |For t it b o p=>show Sim _ (iteO _ ((iterE E C nm ρ' t it).bind _)) (iteO _ ((iterE E C nm ρ t it).bind _));rw[h.iter hq];exact .i (.b fun its=>exFor_e (hf nm) t b its ρ ρ' h)
 |Break p=>exact .of ⟨ρ,rfl,h⟩
 |Try b hs o f p=>exact .i (exList_e (hf nm) b ρ ρ' h)
 |_=>exact sim_none
theorem sx_e {n:Nat}: ∀(m:Nat) (nm:Names) (ρ ρ':Rho) (st:Stmt),Eqv ρ ρ'→Sim OutR (sx C (ev C n) m nm ρ' st) (sx C (ev C n) m nm ρ st)
 |0,_,_,_,_,_=>sim_none
 |m+1,_,_,_,st,h=>stepV_e (C:=C) (E:=ev C n) (fun nm ρ ρ' h=>h.ev n) (sx_e m) st (h.frz _)
theorem ex_e {n m:Nat}(b:List Stmt)(h:Eqv ρ ρ'):Sim OutR (exList (sx C (ev C n) m) nm ρ' b) (exList (sx C (ev C n) m) nm ρ b):=exList_e (sx_e m nm) b ρ ρ' h
end
end Mine
namespace Mine
open PySem
section
variable {C:Cfg}{nm:Names}{ρ ρ' ρ₁ E E':Rho}{n m:Nat}{b r bd oe:List Stmt}{s:Stmt}{d:D}{po:Out}{p:Pos}
noncomputable def vals (ρ E:Rho):List (Option (Tag×D)):=E.map fun e=>ρ.lookup e.1
noncomputable def Has (ρ E:Rho):Prop:=vals ρ E=vals E E
theorem vals_eq: ∀{l:Rho},vals ρ l=vals ρ' l→ ∀x,x∈l.map (·.1)→ρ.lookup x=ρ'.lookup x
 |_::_,h,x,hx=>(List.mem_cons.mp hx).elim (fun q=>q▸(List.cons.inj h).1) fun q=>vals_eq (List.cons.inj h).2 x q
theorem look_none {x:Str}: ∀{ρ:Rho},x∉ρ.map (·.1)→ρ.lookup x=none
 | [],_=>rfl
 |(y,q)::ρ,h=>by
  rw[List.lookup_cons,beq_false_of_ne fun(e:x=y)=>h (e▸ .head _)]
  exact look_none fun q=>h (.tail _ q)
theorem look_app {x:Str}: ∀{E:Rho},(E++ρ).lookup x=(E.lookup x).or (ρ.lookup x)
 | []=>rfl
 |(y,q)::E=>by
  rw[List.cons_append,List.lookup_cons,List.lookup_cons,look_app]
  cases x==y<;>rfl
theorem Has.app (h:vals ρ E=vals E E):Eqv ρ (E++ρ):=fun x=>by
 rw[look_app]
 by_cases q:x∈E.map (·.1)
 ·rw[vals_eq h x q]
  cases E.lookup x with
  |none=>rfl
  |some e=>rfl
 ·rw[look_none q];rfl
theorem Has.eqv (h:Eqv ρ ρ')(k:Has ρ' E):Has ρ E:=(List.map_congr_left fun e ω=>h e.1:vals ρ E=vals ρ' E).trans k
noncomputable def outH (o p:Out):Prop:=match p with
 | .next E=> ∃ρ,o= .next ρ∧Has ρ E
 | .brk E=> ∃ρ,o= .brk ρ∧Has ρ E
 | .ret d=>o= .ret d
structure Runs (C:Cfg)(n m:Nat)(nm:Names)(ρ:Rho)(b:List Stmt)(p:Out):Prop where
 out: ∃o,exList (sx C (ev C n) m) nm ρ b=some o∧outH o p
theorem outH_e {o o':Out}(h:OutR o o')(k:outH o' po):outH o po:=by
 cases po with
 |next E=>
  obtain⟨q,rfl,k⟩:=k
  exact by obtain⟨q',e,hq⟩:=h;exact⟨q',e,k.eqv hq⟩
 |brk E=>
  obtain⟨q,rfl,k⟩:=k
  exact by obtain⟨q',e,hq⟩:=h;exact⟨q',e,k.eqv hq⟩
 |ret d=>
  cases (k:o'= .ret d)
  exact h
theorem Runs.eqv (h:Eqv ρ ρ')(r:Runs C n m nm ρ' b po):Runs C n m nm ρ b po:=by obtain⟨o,e,k⟩:=r.out;exact by obtain⟨o,e,q⟩:=ex_e b h o e;exact⟨o,e,outH_e q k⟩
theorem Runs.on (E:Rho)(h:vals ρ E=vals E E)(k: ∀ρt,Runs C n m nm (E++ρt) b po):Runs C n m nm ρ b po:= .eqv (Has.app h) (k ρ)
theorem Runs.nil (h:vals ρ E=vals E E):Runs C n m nm ρ [] (.next E):=⟨_,rfl,ρ,rfl,h⟩
theorem look_some {x:Str}: ∀{ρ:Rho},x∈ρ.map (·.1)→ ∃v,ρ.lookup x=some v
 |(y,q)::ρ,h=>by
  rw[List.lookup_cons]
  cases e:x==y with
  |true=>exact⟨q,rfl⟩
  |false=>exact look_some ((List.mem_cons.mp h).resolve_left fun z=>nomatch (beq_iff_eq.mpr z).symm.trans e)
theorem vals_app (E ρ:Rho):vals (E++ρ) E=vals E E:=List.map_congr_left fun e he=>by
 obtain⟨v,hv⟩:=look_some (List.mem_map.mpr ⟨e,he,rfl⟩)
 rw[look_app,hv]
 rfl
theorem Runs.fin {ρt:Rho}:Runs C n m nm (E++ρt) [] (.next E):= .nil (vals_app E ρt)
theorem Runs.goes (r:Runs C n m nm ρ b (.next E)): ∃ρ',exList (sx C (ev C n) m) nm ρ b=some (.next ρ')∧vals ρ' E=vals E E:=by obtain⟨_,e,ρ',q,h⟩:=r.out;exact⟨ρ',q▸e,h⟩
theorem Runs.gives (r:Runs C n m nm ρ b (.ret d)):exList (sx C (ev C n) m) nm ρ b=some (.ret d):=by obtain⟨_,e,q⟩:=r.out;exact q▸e
theorem cons_next {sf:Ex}(h:sf nm ρ s=some (.next ρ₁)):exList sf nm ρ (s::r)=exList sf nm ρ₁ r:=by
 show(sf nm ρ s).bind _=_
 rw[h];rfl
theorem cons_ret {sf:Ex}(h:sf nm ρ s=some (.ret d)):exList sf nm ρ (s::r)=some (.ret d):=by
 show(sf nm ρ s).bind _=_
 rw[h];rfl
theorem Runs.step (hb:b=s::r)(h:sx C (ev C n) m nm ρ s=some (.next ρ₁))(hk:vals ρ₁ E=vals E E)(k: ∀ρt,Runs C n m nm (E++ρt) r po):Runs C n m nm ρ b po:=
 by obtain⟨o,e,q⟩:=(Runs.on E hk k).out;exact⟨o,hb▸(cons_next h).trans e,q⟩
theorem Runs.ends (hb:b=s::r)(h:sx C (ev C n) m nm ρ s=some (.ret d)):Runs C n m nm ρ b (.ret d):=⟨_,hb▸cons_ret h,rfl⟩
theorem frz0 {xs:List Str}(h:xs= []):frzR ρ xs=ρ:=by
 subst h
 exact(List.map_congr_left fun e ω=>if_neg (fun q=>nomatch q)).trans (List.map_id' ρ)
theorem sx0 (h:C.frz s.pos.line= []){o:Option Out}(k:stepV C (ev C n) (sx C (ev C n) m) nm ρ s=o):sx C (ev C n) (m+1) nm ρ s=o:=by
 show stepV C (ev C n) (sx C (ev C n) m) nm (frzR ρ (C.frz s.pos.line)) s=o
 rw[frz0 h];exact k
theorem runX_ret {f:Fn}{ds:List D}(hl:f.params.length=ds.length)(h:Runs C n m f.names (argsR f.params ds) f.body (.ret d)):runX C n m f ds=some d:=by
 unfold runX
 rw[h.gives]
 exact if_pos hl
theorem Runs.frz (Ef:Rho)(hb:b=s::r)(h:vals (frzR ρ (C.frz s.pos.line)) Ef=vals Ef Ef)(he: ∀ρt,∃q,stepV C (ev C n) (sx C (ev C n) m) nm (Ef++ρt) s=some (.next q)∧vals q E=vals E E)(k: ∀ρt,Runs C n (m+1) nm (E++ρt) r po):Runs C n (m+1) nm ρ b po:=by
 obtain⟨q,h1,h2⟩:=he (frzR ρ (C.frz s.pos.line))
 obtain⟨o,h3,q',h4,h5⟩:=stepV_e (C:=C) (E:=ev C n) (fun nm ρ ρ' h=>h.ev n) (sx_e m) s (Has.app h) _ h1
 exact .step hb (show stepV C (ev C n) (sx C (ev C n) m) nm (frzR ρ (C.frz s.pos.line)) s=some (.next q') from h4▸h3) (Has.eqv h5 h2) k
theorem ret0 {e:Expr}(hb:b= .Return (some e) p::r)(hf:C.frz p.line= [])(h:ev C n nm ρ e=some d):Runs C n (m+1) nm ρ b (.ret d):= .ends hb (sx0 hf (congrArg (Option.map Out.ret) h))
theorem retF {e:Expr}(Ef:Rho)(hb:b= .Return (some e) p::r)(h:vals (frzR ρ (C.frz p.line)) Ef=vals Ef Ef)(he: ∀ρt,ev C n nm (Ef++ρt) e=some d):Runs C n (m+1) nm ρ b (.ret d):=
 .ends hb (show(ev C n nm (frzR ρ (C.frz p.line)) e).map Out.ret=_ from by rw[(Has.app h).ev n,he];rfl)
theorem asg0 {ts:List Expr}{e:Expr}(hb:b= .Assign ts e p::r)(hf:C.frz p.line= [])(h:sxAssign C (ev C n) nm ρ ts e p=some ρ₁)(hk:vals ρ₁ E=vals E E)(k: ∀ρt,Runs C n (m+1) nm (E++ρt) r po):Runs C n (m+1) nm ρ b po:=
 .step hb (sx0 hf (congrArg (Option.map Out.next) h)) hk k
theorem plain_name {x:Str}{xp:Pos}{e:Expr}(ho:C.own p.line=none)(hc:canB nm x=true)(he:ev C n nm ρ e=some d):sxAssign C (ev C n) nm ρ [.Name x xp] e p=some (setV ρ x .fr d):=by
 unfold sxAssign
 rw[ho]
 show(ev C n nm ρ e).bind _=_
 rw[he]
 show(Option.bind (if canB nm x=true then some (setV ρ x .fr d) else none) _)=_
 rw[if_pos hc];rfl
theorem own_name {x:Str}{xp:Pos}{e:Expr}(ho:C.own p.line=some .o1)(hc:canB nm x=true)(he:ev C n nm ρ e=some d)(hf:(freshE e d&&isLD d)=true):sxAssign C (ev C n) nm ρ [.Name x xp] e p=some (setV ρ x .o1 d):=by
 unfold sxAssign
 rw[ho]
 show(if canB nm x=true then(ev C n nm ρ e).bind _ else none)=_
 rw[if_pos hc,he]
 exact if_pos (Bool.and_eq_true_iff.mp hf)
theorem put_name {x:Str}{xp ip:Pos}{i e:Expr}{q d' i':D}(ho:C.own p.line=none)(hx:lk ρ x=some (.o1,q))(hi:ev C n nm ρ i=some i')(he:ev C n nm ρ e=some d)(hp:put1 i' d q=some d'):sxAssign C (ev C n) nm ρ [.Subscript (.Name x xp) i ip] e p=some (setV ρ x .o1 d'):=by
 have h2:(o2? ρ x)=none:=congrArg (Option.bind · tagO2) hx
 unfold sxAssign
 rw[ho]
 show asgN C (ev C n) nm ρ _ e ((o2? ρ x).bind _)=_
 rw[h2]
 show(ev C n nm ρ e).bind _=_
 rw[he]
 show(Option.bind ((lk ρ x).bind fun q=>(tagW q).bind fun e=>(ev C n nm ρ i).bind fun i=>(put1 i d e).map fun e=>setV ρ x .o1 e) _)=_
 rw[hx,hi]
 show(Option.bind ((put1 i' d q).map fun e=>setV ρ x .o1 e) _)=_
 rw[hp];rfl
theorem setN {x:Str}{xp:Pos}{e:Expr}(hb:b= .Assign [.Name x xp] e p::r)(hf:C.frz p.line= [])(ho:C.own p.line=none)(hc:canB nm x=true)(he:ev C n nm ρ e=some d)(hk:vals (setV ρ x .fr d) E=vals E E)(k: ∀ρt,Runs C n (m+1) nm (E++ρt) r po):Runs C n (m+1) nm ρ b po:=asg0 hb hf (plain_name ho hc he) hk k
theorem setO {x:Str}{xp:Pos}{e:Expr}(hb:b= .Assign [.Name x xp] e p::r)(hf:C.frz p.line= [])(ho:C.own p.line=some .o1)(hc:canB nm x=true)(he:ev C n nm ρ e=some d)(hfr:(freshE e d&&isLD d)=true)(hk:vals (setV ρ x .o1 d) E=vals E E)(k: ∀ρt,Runs C n (m+1) nm (E++ρt) r po):Runs C n (m+1) nm ρ b po:=asg0 hb hf (own_name ho hc he hfr) hk k
theorem asgP {x:Str}{xp ip:Pos}{i e:Expr}{q d' i':D}(hb:b= .Assign [.Subscript (.Name x xp) i ip] e p::r)(hf:C.frz p.line= [])(ho:C.own p.line=none)(hx:lk ρ x=some (.o1,q))(hi:ev C n nm ρ i=some i')(he:ev C n nm ρ e=some d)(hp:put1 i' d q=some d')
  (hk:vals (setV ρ x .o1 d') E=vals E E) (k: ∀ρt,Runs C n (m+1) nm (E++ρt) r po):Runs C n (m+1) nm ρ b po:=asg0 hb hf (put_name ho hx hi he hp) hk k
theorem asgF {x:Str}{xp:Pos}{e:Expr}(Ef:Rho)(hb:b= .Assign [.Name x xp] e p::r)(h4:vals (frzR ρ (C.frz p.line)) Ef=vals Ef Ef)(ho:C.own p.line=none)(hc:canB nm x=true)(he: ∀ρt,ev C n nm (Ef++ρt) e=some d)(hk: ∀ρt,vals (setV (Ef++ρt) x .fr d) E=vals E E)
  (k: ∀ρt,Runs C n (m+1) nm (E++ρt) r po):Runs C n (m+1) nm ρ b po:= .frz Ef hb h4 (fun ρt=>⟨_,congrArg (Option.map Out.next) (plain_name ho hc (he ρt)),hk ρt⟩) k
theorem if0 {t:Expr}{c:Bool}(hb:b= .If t bd oe p::r)(hf:C.frz p.line= [])(ht:tstE (ev C n nm ρ) 8 t=some c)(h1:c=true→Runs C n m nm ρ bd (.next E))(h2:c=false→Runs C n m nm ρ oe (.next E))(k: ∀ρt,Runs C n (m+1) nm (E++ρt) r po):Runs C n (m+1) nm ρ b po:=by
 have hx: ∃ρ',exList (sx C (ev C n) m) nm ρ (if c then bd else oe)=some (.next ρ')∧vals ρ' E=vals E E:=by
  cases c
  ·exact(h2 rfl).goes
  ·exact(h1 rfl).goes
 obtain⟨ρ',e,hk⟩:=hx
 refine .step hb (sx0 hf ?_) hk k
 show(tstE (ev C n nm ρ) 8 t).bind _=_
 rw[ht];exact e
theorem ifTo {t:Expr}{c:Bool}(hb:b= .If t bd oe p::r)(hf:C.frz p.line= [])(ht:tstE (ev C n nm ρ) 8 t=some c)(h1:Runs C n m nm ρ (if c then bd else oe) (.ret d)):Runs C n (m+1) nm ρ b (.ret d):=by
 refine .ends hb (sx0 hf ?_)
 show(tstE (ev C n nm ρ) 8 t).bind _=_
 rw[ht];exact h1.gives
theorem ifT0 {t:Expr}(hb:b= .If t bd oe p::r)(hf:C.frz p.line= [])(ht:tstE (ev C n nm ρ) 8 t=some true)(h1:Runs C n m nm ρ bd (.ret d)):Runs C n (m+1) nm ρ b (.ret d):=ifTo hb hf ht h1
theorem ifF0 {t:Expr}(hb:b= .If t bd [] p::r)(hf:C.frz p.line= [])(ht:tstE (ev C n nm ρ) 8 t=some false)(k:Runs C n (m+1) nm ρ r po):Runs C n (m+1) nm ρ b po:=by
 obtain⟨o,e,q⟩:=k.out
 refine⟨o,hb▸(cons_next (sx0 hf ?_)).trans e,q⟩
 show(tstE (ev C n nm ρ) 8 t).bind _=_
 rw[ht];rfl
theorem try0 {hs:List ExceptHandler}(hb:b= .Try bd hs [] [] p::r)(hf:C.frz p.line= [])(h1:Runs C n m nm ρ bd (.ret d)):Runs C n (m+1) nm ρ b (.ret d):= .ends hb (sx0 hf h1.gives)
theorem app0 {x:Str}{xp ap cp:Pos}{a:Expr}{ds:List D}(hb:b= .Expr (.Call (.Attribute (.Name x xp) "append" ap) [a] [] cp) p::r)(hf:C.frz p.line= [])(hl:ap.endLine=cp.line)(hx:lk ρ x=some (.o1,.list ds))(ha:ev C n nm ρ a=some d)(hz:ds.length≤lim)
  (hk:vals (setV ρ x .o1 (.list (ds++[d]))) E=vals E E) (k: ∀ρt,Runs C n (m+1) nm (E++ρt) r po):Runs C n (m+1) nm ρ b po:=by
 refine .step hb (sx0 hf ?_) hk k
 show(if((Str.ofString "append" :Str)= "append" ∧ap.endLine=cp.line) then((lk ρ x).bind fun q=>(tagW q).bind fun l=>(ev C n nm ρ a).bind fun d=>(appL d l).map fun e=>setV ρ x .o1 e) else none).map Out.next=_
 rw[if_pos ⟨rfl,hl⟩,hx,ha]
 show((if ds.length≤lim then some (D.list (ds++[d])) else none).map fun e=>setV ρ x .o1 e).map Out.next=_
 rw[if_pos hz];rfl
theorem for_go {β:Type}{t:Expr}(toD:β→D)(S:List β→Rho): ∀(tl dn:List β) (ρ:Rho),vals ρ (S dn)=vals (S dn) (S dn)→
  (∀d1 x t2,dn++tl=d1++x::t2→ ∀ρt,∃ρ1,bindT nm (S d1++ρt) t (toD x)=some ρ1∧Runs C n m nm ρ1 bd (.next (S (d1++[x]))))→ ∃ρ',exFor (sx C (ev C n) m) nm t bd ρ (tl.map toD)=some (.next ρ')∧vals ρ' (S (dn++tl))=vals (S (dn++tl)) (S (dn++tl))
 | [],dn,ρ,h0,_=>⟨ρ,rfl,(List.append_nil dn).symm▸h0⟩
 |x::tl,dn,ρ,h0,h=>by
  obtain⟨ρ1,h1,h2⟩:=h dn x tl rfl ρ
  obtain⟨ρ1',h3,h4⟩:=bindV_e (Has.app h0) (toD x) (view t) ρ1 h1
  obtain⟨ρ2,h5,h6⟩:=(h2.eqv h4).goes
  obtain⟨ρ3,h7,h8⟩:=for_go toD S tl (dn++[x]) ρ2 h6 fun d1 y t2 e=>h d1 y t2 (by rw[←e,List.append_assoc];rfl)
  refine⟨ρ3,?_,by rw[List.append_assoc] at h8;exact h8⟩
  show(bindT nm ρ t (toD x)).bind _=_
  rw[show bindT nm ρ t (toD x)=some ρ1' from h3]
  show(exList _ nm ρ1' bd).bind _=_
  rw[h5];exact h7
theorem forI {β:Type}{t it:Expr}{items:List D}(toD:β→D)(S:List β→Rho)(xs:List β)(hb:b= .For t it bd [] p::r)(hf:C.frz p.line= [])(hi:iterE (ev C n) C nm ρ t it=some items)(hm:items=xs.map toD)(h0:vals ρ (S [])=vals (S []) (S []))
  (h: ∀dn x tl,xs=dn++x::tl→ ∀ρt,∃ρ1,bindT nm (S dn++ρt) t (toD x)=some ρ1∧Runs C n m nm ρ1 bd (.next (S (dn++[x])))) (k: ∀ρt,Runs C n (m+1) nm (S xs++ρt) r po):Runs C n (m+1) nm ρ b po:=by
 subst hm
 obtain⟨ρ',e,hk⟩:=for_go toD S xs [] ρ h0 h
 refine .step hb (sx0 hf ?_) hk k
 show(iterE (ev C n) C nm ρ t it).bind _=_
 rw[hi];exact e
theorem turn_goP {t:Expr}{x:D}{ds:List D}{P:Option Out→Prop}(h1:bindT nm ρ t x=some ρ₁)(h2:Runs C n m nm ρ₁ bd (.next E))(h3: ∀ρ',vals ρ' E=vals E E→P (exFor (sx C (ev C n) m) nm t bd ρ' ds)):P (exFor (sx C (ev C n) m) nm t bd ρ (x::ds)):=by
 obtain⟨ρ',e,hk⟩:=h2.goes
 show P ((bindT nm ρ t x).bind _)
 rw[h1]
 show P ((exList _ nm ρ₁ bd).bind _)
 rw[e];exact h3 ρ' hk
theorem turn_ret {t:Expr}{x:D}{ds:List D}(h1:bindT nm ρ t x=some ρ₁)(h2:Runs C n m nm ρ₁ bd (.ret d)):exFor (sx C (ev C n) m) nm t bd ρ (x::ds)=some (.ret d):=by
 show(bindT nm ρ t x).bind _=_
 rw[h1]
 show(exList _ nm ρ₁ bd).bind _=_
 rw[h2.gives];rfl
theorem forR0 {t it:Expr}{items:List D}(hb:b= .For t it bd [] p::r)(hf:C.frz p.line= [])(hi:iterE (ev C n) C nm ρ t it=some items)(h1:exFor (sx C (ev C n) m) nm t bd ρ items=some (.ret d)):Runs C n (m+1) nm ρ b (.ret d):=by
 refine .ends hb (sx0 hf ?_)
 show(iterE (ev C n) C nm ρ t it).bind _=_
 rw[hi];exact h1
theorem forN0 {t it:Expr}{items:List D}(hb:b= .For t it bd [] p::r)(hf:C.frz p.line= [])(hi:iterE (ev C n) C nm ρ t it=some items)(h1:exFor (sx C (ev C n) m) nm t bd ρ items=some (.next ρ₁))(hk:vals ρ₁ E=vals E E)(k: ∀ρt,Runs C n (m+1) nm (E++ρt) r po):Runs C n (m+1) nm ρ b po:=by
 refine .step hb (sx0 hf ?_) hk k
 show(iterE (ev C n) C nm ρ t it).bind _=_
 rw[hi];exact h1
end
section
variable {C:Cfg}{nm:Names}{ρ:Rho}{n:Nat}{d d' i' a' b':D}{p q p1 p2:Pos}{x y:Str}{as:List Expr}{ds:List D}{e f l r s v:Expr}{k0:Nat}
theorem mO_nil {α β:Type}{f:α→Option β}:mapO f []=some []:=rfl
theorem mO_cons {α β:Type}{f:α→Option β}{a:α}{l:List α}{b:β}{bs:List β}(h1:f a=some b)(h2:mapO f l=some bs):mapO f (a::l)=some (b::bs):=by
 show(f a).bind (fun b=>(mapO f l).map fun bs=>b::bs)=_
 rw[h1,h2];rfl
theorem ev_tuple (h:mapO (ev C n nm ρ) as=some ds)(hl:as.length≤lim):ev C (n+1) nm ρ (.Tuple as k0 p)=some (.tup ds):=by
 show(if as.length≤lim then(mapO (ev C n nm ρ) as).map D.tup else none)=_
 rw[if_pos hl,h];rfl
theorem ev_bin {op:Operator}(h1:ev C n nm ρ l=some a')(h2:ev C n nm ρ r=some b')(h3:binD op a' b'=some d):ev C (n+1) nm ρ (.BinOp l op r p)=some d:=by
 show((ev C n nm ρ l).bind fun a=>(ev C n nm ρ r).bind (binD op a))=_
 rw[h1,h2];exact h3
theorem ev_neg {i:Int}(h:ev C n nm ρ e=some (.int i)):ev C (n+1) nm ρ (.UnaryOp .USub e p)=some (.int (-i)):=by
 show(ev C n nm ρ e).bind _=_
 rw[h];rfl
theorem ev_call {g:D}(h1:nameD C nm ρ x=some g)(h2:funE C (mkV C (ev C (n+1)) nm ρ) nm as g=some d):ev C (n+2) nm ρ (.Call (.Name x q) as [] p)=some d:=by
 show((nameD C nm ρ x).bind _)=_
 rw[h1];exact h2
theorem ev_obj {a:Addr}(h1:nameD C nm ρ x=some (.obj a))(hne:isNil as=false)(h2:mapO (ev C (n+1) nm ρ) as=some ds)(h3:C.F a ds=some d):ev C (n+2) nm ρ (.Call (.Name x q) as [] p)=some d:=ev_call h1 (by
 cases as with
 |nil=>first|exact nf hne|exact ns hne|cases hne
 |cons e es=>
  show(mapO (ev C (n+1) nm ρ) (e::es)).bind _=_
  rw[h2];exact h3)
noncomputable def isName (e:Expr):Bool:=(nameOf e).isSome
theorem ev_bi {n':String}{e:Expr}(h1:nameD C nm ρ x=some (.bi n'))(hn:isName e=false)(h2:ev C (n+1) nm ρ e=some d)(h3:biD n' [d]=some d'):ev C (n+2) nm ρ (.Call (.Name x q) [e] [] p)=some d':=ev_call h1 (by
 have t:(mapO (ev C (n+1) nm ρ) [e]).bind (biD n')=some d':=by rw[mO_cons h2 mO_nil];exact h3
 show loneV _ _ [e] (view e)=_
 unfold isName nameOf at hn
 generalize view e=w at hn
 cases w with
 |name=>first|exact nf hn|exact ns hn|cases hn
 |_=>exact t)
theorem ev_bi_name {n':String}(h1:nameD C nm ρ x=some (.bi n'))(h2:o1? ρ y=some d)(h3:biD n' [d]=some d'):ev C (n+2) nm ρ (.Call (.Name x q) [.Name y p1] [] p)=some d':=ev_call h1 (by
 show(o1? ρ y).bind _=_
 rw[h2];exact h3)
theorem ev_ty_name {n':String}(h1:nameD C nm ρ x=some (.ty n'))(h2:o1? ρ y=some d)(h3:tyD n' [d]=some d'):ev C (n+2) nm ρ (.Call (.Name x q) [.Name y p1] [] p)=some d':=ev_call h1 (by
 show(o1? ρ y).bind _=_
 rw[h2];exact h3)
noncomputable def isOther (e:Expr):Bool:=match view e with
 | .name .. =>false
 | .gen .. =>false
 | .call .. =>false
 |_=>true
theorem ev_ty {n':String}(h1:nameD C nm ρ x=some (.ty n'))(ho:isOther e=true)(h2:ev C (n+1) nm ρ e=some d)(h3:tyD n' [d]=some d'):ev C (n+2) nm ρ (.Call (.Name x q) [e] [] p)=some d':=ev_call h1 (by
 have t:(mapO (ev C (n+1) nm ρ) [e]).bind (tyD n')=some d':=by rw[mO_cons h2 mO_nil];exact h3
 show tyV _ nm n' [e] (view e)=_
 unfold isOther at ho
 generalize view e=w at ho
 cases w with
 |name=>first|exact nf ho|exact ns ho|cases ho
 |gen=>first|exact nf ho|exact ns ho|cases ho
 |call=>first|exact nf ho|exact ns ho|cases ho
 |_=>exact t)
theorem ev_cmp {op:CmpOp}{c:Bool}(hop:isIn op=false)(h1:ev C n nm ρ l=some a')(h2:ev C n nm ρ r=some b')(h3:cmpD op a' b'=some c):ev C (n+1) nm ρ (.Compare l [op] [r] p)=some (.bool c):=by
 show((ev C n nm ρ l).bind fun a=>(rhsN (mkV C (ev C n) nm ρ) op r (nameOf r)).bind fun b=>(cmpD op a b).map D.bool)=_
 have e:rhsN (mkV C (ev C n) nm ρ) op r (nameOf r)=some b':=by
  cases nameOf r with
  |none=>exact h2
  |some x=>
   show(if isIn op=true then _ else ev C n nm ρ r)=_
   rw[hop];exact h2
 rw[h1,e]
 show(cmpD op a' b').map D.bool=_
 rw[h3];rfl
theorem ev_methV {ap:Pos}{mth:Str}(hl:ap.endLine=p.line)(hn:as.length<29)(hb:baseOk e=true)(h1:ev C n nm ρ e=some d)(h2:methE C (ev C n nm ρ) nm mth as d=some d'):ev C (n+1) nm ρ (.Call (.Attribute e mth ap) as [] p)=some d':=by
 show(if baseOk e=true∧ap.endLine=p.line∧as.length<29 then(ev C n nm ρ e).bind _ else none)=_
 rw[if_pos ⟨hb,hl,hn⟩,h1];exact h2
theorem ev_meth {mth:Str}{ap:Pos}{c:Addr}{fs:List (Str×D)}{f:Addr}(hl:ap.endLine=p.line)(hn:as.length<29)(h1:nameD C nm ρ x=some (.inst c fs))(h2:getK fs mth=none)(h3:C.meth c mth=some f)(h4:mapO (ev C (n+1) nm ρ) as=some ds)(h5:C.F f (.inst c fs::ds)=some d):
  ev C (n+2) nm ρ (.Call (.Attribute (.Name x q) mth ap) as [] p)=some d:=ev_methV (d:= .inst c fs) hl hn rfl h1 (by
 show methI C (ev C (n+1) nm ρ) mth as c fs (getK fs mth)=_
 rw[h2]
 show(C.meth c mth).bind _=_
 rw[h3]
 show(mapO (ev C (n+1) nm ρ) as).bind _=_
 rw[h4];exact h5)
theorem ev_methS {mth:Str}{ap:Pos}(hl:ap.endLine=p.line)(hn:as.length<29)(hb:baseOk e=true)(hm:mth≠ "replace")(h1:ev C n nm ρ e=some (.str y))(h4:mapO (ev C n nm ρ) as=some ds)(h5:methS mth y ds=some d):ev C (n+1) nm ρ (.Call (.Attribute e mth ap) as [] p)=some d:=ev_methV hl hn hb h1 (by
 show(if mth= "replace" then _ else(mapO (ev C n nm ρ) as).bind (methS mth y))=_
 rw[if_neg hm,h4];exact h5)
theorem ev_dict1 {kx vx:Expr}(h1:ev C n nm ρ kx=some (.str x))(h2:ev C n nm ρ vx=some d):ev C (n+1) nm ρ (.Dict [some kx] [vx] p)=some (.dict [(x,d)]):=by
 show((ev C n nm ρ kx).bind fun d=>(asStr d).bind fun x=>(ev C n nm ρ vx).map fun d=>D.dict [(x,d)])=_
 rw[h1,h2];rfl
theorem ev_ifexp {t a b:Expr}{c:Bool}(h1:tstE (ev C n nm ρ) 8 t=some c)(h2:ev C n nm ρ (if c then a else b)=some d):ev C (n+1) nm ρ (.IfExp t a b p)=some d:=by
 show((tstE (ev C n nm ρ) 8 t).bind fun c=>ev C n nm ρ (if c then a else b))=_
 rw[h1];exact h2
noncomputable def isSlice (e:Expr):Bool:=match view e with
 | .slice .. =>true
 |_=>false
theorem ev_sub (hs:isSlice s=false)(h:subV (mkV C (ev C n) nm ρ) v s (view v)=some d):ev C (n+1) nm ρ (.Subscript v s p)=some d:=by
 show subS (mkV C (ev C n) nm ρ) v s (view s)=_
 unfold isSlice at hs
 generalize view s=w at hs
 cases w with
 |slice=>first|exact nf hs|exact ns hs|cases hs
 |_=>exact h
theorem two_of2 (h1:ev C n nm ρ v=some d)(h2:ev C n nm ρ s=some i')(h3:itemD d i'=some d'):two2 (mkV C (ev C n) nm ρ) v s=some d':=by
 show((ev C n nm ρ v).bind fun d=>(ev C n nm ρ s).bind (itemD d))=_
 rw[h1,h2];exact h3
theorem ev_item_name (hs:isSlice s=false)(h1:o1? ρ x=some d)(h2:ev C n nm ρ s=some i')(h3:itemD d i'=some d'):ev C (n+1) nm ρ (.Subscript (.Name x q) s p)=some d':=ev_sub hs (by
 show((o1? ρ x).bind fun d=>(ev C n nm ρ s).bind (itemD d))=_
 rw[h1,h2];exact h3)
theorem ev_item_two {k s:Expr}(hs:isSlice s=false)(h0:o2? ρ x=none)(h1:ev C n nm ρ (.Subscript (.Name x q) k p1)=some d)(h2:ev C n nm ρ s=some i')(h3:itemD d i'=some d'):ev C (n+1) nm ρ (.Subscript (.Subscript (.Name x q) k p1) s p)=some d':=ev_sub hs (by
 show subN (mkV C (ev C n) nm ρ) (.Subscript (.Name x q) k p1) s k (o2? ρ x)=_
 rw[h0];exact two_of2 h1 h2 h3)
theorem ev_item_o2 {k s:Expr}{kvs:List (Str×D)}(hs:isSlice s=false)(h0:o2? ρ x=some (.dict kvs))(h1:ev C n nm ρ k=some (.str y))(h2:ev C n nm ρ s=some i')(h4:getK kvs y=some d)(h3:itemD d i'=some d'):ev C (n+1) nm ρ (.Subscript (.Subscript (.Name x q) k p1) s p)=some d':=ev_sub hs (by
 show subN (mkV C (ev C n) nm ρ) (.Subscript (.Name x q) k p1) s k (o2? ρ x)=_
 rw[h0]
 show(ev C n nm ρ k).bind (fun d=>(asStr d).bind fun y=>(ev C n nm ρ s).bind fun i=>(getK kvs y).bind fun d=>itemD d i)=_
 rw[h1,h2]
 show(getK kvs y).bind (fun d=>itemD d i')=_
 rw[h4];exact h3)
noncomputable def isDeep (v:Expr):Bool:=match view v with
 | .name .. =>false
 | .sub w .. => !isName w
 |_=>true
theorem ev_item (hs:isSlice s=false)(hv:isDeep v=true)(h1:ev C n nm ρ v=some d)(h2:ev C n nm ρ s=some i')(h3:itemD d i'=some d'):ev C (n+1) nm ρ (.Subscript v s p)=some d':=ev_sub hs (by
 have t:=two_of2 h1 h2 h3
 unfold isDeep at hv
 generalize view v=w at hv
 cases w with
 |name=>first|exact nf hv|exact ns hv|cases hv
 |sub w k q=>
  have e:(nameOf w).bind (o2? ρ)=none:=by
   have hv:(!(nameOf w).isSome)=true:=hv
   cases hq:nameOf w with
   |none=>rfl
   |some x=>rw[hq] at hv;cases hv
  show subN (mkV C (ev C n) nm ρ) _ s k ((nameOf w).bind (o2? ρ))=_
  rw[e];exact t
 |_=>exact t)
theorem tst_cmp {op:CmpOp}{c:Bool}{k:Nat}(h:ev C n nm ρ (.Compare l [op] [r] p)=some (.bool c)):tstE (ev C n nm ρ) (k+1) (.Compare l [op] [r] p)=some c:=by
 show(ev C n nm ρ (.Compare l [op] [r] p)).bind truthD=_
 rw[h];rfl
theorem ifs1 {self:Ev}{b:Bool}(h:tstE (self nm ρ) 8 e=some b):ifsE self nm ρ [e]=some b:=by
 show(tstE (self nm ρ) 8 e).bind _=_
 rw[h]
 cases b<;>rfl
theorem iter_name {t:Expr}(h:nameD C nm ρ x=some d)(h2:itemsD d=some ds):iterE (ev C (n+1)) C nm ρ t (.Name x p)=some ds:=by
 show(nameD C nm ρ x).bind itemsD=_
 rw[h];exact h2
theorem iter_sub {t:Expr}(h:ev C n nm ρ (.Subscript v s p)=some d)(h2:itemsD d=some ds):iterE (ev C n) C nm ρ t (.Subscript v s p)=some ds:=by
 show(ev C n nm ρ (.Subscript v s p)).bind itemsD=_
 rw[h];exact h2
theorem mapO_map {α β γ:Type}{f:β→Option γ}{g:α→β}{h:α→γ}: ∀{l:List α},(∀x∈l,f (g x)=some (h x))→mapO f (l.map g)=some (l.map h)
 | [],_=>rfl
 |_::_,hf=>mO_cons (hf _ (.head _)) (mapO_map fun x hx=>hf x (.tail _ hx))
theorem flat_if {α β:Type}(c:α→Bool)(g:α→List β): ∀l:List α,(l.map fun x=>if c x then g x else []).flatten=((l.filter c).map g).flatten
 | []=>rfl
 |a::l=>by
  rw[List.map_cons,List.flatten_cons,flat_if c g l,List.filter_cons]
  cases c a<;>rfl
theorem flat_one {α β:Type}(g:α→β): ∀l:List α,(l.map fun x=>[g x]).flatten=l.map g
 | []=>rfl
 |a::l=>congrArg (g a:: ·) (flat_one g l)
structure Turn {α:Type}(C:Cfg)(sf:Ev)(nm0 nm:Names)(emit:Rho→Option α)(t:Expr)(ifs:List Expr)(gs:List Comprehension)(ρ:Rho)(d:D)(c:Bool)(g:List α):Prop where
 to: ∃ρ',bindT nm0 ρ t d=some ρ'∧ifsE sf nm ρ' ifs=some c∧(c=true→insE sf C nm emit (compE sf C nm0 nm emit gs) ρ' gs=some g)
theorem compG {α β:Type}{self:Ev}{nm0:Names}{emit:Rho→Option α}{t it:Expr}{ifs:List Expr}{isA:Int}{gs:List Comprehension}{its:List D}(xs:List β)(toD:β→D)(c:β→Bool)(g:β→List α)(hi:its=xs.map toD)
  (h: ∀x∈xs,Turn C self nm0 nm emit t ifs gs ρ (toD x) (c x) (g x)):compE self C nm0 nm emit (⟨t,it,ifs,isA⟩::gs) its ρ=some ((xs.filter c).map g).flatten:=by
 subst hi
 show(mapO _ _).map List.flatten=_
 rw[mapO_map (h:=fun x=>if c x then g x else []) fun x hx=> ?_]
 ·exact congrArg some (flat_if c g xs)
 ·obtain⟨ρ',h1,h2,h3⟩:=(h x hx).to
  show(bindT nm0 ρ t (toD x)).bind _=_
  rw[h1]
  show(ifsE self nm ρ' ifs).bind _=_
  rw[h2]
  cases hc:c x with
  |true=>exact h3 hc
  |false=>rfl
theorem comp1 {α β:Type}{self:Ev}{nm0:Names}{emit:Rho→Option α}{t it:Expr}{ifs:List Expr}{isA:Int}{its:List D}(xs:List β)(toD:β→D)(c:β→Bool)(g:β→α)(hi:its=xs.map toD)
  (h: ∀x∈xs,∃ρ',bindT nm0 ρ t (toD x)=some ρ'∧ifsE self nm ρ' ifs=some (c x)∧(c x=true→emit ρ'=some (g x))):
  compE self C nm0 nm emit [⟨t,it,ifs,isA⟩] its ρ=some ((xs.filter c).map g):=
 (compG (gs:=[]) xs toD c (fun x=>[g x]) hi fun x hx=>by obtain⟨ρ',h1,h2,h3⟩:=h x hx;exact⟨ρ',h1,h2,fun q=>congrArg (Option.map fun b=>[b]) (h3 q)⟩).trans (congrArg some (flat_one g _))
theorem comp1t {α β:Type}{self:Ev}{nm0:Names}{emit:Rho→Option α}{t it:Expr}{isA:Int}{its:List D}(xs:List β)(toD:β→D)(g:β→α)(hi:its=xs.map toD)
  (h: ∀x∈xs,∃ρ',bindT nm0 ρ t (toD x)=some ρ'∧emit ρ'=some (g x)):compE self C nm0 nm emit [⟨t,it,[],isA⟩] its ρ=some (xs.map g):=
 (comp1 xs toD (fun ω=>true) g hi fun x hx=>by obtain⟨ρ',h1,h2⟩:=h x hx;exact⟨ρ',h1,rfl,fun ω=>h2⟩).trans (congrArg (fun l=>some (List.map g l)) (List.filter_eq_self.mpr fun ω ω=>rfl))
theorem ev_lcomp {e:Expr}{g:Comprehension}{gs:List Comprehension}{sc:Scope}{its ds:List D}(h1:iterE (ev C n) C nm ρ g.target g.iter=some its)(h2:(okScope sc nm&&okGens (captured sc.names ρ) (g::gs))=true)
  (h4:compE (ev C n) C sc.names (relabelN sc.names nm) (fun ρ'=>ev C n (relabelN sc.names nm) ρ' e) (g::gs) its (captured sc.names ρ)=some ds) (hl:ds.length≤lim):ev C (n+1) nm ρ (.ListComp e (g::gs) sc p)=some (.list ds):=by
 show((iterE (ev C n) C nm ρ g.target g.iter).bind fun its=>iteO ((okScope sc nm&&okGens (captured sc.names ρ) (g::gs))=true) ((compE (ev C n) C sc.names (relabelN sc.names nm) (fun ρ'=>ev C n (relabelN sc.names nm) ρ' e) (g::gs) its (captured sc.names ρ)).bind fun r=>iteO (r.length≤lim) (some r))).map D.list=_
 rw[h1]
 show(if _ then(compE (ev C n) C sc.names (relabelN sc.names nm) (fun ρ'=>ev C n (relabelN sc.names nm) ρ' e) (g::gs) its (captured sc.names ρ)).bind _ else none).map D.list=_
 rw[if_pos h2,h4]
 show(if ds.length≤lim then some ds else none).map D.list=_
 rw[if_pos hl];rfl
theorem kv_eq {E:Ex1}{kx vx:Expr}(h1:E kx=some (.str x))(h2:E vx=some d):kvE E kx vx=some (x,d):=by
 unfold kvE
 rw[h1,h2];rfl
theorem gens_d {kx vx:Expr}{g:Comprehension}{gs:List Comprehension}{sc:Scope}{its:List D}{kvs:List (Str×D)}(h1:iterE (ev C n) C nm ρ g.target g.iter=some its)(h2:(okScope sc nm&&okGens (captured sc.names ρ) (g::gs))=true)
  (h4:compE (ev C n) C sc.names (relabelN sc.names nm) (fun ρ'=>kvE (ev C n (relabelN sc.names nm) ρ') kx vx) (g::gs) its (captured sc.names ρ)=some kvs) (hl:kvs.length≤lim):gensE C (ev C n) nm (mkV C (ev C n) nm ρ) (g::gs) sc (fun s n ρ=>kvE (s n ρ) kx vx)=some kvs:=by
 show((iterE (ev C n) C nm ρ g.target g.iter).bind fun its=>iteO ((okScope sc nm&&okGens (captured sc.names ρ) (g::gs))=true) ((compE (ev C n) C sc.names (relabelN sc.names nm) (fun ρ'=>kvE (ev C n (relabelN sc.names nm) ρ') kx vx) (g::gs) its (captured sc.names ρ)).bind fun r=>iteO (r.length≤lim) (some r)))=_
 rw[h1]
 show(if _ then(compE (ev C n) C sc.names (relabelN sc.names nm) (fun ρ'=>kvE (ev C n (relabelN sc.names nm) ρ') kx vx) (g::gs) its (captured sc.names ρ)).bind _ else none)=_
 rw[if_pos h2,h4]
 exact if_pos hl
theorem ev_dcomp {kx vx:Expr}{g:Comprehension}{gs:List Comprehension}{sc:Scope}{its:List D}{kvs:List (Str×D)}(h1:iterE (ev C n) C nm ρ g.target g.iter=some its)(h2:(okScope sc nm&&okGens (captured sc.names ρ) (g::gs))=true)
  (h4:compE (ev C n) C sc.names (relabelN sc.names nm) (fun ρ'=>kvE (ev C n (relabelN sc.names nm) ρ') kx vx) (g::gs) its (captured sc.names ρ)=some kvs) (hl:kvs.length≤lim) (hn:(kvs.map (·.1)).Nodup):ev C (n+1) nm ρ (.DictComp kx vx (g::gs) sc p)=some (.dict kvs):=by
 show(gensE C (ev C n) nm (mkV C (ev C n) nm ρ) (g::gs) sc fun s n ρ=>kvE (s n ρ) kx vx).map _=_
 rw[gens_d h1 h2 h4 hl]
 exact congrArg (fun l=>some (D.dict l)) (foldK_nodup hn)
theorem intsOf_map: ∀us:List Int,intsOf (us.map .int)=some us
 | []=>rfl
 |_::us=>mO_cons rfl (intsOf_map us)
theorem strsOf_map: ∀l:List Str,strsOf (l.map .str)=some l
 | []=>rfl
 |_::l=>mO_cons rfl (strsOf_map l)
end
end Mine
namespace Mine
open PySem
theorem ip {α:Type}{c:Prop}[Decidable c]{x:Option α}(h:c):iteO c x=x:=if_pos h
theorem zip_sums: ∀(us vs:List Int),((us.zip vs).map fun(u,v)=>D.int (u+v))=(List.zipWith (· + ·) us vs).map .int
 | [],_=>rfl
 |_::_,[]=>rfl
 |u::us,v::vs=>congrArg (D.int (u+v):: ·) (zip_sums us vs)
theorem ev_gen {C:Cfg}{nm:Names}{ρ:Rho}{n:Nat}{x:Str}{q p gp:Pos}{e:Expr}{gs:List Comprehension}{sc:Scope}{g:GenQ}{us vs:List Int}(ht:nameD C nm ρ x=some (.ty "tuple"))(hg:genQ e gs=some g)(hc:nm.lookup genMark=some .local∧okGenScope sc g.i g.j=true)
  (hz:nameD C nm ρ g.z=some (.ty "zip")) (ha:ev C (n+1) nm ρ g.a=some (.tup (us.map .int))) (hb:ev C (n+1) nm ρ g.b=some (.tup (vs.map .int))) (hl:us.length≤lim):
  ev C (n+2) nm ρ (.Call (.Name x q) [.GeneratorExp e gs sc gp] [] p)=some (.tup ((List.zipWith (· + ·) us vs).map .int)):=ev_call ht (by
 show iteO ("tuple" = "tuple") (genT (mkV C (ev C (n+1)) nm ρ) nm e gs sc)=_
 rw[ip rfl]
 unfold genT
 rw[hg]
 show iteO _ (genZ (mkV C (ev C (n+1)) nm ρ) g)=_
 rw[ip hc]
 unfold genZ
 dsimp only
 rw[hz,ha,hb]
 show((intsOf (us.map .int)).bind fun us=>(intsOf (vs.map .int)).bind fun vs=>iteO (us.length≤lim) (some (D.tup ((us.zip vs).map fun(u,v)=> .int (u+v)))))=_
 rw[intsOf_map,intsOf_map]
 exact(ip hl).trans (congrArg (fun l=>some (D.tup l)) (zip_sums us vs)))
noncomputable def V (v:Nat→Int):D:= .tup [.int (v 0),.int (v 1),.int (v 2),.int (v 3)]
noncomputable def kvV (l:List Str) (f:Str→Nat→Int):List (Str×D):=l.map fun y=>(y,V (f y))
noncomputable def DV (l:List Str) (f:Str→Nat→Int):D:= .dict (kvV l f)
theorem kvV_len (l:List Str)(f:Str→Nat→Int):(kvV l f).length=l.length:=List.length_map _
theorem kvV_keys (l:List Str)(f:Str→Nat→Int):(kvV l f).map (·.1)=l:=List.map_map.trans (List.map_id'' (fun ω=>rfl) l)
theorem kvV_congr {l:List Str}{f g:Str→Nat→Int}(h: ∀y∈l,V (f y)=V (g y)):kvV l f=kvV l g:=List.map_congr_left fun y hy=>by rw[h y hy]
theorem kvV_put {l:List Str}{f:Str→Nat→Int}{y:Str}(h:y∉l):putK (kvV l f) y (V (f y))=kvV (l++[y]) f:=(putK_new ((kvV_keys l f).symm▸h)).trans (by unfold kvV;rw[List.map_append];rfl)
theorem map_getK {l:List Str}{f:Str→D}{x:Str}(h:x∈l):getK (l.map fun y=>(y,f y)) x=some (f x):=by
 unfold getK
 induction l with
 |nil=>first|exact nf h|exact ns h|cases h
 |cons a l ih=>
  rw[List.map_cons,List.find?_cons]
  by_cases e:a=x
  ·rw[decide_eq_true e,e];rfl
  ·rw[decide_eq_false e]
   exact ih ((List.mem_cons.mp h).resolve_left fun q=>e q.symm)
theorem kvV_get {l:List Str}{f:Str→Nat→Int}{x:Str}(h:x∈l):getK (kvV l f) x=some (V (f x)):=map_getK h
theorem kvV_any (l:List Str)(f:Str→Nat→Int)(x:Str):((kvV l f).any fun kv=>decide (kv.1=x))=decide (x∈l):=by
 rw[Bool.eq_iff_iff,List.any_eq_true,decide_eq_true_iff]
 exact⟨fun z0=>by obtain⟨e,h1,h2⟩:=z0;obtain⟨y,h3,h4⟩:=List.mem_map.mp h1;exact of_decide_eq_true h2▸h4▸h3,fun h=>⟨(x,V (f x)),List.mem_map.mpr ⟨x,h,rfl⟩,decide_eq_true rfl⟩⟩
theorem kvV_set {l:List Str}{f g:Str→Nat→Int}{x:Str}(h:x∈l)(ho: ∀y∈l,y≠x→V (f y)=V (g y)):putK (kvV l f) x (V (g x))=kvV l g:=by
 unfold putK
 rw[kvV_any,if_pos (decide_eq_true h)]
 refine List.map_map.trans (List.map_congr_left fun y hy=> ?_)
 show(if y=x then(y,V (g x)) else(y,V (f y)))=_
 by_cases e:y=x
 ·rw[if_pos e,e]
 ·rw[if_neg e,ho y hy e]
noncomputable def addF (l m:List Str) (f g:Str→Nat→Int) (y:Str) (k:Nat):Int:=if y∈l then(if y∈m then g y k+f y k else f y k) else g y k
theorem addF_old {l m:List Str}{f g:Str→Nat→Int}{y:Str}(h:y∈l)(n:y∉m):addF l m f g y=f y:=funext fun k=>(if_pos h).trans (if_neg n)
theorem addF_both {l m:List Str}{f g:Str→Nat→Int}{y:Str}(h:y∈l)(n:y∈m):addF l m f g y=fun k=>g y k+f y k:=funext fun k=>(if_pos h).trans (if_pos n)
theorem addF_new {l m:List Str}{f g:Str→Nat→Int}{y:Str}(h:y∉l):addF l m f g y=g y:=funext fun k=>if_neg h
theorem addF_snoc {l m:List Str}{f g:Str→Nat→Int}{x y:Str}(h:y≠x):addF l (m++[x]) f g y=addF l m f g y:=by
 have e:(y∈m++[x])=(y∈m):=propext ⟨fun q=>(List.mem_append.mp q).resolve_right fun q=>h (List.mem_singleton.mp q),fun q=>List.mem_append_left _ q⟩
 funext k
 unfold addF
 simp only[e]
theorem turn_at {α:Type}{m dn tl:List α}{x:α}(e:m=dn++x::tl)(hm:m.Nodup):x∉dn:=fun q=>by
 subst e
 exact(List.nodup_append.mp hm).2.2 x q x (.head _) rfl
theorem turn_len {α:Type}{m dn tl:List α}{x:α}(e:m=dn++x::tl):dn.length<m.length:=by
 rw[e,List.length_append]
 exact Nat.lt_add_of_pos_right (Nat.succ_pos _)
section
variable {F:Addr→List D→Option D}{l m dn:List Str}{f g:Str→Nat→Int}{x:Str}
noncomputable def gotK (l dn:List Str) (f g:Str→Nat→Int):List (Str×D):=kvV (l++dn.filter (· ∉l)) (addF l dn f g)
noncomputable def nuR (kv:List (Str×D)):Rho:=[("new_callers",.o1,.dict kv)]
theorem got_len (h:l.length≤64)(h2:dn.length<64):(gotK l dn f g).length≤lim:=by
 rw[gotK,kvV_len,List.length_append]
 exact Nat.le_trans (Nat.add_le_add h (Nat.le_trans (List.length_filter_le _ _) (Nat.le_of_lt h2))) (Nat.le_of_ble_eq_true rfl)
theorem got_none:gotK l [] f g=kvV l f:=by
 unfold gotK
 rw[List.filter_nil,List.append_nil]
 exact kvV_congr fun y hy=>by rw[addF_old hy List.not_mem_nil]
theorem fil_in (h:x∈l):(dn++[x]).filter (· ∉l)=dn.filter (· ∉l):=by
 rw[List.filter_append,List.filter_cons,if_neg (fun q=>(of_decide_eq_true q:x∉l) h)]
 exact List.append_nil _
theorem fil_out (h:x∉l):(dn++[x]).filter (· ∉l)=dn.filter (· ∉l)++[x]:=by
 rw[List.filter_append,List.filter_cons,if_pos (decide_eq_true h)]
 rfl
theorem got_in (h:x∈l)(hx:x∉dn):putK (gotK l dn f g) x (V fun k=>g x k+f x k)=gotK l (dn++[x]) f g:=by
 have e:=kvV_set (f:=addF l dn f g) (g:=addF l (dn++[x]) f g) (x:=x) (l:=l++dn.filter (· ∉l)) (List.mem_append_left _ h) fun y ω hy=>by rw[addF_snoc hy]
 rw[addF_both h (List.mem_append_right _ (.head _))] at e
 unfold gotK
 rw[fil_in h]
 exact e
theorem got_out (h:x∉l)(hx:x∉dn):putK (gotK l dn f g) x (V (g x))=gotK l (dn++[x]) f g:=by
 have hn:x∉l++dn.filter (· ∉l):=fun q=>(List.mem_append.mp q).elim h fun q=>hx (List.mem_filter.mp q).1
 have e:=kvV_put (f:=addF l (dn++[x]) f g) hn
 rw[addF_new h] at e
 unfold gotK
 rw[fil_out h,←List.append_assoc,←e]
 exact congrArg (putK · x (V (g x))) (kvV_congr fun y hy=>by rw[addF_snoc fun(q:y=x)=>hn (q▸hy)])
noncomputable def addB:List Stmt:=sB ((fn 5).body.getD 2 (.Pass p0))
theorem add_turn (hl:l.length≤64)(hd:dn.length<64)(hx:x∉dn)(ρt:Rho):
  Runs (mkC F) 40 39 (fn 5).names (([("new_callers",.o1,.dict (gotK l dn f g)),("func",.fr,.str x),("caller",.fr,V (g x))]:Rho)++ρt) addB (.next (nuR (gotK l (dn++[x]) f g))):=by
 refine if0 (c:=decide (x∈l++dn.filter (· ∉l))) rfl rfl ((by kernel_rfl:_=some ((gotK l dn f g).any fun kv=>decide (kv.1=x))).trans (congrArg some (kvV_any _ _ x))) (fun hc=> ?_) (fun hc=> ?_) fun ρt=> .fin
 ·have hxl:x∈l:=(List.mem_append.mp (of_decide_eq_true hc)).elim id fun q=>absurd (List.mem_filter.mp q).1 hx
  refine if0 (c:=true) rfl rfl (by kernel_rfl) (fun ω=> ?_) (fun h=>nomatch h) fun ρt=> .fin
  refine asgP (q:= .dict (gotK l dn f g)) (i':= .str x) (d:=V fun k=>g x k+f x k) rfl rfl rfl (by kernel_rfl) (by kernel_rfl) ?_ ((if_pos (got_len hl hd)).trans (congrArg (fun q=>some (D.dict q)) (got_in hxl hx))) (by kernel_rfl) fun ρt=> .fin
  refine ev_gen (us:=[g x 0,g x 1,g x 2,g x 3]) (vs:=[f x 0,f x 1,f x 2,f x 3]) (by kernel_rfl) rfl (by decide) (by kernel_rfl) (by kernel_rfl) ?_ (Nat.le_of_ble_eq_true rfl)
  exact ev_item_name (d:= .dict (gotK l dn f g)) (i':= .str x) rfl (by kernel_rfl) (by kernel_rfl) ((kvV_get (List.mem_append_left _ hxl)).trans (congrArg (fun q=>some (V q)) (addF_old hxl hx)))
 ·have hxl:x∉l:=fun q=>of_decide_eq_false hc (List.mem_append_left _ q)
  exact asgP (q:= .dict (gotK l dn f g)) (i':= .str x) (d:=V (g x)) rfl rfl rfl (by kernel_rfl) (by kernel_rfl) (by kernel_rfl) ((if_pos (got_len hl hd)).trans (congrArg (fun q=>some (D.dict q)) (got_out hxl hx))) (by kernel_rfl) fun ρt=> .fin
theorem kv_items (l:List Str)(f:Str→Nat→Int):((kvV l f).map fun kv=>D.tup [.str kv.1,kv.2])=l.map fun y=> .tup [.str y,V (f y)]:=List.map_map
theorem add_callers_ok (hl:l.Nodup)(hm:m.Nodup)(zl:l.length≤64)(zm:m.length≤64):runX (mkC F) 40 40 (fn 5) [DV l f,DV m g]=some (DV (l++m.filter (· ∉l)) (addF l m f g)):=by
 refine runX_ret rfl (setO (d:= .dict []) (E:=[("new_callers",.o1,.dict []),("target",.fr,DV l f),("source",.fr,DV m g)]) rfl rfl rfl rfl (by kernel_rfl) (by kernel_rfl) (by kernel_rfl) fun ρt=> ?_)
 refine forI (fun y=> .tup [.str y,V (f y)]) (fun dn=>[("new_callers",.o1,.dict (kvV dn f)),("source",.fr,DV m g)]) l rfl rfl (by kernel_rfl) (kv_items l f) (by kernel_rfl) (fun dn x tl e ρt=>⟨_,rfl,?_⟩) fun ρt=> ?_
 ·exact asgP (q:= .dict (kvV dn f)) (i':= .str x) (d:=V (f x)) rfl rfl rfl (by kernel_rfl) (by kernel_rfl) (by kernel_rfl) ((if_pos ((kvV_len dn f).symm▸Nat.le_trans (Nat.le_of_lt (turn_len e)) (Nat.le_trans zl (Nat.le_of_ble_eq_true rfl)))).trans (congrArg (fun q=>some (D.dict q)) (kvV_put (turn_at e hl)))) (by kernel_rfl) fun ρt=> .fin
 ·refine forI (fun y=> .tup [.str y,V (g y)]) (fun dn=>nuR (gotK l dn f g)) m rfl rfl (by kernel_rfl) (kv_items m g) (by rw[got_none];kernel_rfl) (fun dn x tl e ρt=>⟨_,rfl,?_⟩) fun ρt=>retF [("new_callers",.fr,.dict (gotK l m f g))] rfl (by kernel_rfl) fun ρt=>(by kernel_rfl)
  exact .on _ (by kernel_rfl) (add_turn zl (Nat.lt_of_lt_of_le (turn_len e) zm) (turn_at e hm))
end
end Mine
namespace Mine
open PySem
section
variable {C:Cfg}{nm:Names}{ρ ρ' E:Rho}{n m:Nat}{b:List Stmt}{po:Out}
noncomputable def outV (E:Rho):Out→Option (List (Option (Tag×D)))
 | .next ρ=>some (vals ρ E)
 |_=>none
theorem exList_app {sf:Ex}{o:Option Out}: ∀{a:List Stmt} {ρ:Rho},exList sf nm ρ a=some (.next ρ')→exList sf nm ρ' b=o→exList sf nm ρ (a++b)=o
 | [],_,h,k=>by cases h;exact k
 |s::a,ρ,h,k=>ob h fun q h1 h2=>by
  show(sf nm ρ s).bind _=o
  rw[h1]
  cases q with
  |next ρ1=>exact exList_app (a:=a) h2 k
  |_=>first|exact nf h2|exact ns h2|cases h2
theorem Runs.blk (k:Nat)(E:Rho)(h:((exList (sx C (ev C n) m) nm ρ (b.take k)).bind (outV E))=some (vals E E))(c: ∀ρt,Runs C n m nm (E++ρt) (b.drop k) po):Runs C n m nm ρ b po:=ob h fun q h1 h2=>by
 cases q with
 |next ρ1=>
  obtain⟨o,e,z⟩:=(Runs.on E (Option.some.inj h2) c).out
  exact⟨o,List.take_append_drop k b▸exList_app h1 e,z⟩
 |_=>first|exact nf h2|exact ns h2|cases h2
theorem Runs.less {E':Rho}(r:Runs C n m nm ρ b (.next E))(hk:(E'.all fun e=>(E.map (·.1)).contains e.1)=true)(h:vals E E'=vals E' E'):Runs C n m nm ρ b (.next E'):=by
 obtain⟨q,h1,h2⟩:=r.goes
 exact⟨_,h1,q,rfl,(List.map_congr_left fun e he=>vals_eq h2 e.1 (List.contains_iff_mem.mp (List.all_eq_true.mp hk e he)):vals q E'=vals E E').trans h⟩
theorem Runs.blkN (h:((exList (sx C (ev C n) m) nm ρ b).bind (outV E))=some (vals E E)):Runs C n m nm ρ b (.next E):=ob h fun q h1 h2=>by
 cases q with
 |next ρ1=>exact⟨_,h1,ρ1,rfl,Option.some.inj h2⟩
 |_=>first|exact nf h2|exact ns h2|cases h2
end
noncomputable def T4 (v:Nat→Int) (d:D):D:= .tup [.int (v 0),.int (v 1),.int (v 2),.int (v 3),d]
theorem add_func_stats_ok (F:Addr→List D→Option D)(v u:Nat→Int)(a b c:D)(hF:F 80 [a,b]=some c):runX (mkC F) 40 40 (fn 4) [T4 v a,T4 u b]=some (T4 (fun k=>u k+v k) c):=by
 refine runX_ret rfl (.blk 2 [("t_callers",.fr,a),("t_ct",.fr,.int (v 3)),("t_tt",.fr,.int (v 2)),("t_nc",.fr,.int (v 1)),("t_cc",.fr,.int (v 0)),("callers",.fr,b),("ct",.fr,.int (u 3)),("tt",.fr,.int (u 2)),("nc",.fr,.int (u 1)),("cc",.fr,.int (u 0))] (by kernel_rfl) fun ρt=> ?_)
 exact ret0 rfl rfl (ev_tuple (mO_cons (by kernel_rfl) (mO_cons (by kernel_rfl) (mO_cons (by kernel_rfl) (mO_cons (by kernel_rfl) (mO_cons ((by kernel_rfl:_=F 80 [a,b]).trans hF) mO_nil))))) (Nat.le_of_ble_eq_true rfl))
noncomputable def upsD (u0 u1:Int):D:= .tup [.tup [.int 0,.int 1],.tup [.int 1,.int u0],.tup [.int 2,.int u1]]
noncomputable def compI (u0 u1:Int):D:= .inst 62 [("comp_select_list",upsD u0 u1)]
theorem comp_made (F:Addr→List D→Option D)(u0 u1:Int):runI (mkC F) 40 40 62 (fnC 3 0) [upsD u0 u1]=some (compI u0 u1):=by rfl
noncomputable abbrev Row:=Int×Str×Str
noncomputable def rowD (r:Row):D:= .tup [.int r.1,.str r.2.1,.str r.2.2]
noncomputable abbrev ltS (a b:Str):Prop:=a.cps.toList<b.cps.toList
noncomputable def cmpR (u0 u1:Int) (l r:Row):Int:=
 if l.1<r.1 then -1 else if r.1<l.1 then 1 else if ltS l.2.1 r.2.1 then -u0 else if ltS r.2.1 l.2.1 then u0 else if ltS l.2.2 r.2.2 then -u1 else if ltS r.2.2 l.2.2 then u1 else 0
noncomputable def lrR (l r:D):Rho:=[("left",.fr,l),("right",.fr,r)]
noncomputable def cmpB:List Stmt:=sB ((fnC 3 1).body.getD 0 (.Pass p0))
noncomputable def cmpT:Expr:=sT ((fnC 3 1).body.getD 0 (.Pass p0))
section
variable {F:Addr→List D→Option D}{L R a b:D}{i u:Int}{ds:List D}{ρ:Rho}
noncomputable abbrev cmpX (F:Addr→List D→Option D) (ρ:Rho) (ds:List D):Option Out:=exFor (sx (mkC F) (ev (mkC F) 40) 39) (fnC 3 1).names cmpT cmpB ρ ds
theorem two_items (h1:itemD L (.int i)=some a)(h2:itemD R (.int i)=some b){p:Out}(k: ∀ρt,Runs (mkC F) 40 39 (fnC 3 1).names (([("l",.fr,a),("r",.fr,b),("direction",.fr,.int u),("left",.fr,L),("right",.fr,R)]:Rho)++ρt) (cmpB.drop 2) p)(ρt:Rho):
  Runs (mkC F) 40 39 (fnC 3 1).names (([("index",.fr,.int i),("direction",.fr,.int u),("left",.fr,L),("right",.fr,R)]:Rho)++ρt) cmpB p:=by
 refine setN (E:=[("l",.fr,a),("index",.fr,.int i),("direction",.fr,.int u),("left",.fr,L),("right",.fr,R)]) rfl rfl rfl rfl (ev_item_name (d:=L) (i':= .int i) rfl (by kernel_rfl) (by kernel_rfl) h1) (by kernel_rfl) fun ρt=> ?_
 exact setN rfl rfl rfl rfl (ev_item_name (d:=R) (i':= .int i) rfl (by kernel_rfl) (by kernel_rfl) h2) (by kernel_rfl) k
theorem cmp_bind (h:vals ρ (lrR L R)=vals (lrR L R) (lrR L R)){p:Out}(k: ∀ρt,Runs (mkC F) 40 39 (fnC 3 1).names (([("index",.fr,.int i),("direction",.fr,.int u),("left",.fr,L),("right",.fr,R)]:Rho)++ρt) cmpB p):
  ∃ρ1,bindT (fnC 3 1).names ρ cmpT (.tup [.int i,.int u])=some ρ1∧Runs (mkC F) 40 39 (fnC 3 1).names ρ1 cmpB p:=by
 obtain⟨ρ1,e,q⟩:=bindV_e (nm:=(fnC 3 1).names) (Has.app h) (.tup [.int i,.int u]) (view cmpT) _ (by kernel_rfl:bindV (fnC 3 1).names (lrR L R++ρ) (.tup [.int i,.int u]) (view cmpT)=some (setV (setV (lrR L R++ρ) "index" .fr (.int i)) "direction" .fr (.int u)))
 exact⟨ρ1,e,Runs.eqv q (.on _ (by kernel_rfl) k)⟩
theorem cmp_passP {P:Option Out→Prop}(h1:itemD L (.int i)=some a)(h2:itemD R (.int i)=some b)(h3:ltD a b=some false)(h4:ltD b a=some false)(h:vals ρ (lrR L R)=vals (lrR L R) (lrR L R))(k: ∀ρ',vals ρ' (lrR L R)=vals (lrR L R) (lrR L R)→P (cmpX F ρ' ds)):P (cmpX F ρ (.tup [.int i,.int u]::ds)):=
 let ⟨_,e1,e2⟩:=cmp_bind (F:=F) (i:=i) (u:=u) h (two_items h1 h2 fun ρt=>ifF0 rfl rfl ((by kernel_rfl:_=((ltD a b).map D.bool).bind truthD).trans (by rw[h3];rfl)) (ifF0 rfl rfl ((by kernel_rfl:_=((ltD b a).map D.bool).bind truthD).trans (by rw[h4];rfl)) (.nil (E:=lrR L R) (by kernel_rfl))))
 turn_goP e1 e2 k
theorem cmp_pass {o:Option Out}(h1:itemD L (.int i)=some a)(h2:itemD R (.int i)=some b)(h3:ltD a b=some false)(h4:ltD b a=some false)(h:vals ρ (lrR L R)=vals (lrR L R) (lrR L R))(k: ∀ρ',vals ρ' (lrR L R)=vals (lrR L R) (lrR L R)→cmpX F ρ' ds=o):cmpX F ρ (.tup [.int i,.int u]::ds)=o:=cmp_passP (P:=(· =o)) h1 h2 h3 h4 h k
theorem cmp_lt (h1:itemD L (.int i)=some a)(h2:itemD R (.int i)=some b)(h3:ltD a b=some true)(h:vals ρ (lrR L R)=vals (lrR L R) (lrR L R)):cmpX F ρ (.tup [.int i,.int u]::ds)=some (.ret (.int (-u))):=
 let ⟨_,e1,e2⟩:=cmp_bind (F:=F) (i:=i) (u:=u) h (two_items h1 h2 fun ρt=>ifT0 rfl rfl ((by kernel_rfl:_=((ltD a b).map D.bool).bind truthD).trans (by rw[h3];rfl)) (ret0 rfl rfl (by kernel_rfl)))
 turn_ret e1 e2
theorem cmp_gt (h1:itemD L (.int i)=some a)(h2:itemD R (.int i)=some b)(h3:ltD a b=some false)(h4:ltD b a=some true)(h:vals ρ (lrR L R)=vals (lrR L R) (lrR L R)):cmpX F ρ (.tup [.int i,.int u]::ds)=some (.ret (.int u)):=
 let ⟨_,e1,e2⟩:=cmp_bind (F:=F) (i:=i) (u:=u) h (two_items h1 h2 fun ρt=>ifF0 rfl rfl ((by kernel_rfl:_=((ltD a b).map D.bool).bind truthD).trans (by rw[h3];rfl)) (ifT0 rfl rfl ((by kernel_rfl:_=((ltD b a).map D.bool).bind truthD).trans (by rw[h4];rfl)) (ret0 rfl rfl (by kernel_rfl))))
 turn_ret e1 e2
end
theorem compare_ok (F:Addr→List D→Option D)(u0 u1:Int)(l r:Row):runX (mkC F) 40 40 (fnC 3 1) [compI u0 u1,rowD l,rowD r]=some (.int (cmpR u0 u1 l r)):=by
 have h0:vals (argsR (fnC 3 1).params [compI u0 u1,rowD l,rowD r]) (lrR (rowD l) (rowD r))=vals (lrR (rowD l) (rowD r)) (lrR (rowD l) (rowD r)):=by kernel_rfl
 have go: ∀{d:D},cmpX F (argsR (fnC 3 1).params [compI u0 u1,rowD l,rowD r]) [.tup [.int 0,.int 1],.tup [.int 1,.int u0],.tup [.int 2,.int u1]]=some (.ret d)→runX (mkC F) 40 40 (fnC 3 1) [compI u0 u1,rowD l,rowD r]=some d:=fun h=>runX_ret rfl (forR0 rfl rfl (by kernel_rfl) h)
 have dI: ∀{a b:Int},a<b→ltD (.int a) (.int b)=some true:=fun h=>congrArg some (decide_eq_true h)
 have nI: ∀{a b:Int},¬a<b→ltD (.int a) (.int b)=some false:=fun h=>congrArg some (decide_eq_false h)
 have dS: ∀{a b:Str},ltS a b→ltD (.str a) (.str b)=some true:=fun h=>congrArg some (decide_eq_true h)
 have nS: ∀{a b:Str},¬ltS a b→ltD (.str a) (.str b)=some false:=fun h=>congrArg some (decide_eq_false h)
 unfold cmpR
 by_cases h1:l.1<r.1
 ·rw[if_pos h1];exact go (cmp_lt rfl rfl (dI h1) h0)
 rw[if_neg h1]
 by_cases h2:r.1<l.1
 ·rw[if_pos h2];exact go (cmp_gt rfl rfl (nI h1) (dI h2) h0)
 rw[if_neg h2]
 by_cases h3:ltS l.2.1 r.2.1
 ·rw[if_pos h3];exact go (cmp_pass rfl rfl (nI h1) (nI h2) h0 fun ρ' h=>cmp_lt rfl rfl (dS h3) h)
 rw[if_neg h3]
 by_cases h4:ltS r.2.1 l.2.1
 ·rw[if_pos h4];exact go (cmp_pass rfl rfl (nI h1) (nI h2) h0 fun ρ' h=>cmp_gt rfl rfl (nS h3) (dS h4) h)
 rw[if_neg h4]
 by_cases h5:ltS l.2.2 r.2.2
 ·rw[if_pos h5];exact go (cmp_pass rfl rfl (nI h1) (nI h2) h0 fun ρ' h=>cmp_pass rfl rfl (nS h3) (nS h4) h fun ρ' h=>cmp_lt rfl rfl (dS h5) h)
 rw[if_neg h5]
 by_cases h6:ltS r.2.2 l.2.2
 ·rw[if_pos h6];exact go (cmp_pass rfl rfl (nI h1) (nI h2) h0 fun ρ' h=>cmp_pass rfl rfl (nS h3) (nS h4) h fun ρ' h=>cmp_gt rfl rfl (nS h5) (dS h6) h)
 rw[if_neg h6]
 refine runX_ret rfl ?_
 obtain⟨o,e⟩: ∃ρ',cmpX F (argsR (fnC 3 1).params [compI u0 u1,rowD l,rowD r]) [.tup [.int 0,.int 1],.tup [.int 1,.int u0],.tup [.int 2,.int u1]]=some (.next ρ'):=
  cmp_passP (P:=fun o=> ∃ρ',o=some (.next ρ')) rfl rfl (nI h1) (nI h2) h0 fun ρ' h=>cmp_passP (P:=fun o=> ∃ρ',o=some (.next ρ')) rfl rfl (nS h3) (nS h4) h fun ρ' h=>cmp_passP (P:=fun o=> ∃ρ',o=some (.next ρ')) rfl rfl (nS h5) (nS h6) h fun ρ' h=>⟨ρ',rfl⟩
 exact forN0 (E:=[]) rfl rfl (by kernel_rfl) e rfl fun ρt=>ret0 rfl rfl (by kernel_rfl)
end Mine
namespace Mine
open PySem
noncomputable def sideS (g:Str):Str:=if g.cps.toList.contains 103 then⟨(([112,113,114,115]:List Nat).filter fun c=> !g.cps.toList.contains c).toArray⟩ else g
structure FJ (F:Addr→List D→Option D):Prop where
 stats: ∀(l m:List Str) (f g:Str→Nat→Int) (v u:Nat→Int),l.Nodup→m.Nodup→l.length≤64→m.length≤64→F 73 [T4 v (DV l f),T4 u (DV m g)]=some (T4 (fun k=>u k+v k) (DV (l++m.filter (· ∉l)) (addF l m f g)))
 comp: ∀u0 u1,F 62 [upsD u0 u1]=some (compI u0 u1)
 cmp: ∀u0 u1 l r,F 59 [compI u0 u1,rowD l,rowD r]=some (.int (cmpR u0 u1 l r))
 side: ∀g:Str,g.cps.size≤8→F 255 [.str g]=some (.str (sideS g))
noncomputable def farD (outer:List Str) (inner:Str→List Str) (d:Str→Str→Nat→Int):D:= .dict (outer.map fun x=>(x,DV (inner x) (d x)))
noncomputable def others (ns:List Str) (x:Str):List Str:=ns.filter (· ≠x)
noncomputable def RR (ns:List Str) (d:Str→Str→Nat→Int) (x:Str) (k:Nat):Int:=((others ns x).map fun y=>d x y k).sum
noncomputable def QQ (ns:List Str) (d:Str→Str→Nat→Int) (c:Nat) (x y:Str):Int:=((ns.length:Int) - 2)*d x y c - RR ns d x c - RR ns d y c
noncomputable def rowsOf (ns:List Str) (d:Str→Str→Nat→Int) (c:Nat):List Row:=(ns.map fun x=>(ns.filter fun y=>decide (ltS x y)).map fun y=>(QQ ns d c x y,x,y)).flatten
noncomputable def strsD (l:List Str):D:= .list (l.map .str)
structure In (outer ns:List Str)(inner:Str→List Str)(d:Str→Str→Nat→Int):Prop where
 nodup:ns.Nodup
 len:ns.length≤5
 two:3≤ns.length
 sorted:sortS outer=ns
 perm:outer.Perm ns
 inn: ∀x∈ns,(inner x).Perm (others ns x)
 small: ∀x∈ns,∀y∈ns,y≠x→ ∀k,(d x y k).natAbs<1073741824
theorem lookup_map_get {l:List Str}{f:Str→D}{x:Str}(h:x∈l):getK (l.map fun y=>(y,f y)) x=some (f x):=map_getK h
theorem V_item {v:Nat→Int}: ∀{c:Nat},c<4→itemD (V v) (.int c)=some (.int (v c))
 |0,_=>rfl
 |1,_=>rfl
 |2,_=>rfl
 |3,_=>rfl
theorem T4_item {v:Nat→Int}{d:D}: ∀{c:Nat},c<4→itemD (T4 v d) (.int c)=some (.int (v c))
 |0,_=>rfl
 |1,_=>rfl
 |2,_=>rfl
 |3,_=>rfl
structure TT where
 outer:List Str
 ns:List Str
 inner:Str→List Str
 d:Str→Str→Nat→Int
 c:Nat
 u0:Int
 u1:Int
noncomputable abbrev TT.Ok (T:TT):Prop:=In T.outer T.ns T.inner T.d
noncomputable def TT.far (T:TT):D:=farD T.outer T.inner T.d
noncomputable def TT.base (T:TT) (found:D):Rho:=[("far",.fr,T.far),("ups",.fr,.list [.int T.u0,.int T.u1]),("column",.fr,.int (T.c:Int)),("found",.o1,found),("comp",.fr,compI T.u0 T.u1)]
noncomputable def TT.loop (T:TT) (found:D):Rho:=("size",.fr,.int (T.ns.length:Int))::("names",.fr,strsD T.ns)::T.base found
noncomputable def bkV (ns:List Str) (d:Str→Str→Nat→Int) (dn:List Str):List (Str×D):=dn.map fun x=>(x,T4 (RR ns d x) (DV (others ns x) (d x)))
noncomputable def duV (ns:List Str) (inner:Str→List Str) (d:Str→Str→Nat→Int) (dn:List Str):List (Str×D):=dn.map fun x=>(x,T4 (RR ns d x) (DV (inner x) (d x)))
noncomputable def sumK (d:Str→Str→Nat→Int) (x:Str) (l:List Str) (k:Nat):Int:=(l.map fun z=>d x z k).sum
noncomputable def TT.bkX (T:TT) (dn:List Str) (x:Str) (l:List Str):List (Str×D):=bkV T.ns T.d dn++[(x,T4 (sumK T.d x l) (DV l (T.d x)))]
noncomputable def turnB:List Stmt:=sB ((fn 28).body.getD 2 (.Pass p0))
noncomputable def booksB:List Stmt:=sB (turnB.getD 4 (.Pass p0))
noncomputable def matesB:List Stmt:=sB (booksB.getD 1 (.Pass p0))
theorem T4_congr {v u:Nat→Int}{a:D}(h: ∀k,v k=u k):T4 v a=T4 u a:=congrArg (T4 · a) (funext h)
theorem sum_snoc (d:Str→Str→Nat→Int)(x y:Str)(l:List Str)(k:Nat):d x y k+sumK d x l k=sumK d x (l++[y]) k:=by
 unfold sumK
 rw[List.map_append,List.sum_append,Int.add_comm]
 show _=_+(d x y k+0)
 rw[Int.add_zero]
theorem keys_map {l:List Str}{f:Str→D}:(l.map fun x=>(x,f x)).map (·.1)=l:=List.map_map.trans (List.map_id'' (fun ω=>rfl) l)
theorem put_last {kvs:List (Str×D)}{x:Str}{v w:D}(h:x∉kvs.map (·.1)):putK (kvs++[(x,v)]) x w=kvs++[(x,w)]:=by
 unfold putK
 rw[if_pos (List.any_eq_true.mpr ⟨(x,v),List.mem_append_right _ (.head _),decide_eq_true rfl⟩),List.map_append]
 refine congr (congrArg _ ((List.map_congr_left fun e he=>if_neg fun(q:e.1=x)=>h (q▸List.mem_map.mpr ⟨e,he,rfl⟩)).trans (List.map_id' kvs))) ?_
 show [if x=x then(x,w) else(x,v)]=_
 rw[if_pos rfl]
theorem get_last {kvs:List (Str×D)}{x:Str}{v:D}(h:x∉kvs.map (·.1)):getK (kvs++[(x,v)]) x=some v:=by
 have hn:kvs.find? (fun kv=>decide (kv.1=x))=none:=List.find?_eq_none.mpr fun e he q=>h ((of_decide_eq_true q:e.1=x)▸List.mem_map.mpr ⟨e,he,rfl⟩)
 unfold getK
 rw[List.find?_append,hn,List.find?_cons,decide_eq_true rfl]
 rfl
theorem put_ok {kvs kvs':List (Str×D)}{x:Str}{v:D}(hl:kvs.length≤lim)(h:putK kvs x v=kvs'):put1 (.str x) v (.dict kvs)=some (.dict kvs'):=h▸if_pos hl
section
variable {C:Cfg}{nm:Names}{ρ:Rho}{n:Nat}{T:TT}{x y a b:Str}{p1 p2 p3 p4 p5:Pos}
structure FarAt (T:TT)(C:Cfg)(nm:Names)(ρ:Rho)(a:Str)(x:Str):Prop where
 far:lk ρ "far" =some (.fr,T.far)
 a:nameD C nm ρ a=some (.str x)
 x:x∈T.ns
theorem FarAt.one (h:FarAt T C nm ρ a x)(I:T.Ok):ev C (n+2) nm ρ (.Subscript (.Name "far" p1) (.Name a p2) p3)=some (DV (T.inner x) (T.d x)):=
 ev_item_name (d:=T.far) (i':= .str x) rfl (congrArg (Option.bind · tagO1) h.far) h.a (lookup_map_get (I.perm.mem_iff.mpr h.x))
theorem FarAt.two (h:FarAt T C nm ρ a x)(I:T.Ok)(hb:nameD C nm ρ b=some (.str y))(hy:y∈T.inner x):ev C (n+3) nm ρ (.Subscript (.Subscript (.Name "far" p1) (.Name a p2) p3) (.Name b p4) p5)=some (V (T.d x y)):=
 ev_item_two (d:=DV (T.inner x) (T.d x)) (i':= .str y) rfl (congrArg (Option.bind · tagO2) h.far) (h.one I) hb (kvV_get hy)
theorem mate_in (I:T.Ok)(hx:x∈T.ns)(hy:y∈T.ns)(h:y≠x):y∈T.inner x:=(I.inn x hx).mem_iff.mpr (List.mem_filter.mpr ⟨hy,decide_eq_true h⟩)
end
section
variable {F:Addr→List D→Option D}(J:FJ F){T:TT}(I:T.Ok){found duK:D}{x y:Str}{l dn:List Str}
include J I
noncomputable def TT.mateR (T:TT) (y x:Str) (bk du found:D):Rho:=("mate",.fr,.str y)::("books",.o1,bk)::("name",.fr,.str x)::("due",.o1,du)::T.loop found
theorem mate_turn (hx:x∈T.ns)(hy:y∈T.ns)(hxd:x∉dn)(hyl:y∉l)(hl:l.Nodup)(hll:l.length≤64)(hdl:dn.length≤64)(ρt:Rho):
  Runs (mkC F) 40 37 (fn 28).names (T.mateR y x (.dict (T.bkX dn x l)) duK found++ρt) matesB (.next (T.mateR y x (.dict (T.bkX dn x (l++[y].filter (· ≠x)))) duK found)):=by
 refine if0 (c:= !(y==x)) rfl rfl (by kernel_rfl) (fun hc=> ?_) (fun hc=> ?_) fun ρt=> .fin
 ·have hne:y≠x:=bne_iff_ne.mp hc
  have hk:x∉(bkV T.ns T.d dn).map (·.1):=by rw[bkV,keys_map];exact hxd
  rw[List.filter_cons,if_pos (decide_eq_true hne),List.filter_nil]
  have fa:FarAt T (mkC F) (fn 28).names (T.mateR y x (.dict (T.bkX dn x l)) duK found++ρt) "name" x:=⟨by kernel_rfl,by kernel_rfl,hx⟩
  refine asgP (q:= .dict (T.bkX dn x l)) (i':= .str x) (d':= .dict (T.bkX dn x (l++[y]))) (d:=T4 (fun k=>T.d x y k+sumK T.d x l k) (DV (l++[y].filter (· ∉l)) (addF l [y] (T.d x) (T.d x)))) rfl rfl rfl (by kernel_rfl) (by kernel_rfl)
   (ev_obj (by kernel_rfl) rfl (mO_cons (b:=T4 (sumK T.d x l) (DV l (T.d x))) ?_ (mO_cons (b:=T4 (T.d x y) (DV [y] (T.d x))) ?_ mO_nil)) (J.stats l [y] (T.d x) (T.d x) _ _ hl (List.nodup_cons.mpr ⟨List.not_mem_nil,List.nodup_nil⟩) hll (Nat.le_of_ble_eq_true rfl))) (put_ok ?_ ?_) (by kernel_rfl) fun ρt=> .fin
  ·exact ev_item_name (d:= .dict (T.bkX dn x l)) (i':= .str x) rfl (by kernel_rfl) (by kernel_rfl) (get_last hk)
  ·exact ev_bin (a':=V (T.d x y)) (b':= .tup [DV [y] (T.d x)]) (fa.two I (by kernel_rfl) (mate_in I hx hy hne)) (ev_tuple (mO_cons (ev_dict1 (x:=y) (d:=V (T.d x y)) (by kernel_rfl) (fa.two I (by kernel_rfl) (mate_in I hx hy hne))) mO_nil) (Nat.le_of_ble_eq_true rfl)) (by kernel_rfl)
  ·rw[TT.bkX,bkV,List.length_append,List.length_map]
   exact Nat.le_trans (Nat.add_le_add_right hdl 1) (Nat.le_of_ble_eq_true rfl)
  ·refine(put_last hk).trans (congrArg (fun v=>bkV T.ns T.d dn++[(x,v)]) ?_)
   have h1:DV (l++[y].filter (· ∉l)) (addF l [y] (T.d x) (T.d x))=DV (l++[y]) (T.d x):=by
    rw[List.filter_cons,if_pos (decide_eq_true hyl),List.filter_nil]
    exact congrArg D.dict (kvV_congr fun z hz=>congrArg V (if hzl:z∈l then addF_old hzl (fun q=>hyl (List.mem_singleton.mp q▸hzl)) else addF_new hzl))
   rw[h1]
   exact T4_congr fun k=>sum_snoc T.d x y l k
 ·have he:y=x:=eq_of_beq ((Bool.not_eq_false' _).mp hc)
  rw[List.filter_cons,if_neg (fun q=>(of_decide_eq_true q:y≠x) he),List.filter_nil,List.append_nil]
  exact .fin
end
end Mine
namespace Mine
open PySem
theorem perm_sum {α:Type}{l m:List α}{f:α→Int}(h:l.Perm m):(l.map f).sum=(m.map f).sum:=by
 induction h with
 |nil=>rfl
 |cons x _ ih=>exact congrArg (f x+ ·) ih
 |swap x y l=>exact Int.add_left_comm (f y) (f x) (l.map f).sum
 |trans _ _ h1 h2=>exact h1.trans h2
theorem ints_sum (l:List Int):biD "sum" [.list (l.map .int)]=some (.int l.sum):=(by rfl:_=(intsOf (l.map .int)).map fun l=>D.int l.sum).trans (by rw[intsOf_map];rfl)
theorem items_kvV (l:List Str)(f:Str→Nat→Int):itemsD (DV l f)=some (l.map .str):=congrArg some List.map_map
noncomputable def four:List Nat:=[0,1,2,3]
noncomputable def toN (k:Nat):D:= .int (k:Int)
theorem four_lt {k:Nat}(h:k∈four):k<4:=List.mem_range.mp (show k∈List.range 4 from h)
section
variable {C:Cfg}{nm:Names}{ρ:Rho}{n:Nat}{β:Type}{e t it:Expr}{isA:Int}{sc:Scope}{p:Pos}{its:List D}
theorem ev_map (xs:List β)(toD:β→D)(g:β→D)(h1:iterE (ev C n) C nm ρ t it=some its)(hi:its=xs.map toD)(h2:(okScope sc nm&&okGens (captured sc.names ρ) [⟨t,it,[],isA⟩])=true)
  (h: ∀x∈xs,∃ρ',bindT sc.names (captured sc.names ρ) t (toD x)=some ρ'∧ev C n (relabelN sc.names nm) ρ' e=some (g x)) (hl:xs.length≤lim):ev C (n+1) nm ρ (.ListComp e [⟨t,it,[],isA⟩] sc p)=some (.list (xs.map g)):=
 ev_lcomp h1 h2 (comp1t xs toD g hi h) ((List.length_map (as:=xs) g).symm▸hl)
theorem ev_filter {ifs:List Expr}(xs:List β)(toD:β→D)(c:β→Bool)(g:β→D)(h1:iterE (ev C n) C nm ρ t it=some its)(hi:its=xs.map toD)(h2:(okScope sc nm&&okGens (captured sc.names ρ) [⟨t,it,ifs,isA⟩])=true)
  (h: ∀x∈xs,∃ρ',bindT sc.names (captured sc.names ρ) t (toD x)=some ρ'∧ifsE (ev C n) (relabelN sc.names nm) ρ' ifs=some (c x)∧(c x=true→ev C n (relabelN sc.names nm) ρ' e=some (g x))) (hl:xs.length≤lim):
  ev C (n+1) nm ρ (.ListComp e [⟨t,it,ifs,isA⟩] sc p)=some (.list ((xs.filter c).map g)):=
 ev_lcomp h1 h2 (comp1 xs toD c g hi h) ((List.length_map (as:=xs.filter c) g).symm▸Nat.le_trans (List.length_filter_le _ _) hl)
end
section
variable {F:Addr→List D→Option D}(J:FJ F){T:TT}(I:T.Ok){found:D}{x:Str}{dn:List Str}
include J I
noncomputable def TT.nameR (T:TT) (x:Str) (bk du:List (Str×D)) (found:D):Rho:=("due",.o1,.dict du)::("books",.o1,.dict bk)::("name",.fr,.str x)::T.loop found
noncomputable def TT.doneR (T:TT) (dn:List Str) (found:D):Rho:=("due",.o1,.dict (duV T.ns T.inner T.d dn))::("books",.o1,.dict (bkV T.ns T.d dn))::T.loop found
omit J in
theorem ns_le {l:List Str}(h:l.length≤T.ns.length):l.length≤64:=Nat.le_trans h (Nat.le_trans I.len (Nat.le_of_ble_eq_true rfl))
omit J in
theorem ns_lim {l:List Str}(h:l.length≤T.ns.length):l.length≤lim:=Nat.le_trans h (Nat.le_trans I.len (Nat.le_of_ble_eq_true rfl))
theorem name_turn (hx:x∈T.ns)(hxd:x∉dn)(hdl:dn.length≤64)(ρt:Rho):Runs (mkC F) 40 38 (fn 28).names (T.nameR x (bkV T.ns T.d dn) (duV T.ns T.inner T.d dn) found++ρt) booksB (.next (T.doneR (dn++[x]) found)):=by
 have hk:x∉(bkV T.ns T.d dn).map (·.1):=by rw[bkV,keys_map];exact hxd
 have hk2:x∉(duV T.ns T.inner T.d dn).map (·.1):=by rw[duV,keys_map];exact hxd
 have hbl:(bkV T.ns T.d dn).length≤lim:=by rw[bkV,List.length_map];exact Nat.le_trans hdl (Nat.le_of_ble_eq_true rfl)
 have hdul:(duV T.ns T.inner T.d dn).length≤lim:=by rw[duV,List.length_map];exact Nat.le_trans hdl (Nat.le_of_ble_eq_true rfl)
 refine asgP (q:= .dict (bkV T.ns T.d dn)) (i':= .str x) (d:=T4 (fun ω=>0) (DV [] (T.d x))) (E:=T.nameR x (T.bkX dn x []) (duV T.ns T.inner T.d dn) found) rfl rfl rfl (by kernel_rfl) (by kernel_rfl) (by kernel_rfl) (put_ok hbl (putK_new hk)) (by kernel_rfl) fun ρt=> ?_
 refine forI .str (fun dm=>T.nameR x (T.bkX dn x (dm.filter (· ≠x))) (duV T.ns T.inner T.d dn) found) T.ns rfl rfl (iter_name (d:=strsD T.ns) (by kernel_rfl) rfl) rfl (by kernel_rfl) (fun dm y tl e ρt=>⟨_,rfl,?_⟩) fun ρt=> ?_
 ·have hn:=turn_at e I.nodup
  have hl:=Nat.le_of_lt (turn_len e)
  refine .on (T.mateR y x (.dict (T.bkX dn x (dm.filter (· ≠x)))) (.dict (duV T.ns T.inner T.d dn)) found) (by kernel_rfl) fun ρt=> ?_
  have:=mate_turn J I (found:=found) (duK:= .dict (duV T.ns T.inner T.d dn)) (l:=dm.filter (· ≠x)) hx (e▸List.mem_append_right _ (.head _):y∈T.ns) hxd (fun q=>hn (List.mem_filter.mp q).1) ((List.nodup_append.mp (e▸I.nodup)).1.filter _) (ns_le I (Nat.le_trans (List.length_filter_le _ _) hl)) hdl ρt
  rw[←List.filter_append] at this
  exact this.less (by kernel_rfl) (by kernel_rfl)
 ·have fa:FarAt T (mkC F) (fn 28).names (T.nameR x (T.bkX dn x (T.ns.filter (· ≠x))) (duV T.ns T.inner T.d dn) found++ρt) "name" x:=⟨by kernel_rfl,by kernel_rfl,hx⟩
  have hb2:T.bkX dn x (T.ns.filter (· ≠x))=bkV T.ns T.d (dn++[x]):=by unfold bkV;rw[List.map_append];rfl
  have hd2:putK (duV T.ns T.inner T.d dn) x (T4 (RR T.ns T.d x) (DV (T.inner x) (T.d x)))=duV T.ns T.inner T.d (dn++[x]):=(putK_new hk2).trans (by unfold duV;rw[List.map_append];rfl)
  rw[hb2] at fa⊢
  refine asgP (q:= .dict (duV T.ns T.inner T.d dn)) (i':= .str x) (d:=T4 (RR T.ns T.d x) (DV (T.inner x) (T.d x))) rfl rfl rfl (by kernel_rfl) (by kernel_rfl)
   (ev_bin (a':=V (RR T.ns T.d x)) (b':= .tup [DV (T.inner x) (T.d x)]) (ev_ty (n':= "tuple") (d:= .list (four.map fun k=> .int (RR T.ns T.d x k))) (by kernel_rfl) rfl (ev_map four toN _ (by kernel_rfl) rfl (by kernel_rfl) (fun k hk=>⟨_,rfl,?_⟩) (Nat.le_of_ble_eq_true rfl)) (by kernel_rfl))
     (ev_tuple (mO_cons (fa.one I) mO_nil) (Nat.le_of_ble_eq_true rfl)) (by kernel_rfl)) (put_ok hdul hd2) (by kernel_rfl) fun ρt=> .fin
  have hs:((T.inner x).map fun y=>T.d x y k).sum=RR T.ns T.d x k:=perm_sum (I.inn x hx)
  rw[←hs]
  refine ev_bi (n':= "sum") (d:= .list (((T.inner x).map fun y=>T.d x y k).map .int)) (by kernel_rfl) rfl ?_ (ints_sum _)
  rw[List.map_map]
  refine ev_map (T.inner x) .str _ (iter_sub (FarAt.one (T:=T) (a:= "name") (x:=x) ⟨by kernel_rfl,by kernel_rfl,hx⟩ I) (items_kvV _ _)) rfl (by kernel_rfl) (fun y hy=>⟨_,rfl,?_⟩) (ns_lim I ((I.inn x hx).length_eq▸List.length_filter_le _ _))
  exact ev_item (d:=V (T.d x y)) (i':=toN k) rfl rfl (FarAt.two (T:=T) (a:= "name") (x:=x) ⟨by kernel_rfl,by kernel_rfl,hx⟩ I (by kernel_rfl) hy) (by kernel_rfl) (V_item (four_lt hk))
end
end Mine
namespace Mine
open PySem
theorem sorted_keys {outer ns:List Str}{f:Str→D}(h:sortS outer=ns)(hl:outer.length<64):biD "sorted" [.dict (outer.map fun x=>(x,f x))]=some (strsD ns):=by
 show iteO ((outer.map fun x=>(x,f x)).length<64) (some (D.list ((sortS ((outer.map fun x=>(x,f x)).map (·.1))).map .str)))=_
 rw[ip ((List.length_map (as:=outer) _).symm▸hl),keys_map,h]
 rfl
theorem len_list (l:List D)(h:l.length≤lim):biD "len" [.list l]=some (.int (l.length:Int)):=ip h
theorem ins_go {α:Type}{sf:Ev}{C:Cfg}{nm:Names}{emit:Rho→Option α}{rc:List D→Rho→Option (List α)}{ρ:Rho}{g:Comprehension}{gs:List Comprehension}{its:List D}{r:Option (List α)}(h1:iterE sf C nm ρ g.target g.iter=some its)(h2:rc its ρ=r):insE sf C nm emit rc ρ (g::gs)=r:=by
 show(iterE sf C nm ρ g.target g.iter).bind _=_
 rw[h1];exact h2
theorem ltS_irrefl (x:Str): ¬ltS x x:=List.lt_irrefl _
theorem small_of {i:Int}(h:i.natAbs<1073741824):small i=true:=decide_eq_true h
section
variable {T:TT}(I:T.Ok){x y a b:Str}
theorem bky (hx:x∈T.ns):getK (bkV T.ns T.d T.ns) x=some (T4 (RR T.ns T.d x) (DV (others T.ns x) (T.d x))):=lookup_map_get (f:=fun x=>T4 (RR T.ns T.d x) (DV (others T.ns x) (T.d x))) hx
noncomputable def TT.bks (T:TT):D:= .dict (bkV T.ns T.d T.ns)
noncomputable def TT.dus (T:TT):D:= .dict (duV T.ns T.inner T.d T.ns)
theorem book_k {C:Cfg}{nm:Names}{ρ:Rho}{n:Nat}{p1 p2 p3 p4:Pos}{e:Expr}{c:Nat}(hb:lk ρ "books" =some (.fr,T.bks))(ha:nameD C nm ρ a=some (.str x))(hx:x∈T.ns)(hs:isSlice e=false)(he:ev C (n+2) nm ρ e=some (.int (c:Int)))(hc:c<4):
  ev C (n+3) nm ρ (.Subscript (.Subscript (.Name "books" p1) (.Name a p2) p3) e p4)=some (.int (RR T.ns T.d x c)):=
 ev_item_two (d:=T4 (RR T.ns T.d x) (DV (others T.ns x) (T.d x))) hs (congrArg (Option.bind · tagO2) hb) (ev_item_name (d:=T.bks) (i':= .str x) rfl (congrArg (Option.bind · tagO1) hb) ha (bky hx)) he (T4_item hc)
include I
theorem size_small:small ((T.ns.length:Int) - 2)=true:=by
 have h1:=I.len
 have h2:=I.two
 exact small_of (by omega)
theorem rows_small:(rowsOf T.ns T.d T.c).length≤25:=by
 have key: ∀l:List Str,((l.map fun x=>(T.ns.filter fun y=>decide (ltS x y)).map fun y=>(QQ T.ns T.d T.c x y,x,y)).flatten).length≤l.length*5:=fun l=>by
  induction l with
  |nil=>exact Nat.le_refl _
  |cons a l ih=>
   rw[List.map_cons,List.flatten_cons,List.length_append,List.length_map,List.length_cons,Nat.succ_mul,Nat.add_comm]
   exact Nat.add_le_add ih (Nat.le_trans (List.length_filter_le _ _) I.len)
 exact Nat.le_trans (key T.ns) (Nat.mul_le_mul_right 5 I.len)
end
section
variable {F:Addr→List D→Option D}(J:FJ F){T:TT}(I:T.Ok){found:D}(hc:T.c<4)
include J I
noncomputable def TT.closed (T:TT) (found:D):Rho:=("due",.fr,T.dus)::("books",.fr,T.bks)::T.loop found
noncomputable def TT.rows (T:TT):List Row:=rowsOf T.ns T.d T.c
noncomputable def TT.rowsR (T:TT) (found:D):Rho:=("rows",.fr,.list (T.rows.map rowD))::T.closed found
include hc in
theorem rows_ev (ρt:Rho):ev (mkC F) 40 (fn 28).names (T.closed found++ρt) (sE (turnB.getD 5 (.Pass p0)))=some (.list (T.rows.map rowD)):=by
 have hrows:T.rows.map rowD=((T.ns.filter fun ω=>true).map fun x=>(T.ns.filter fun y=>decide (ltS x y)).map fun y=>rowD (QQ T.ns T.d T.c x y,x,y)).flatten:=by
  unfold TT.rows rowsOf
  rw[List.filter_eq_self.mpr fun ω ω=>rfl,List.map_flatten,List.map_map]
  exact congrArg List.flatten (List.map_congr_left fun x ω=>List.map_map)
 have hlen:(T.rows.map rowD).length≤lim:=(List.length_map (as:=T.rows) rowD).symm▸Nat.le_trans (rows_small I) (Nat.le_of_ble_eq_true rfl)
 rw[hrows] at hlen⊢
 refine ev_lcomp (iter_name (d:=strsD T.ns) (by kernel_rfl) rfl) (by kernel_rfl) (compG T.ns .str (fun ω=>true) (fun x=>(T.ns.filter fun y=>decide (ltS x y)).map fun y=>rowD (QQ T.ns T.d T.c x y,x,y)) rfl fun x hx=>⟨_,rfl,rfl,fun ω=> ?_⟩) hlen
 refine ins_go (iter_name (d:=strsD T.ns) (by kernel_rfl) rfl) ?_
 refine comp1 T.ns .str (fun y=>decide (ltS x y)) (fun y=>rowD (QQ T.ns T.d T.c x y,x,y)) rfl fun y hy=>⟨_,rfl,ifs1 (by kernel_rfl),fun hlt=> ?_⟩
 have hne:y≠x:=fun q=>by
  rw[q] at hlt
  exact ltS_irrefl x (of_decide_eq_true hlt)
 refine ev_tuple (mO_cons (b:=D.int (QQ T.ns T.d T.c x y)) (ev_bin (a':= .int (((T.ns.length:Int) - 2)*T.d x y T.c - RR T.ns T.d x T.c)) (ev_bin (a':= .int (((T.ns.length:Int) - 2)*T.d x y T.c)) (ev_bin (a':= .int ((T.ns.length:Int) - 2)) (by kernel_rfl) (ev_item (d:=V (T.d x y)) (i':= .int (T.c:Int)) rfl rfl (FarAt.two (T:=T) (a:= "name") (x:=x) ⟨by kernel_rfl,by kernel_rfl,hx⟩ I (by kernel_rfl) (mate_in I hx hy hne)) (by kernel_rfl) (V_item hc)) ?_)
  (book_k (T:=T) (by kernel_rfl) (by kernel_rfl) hx rfl (by kernel_rfl) hc) rfl) (book_k (T:=T) (by kernel_rfl) (by kernel_rfl) hy rfl (by kernel_rfl) hc) rfl) (mO_cons (b:=D.str x) (by kernel_rfl) (mO_cons (b:=D.str y) (by kernel_rfl) mO_nil))) (Nat.le_of_ble_eq_true rfl)
 exact(ip (by rw[size_small I,small_of (I.small x hx y hy hne T.c)];rfl):iteO ((small ((T.ns.length:Int) - 2)&&small (T.d x y T.c))=true) _=_)
include hc in
theorem to_rows {po:Out}(hnext: ∀ρt,Runs (mkC F) 40 39 (fn 28).names (T.rowsR found++ρt) (turnB.drop 6) po)(ρt:Rho):Runs (mkC F) 40 39 (fn 28).names (T.base found++ρt) turnB po:=by
 refine setN (d:=strsD T.ns) (E:=("names",.fr,strsD T.ns)::T.base found) rfl rfl rfl rfl (ev_bi_name (n':= "sorted") (d:=T.far) (by kernel_rfl) (by kernel_rfl) (sorted_keys I.sorted (Nat.lt_of_le_of_lt (I.perm.length_eq▸I.len) (Nat.le_of_ble_eq_true rfl)))) (by kernel_rfl) fun ρt=> ?_
 refine setN (d:= .int (T.ns.length:Int)) (E:=T.loop found) rfl rfl rfl rfl (ev_bi_name (n':= "len") (d:=strsD T.ns) (by kernel_rfl) (by kernel_rfl) ((len_list _ (by rw[List.length_map];exact ns_lim I (Nat.le_refl _))).trans (by rw[List.length_map]))) (by kernel_rfl) fun ρt=> ?_
 refine .blk 2 (T.doneR [] found) (by kernel_rfl) fun ρt=> ?_
 refine forI .str (fun dn=>T.doneR dn found) T.ns rfl rfl (iter_name (d:=strsD T.ns) (by kernel_rfl) rfl) rfl (by kernel_rfl) (fun dn x tl e ρt=>⟨_,rfl,?_⟩) fun ρt=> ?_
 ·exact .on (T.nameR x (bkV T.ns T.d dn) (duV T.ns T.inner T.d dn) found) (by kernel_rfl) fun ρt=>name_turn J I (e▸List.mem_append_right _ (.head _)) (turn_at e I.nodup) (ns_le I (Nat.le_of_lt (turn_len e))) ρt
 ·exact asgF (T.closed found) rfl (by kernel_rfl) rfl rfl (rows_ev J I hc) (fun ρt=>by kernel_rfl) hnext
end
end Mine
namespace Mine
open PySem
theorem ltS_asymm {a b:Str}(h:ltS a b): ¬ltS b a:=List.lt_asymm h
theorem ltS_irr (a:Str): ¬ltS a a:=List.lt_irrefl _
theorem ltS_trans {a b c:Str}(h:ltS a b)(h':ltS b c):ltS a c:=List.lt_trans h h'
theorem ltS_eq {a b:Str}(h: ¬ltS a b)(h': ¬ltS b a):a=b:=Str.ext' (Array.toList_inj.mp (List.le_antisymm (List.not_lt.mp h') (List.not_lt.mp h)))
theorem ltS_le {a b c:Str}(h1: ¬ltS b a)(h2: ¬ltS c b): ¬ltS c a:=fun h=>by
 by_cases q:ltS a b
 ·exact h2 (ltS_trans h q)
 ·exact h2 (ltS_eq q h1▸h)
theorem sortS_perm (l:List Str):(sortS l).Perm l:=List.mergeSort_perm _ _
theorem sortS_sorted (l:List Str):(sortS l).Pairwise fun a b=> ¬ltS b a:=
 (List.pairwise_mergeSort (le:=fun(a b:Str)=>decide (¬b.cps.toList<a.cps.toList)) (fun a b c h1 h2=>decide_eq_true (ltS_le (of_decide_eq_true h1) (of_decide_eq_true h2))) (fun a b=>Bool.or_eq_true_iff.mpr ((Decidable.em (ltS b a)).elim (fun q=> .inr (decide_eq_true (ltS_asymm q))) fun q=> .inl (decide_eq_true q))) l).imp of_decide_eq_true
theorem sort_head {l:List Str}{x:Str}(hx:x∈l)(h: ∀y∈l,¬ltS y x):(sortS l).head?=some x:=by
 have hp:=sortS_perm l
 have hs:=sortS_sorted l
 generalize sortS l=m at*
 cases m with
 |nil=>exact absurd (hp.mem_iff.mpr hx) List.not_mem_nil
 |cons a r=>exact congrArg some (ltS_eq (h a (hp.mem_iff.mp (.head _))) ((List.mem_cons.mp (hp.mem_iff.mpr hx)).elim (fun e=>e▸ltS_irr _) ((List.pairwise_cons.mp hs).1 x)))
theorem sort_last {l:List Str}{x:Str}(hx:x∈l)(h: ∀y∈l,¬ltS x y):(sortS l).getLast?=some x:=by
 have hp:=sortS_perm l
 have hs:=sortS_sorted l
 generalize sortS l=m at*
 obtain e|⟨r,a,e⟩:=List.eq_nil_or_concat m
 ·exact absurd (hp.mem_iff.mpr hx) (e▸List.not_mem_nil)
 ·rw[List.concat_eq_append] at e
  subst e
  rw[List.getLast?_concat]
  exact congrArg some (ltS_eq ((List.mem_append.mp (hp.mem_iff.mpr hx)).elim (fun q=>(List.pairwise_append.mp hs).2.2 x q a (.head _)) fun q=>List.mem_singleton.mp q▸ltS_irr _) (h a (hp.mem_iff.mp (List.mem_append_right _ (.head _)))))
noncomputable def Sg (u:Int) (a b:Str):Prop:=(u=1∧ltS a b)∨(u= -1∧ltS b a)
noncomputable def Bef (u0 u1:Int) (l r:Row):Prop:=l.1<r.1∨l.1=r.1∧(Sg u0 l.2.1 r.2.1∨l.2.1=r.2.1∧Sg u1 l.2.2 r.2.2)
noncomputable def Three (P Q R:Prop) (x z:Int):Prop:=(P∧x= -1)∨(Q∧x=1)∨(R∧x=z)
theorem ite_three {p q R:Prop}[Decidable p][Decidable q]{x y z:Int}(hx:p→x= -1∧y=1∨x=1∧y= -1)(hr: ¬p→ ¬q→R){P Q:Prop}(h1:p→(x= -1→P)∧(x=1→Q))(h2:q→(y= -1→P)∧(y=1→Q))(hy:q→y= -1∨y=1):Three P Q R (if p then x else if q then y else z) z:=
 ite_or (P:=fun v=>Three P Q R v z) (fun k=>(hx k).elim (fun e=> .inl ⟨(h1 k).1 e.1,e.1⟩) fun e=> .inr (.inl ⟨(h1 k).2 e.1,e.1⟩)) fun nk=>ite_or (P:=fun v=>Three P Q R v z) (fun k=>(hy k).elim (fun e=> .inl ⟨(h2 k).1 e,e⟩) fun e=> .inr (.inl ⟨(h2 k).2 e,e⟩)) fun nq=> .inr (.inr ⟨hr nk nq,rfl⟩)
section
variable {u u0 u1:Int}{a b c:Str}{z:Int}{k l r:Row}
theorem Sg.irr (h:Sg u a a):False:=h.elim (fun h=>ltS_irr a h.2) fun h=>ltS_irr a h.2
theorem Sg.trans (h:Sg u a b)(h':Sg u b c):Sg u a c:=h.elim (fun h=>h'.elim (fun h'=> .inl ⟨h.1,ltS_trans h.2 h'.2⟩) fun h'=>absurd (h.1.symm.trans h'.1) (by decide)) fun h=>h'.elim (fun h'=>absurd (h.1.symm.trans h'.1) (by decide)) fun h'=> .inr ⟨h.1,ltS_trans h'.2 h.2⟩
theorem Bef.irr (h:Bef u0 u1 l l):False:=h.elim (Int.lt_irrefl _) fun h=>h.2.elim Sg.irr fun h=>h.2.irr
theorem Bef.trans (h:Bef u0 u1 k l)(h':Bef u0 u1 l r):Bef u0 u1 k r:=h.elim (fun h=> .inl (h'.elim (Int.lt_trans h) fun h'=>h'.1▸h)) fun h=>h'.elim (fun h'=> .inl (h.1▸h')) fun h'=> .inr ⟨h.1.trans h'.1,h.2.elim (fun s=> .inl (h'.2.elim s.trans fun s'=>s'.1▸s)) fun s=>h'.2.elim (fun s'=> .inl (s.1▸s')) fun s'=> .inr ⟨s.1.trans s'.1,s.2.trans s'.2⟩⟩
theorem sg_three (hu:u=1∨u= -1):Three (Sg u a b) (Sg u b a) (a=b) (if ltS a b then -u else if ltS b a then u else z) z:=hu.elim
 (fun e=>e▸ite_three (fun ω=> .inl ⟨rfl,rfl⟩) ltS_eq (fun k=>⟨fun ω=> .inl ⟨rfl,k⟩,fun q=>absurd q (by decide)⟩) (fun k=>⟨fun q=>absurd q (by decide),fun ω=> .inl ⟨rfl,k⟩⟩) fun ω=> .inr rfl)
 fun e=>e▸ite_three (fun ω=> .inr ⟨rfl,rfl⟩) ltS_eq (fun k=>⟨fun q=>absurd q (by decide),fun ω=> .inr ⟨rfl,k⟩⟩) (fun k=>⟨fun ω=> .inr ⟨rfl,k⟩,fun q=>absurd q (by decide)⟩) fun ω=> .inl rfl
theorem row_eq (h1:l.1=r.1)(h2:l.2.1=r.2.1)(h3:l.2.2=r.2.2):l=r:=Prod.ext h1 (Prod.ext h2 h3)
section
variable (h0:u0=1∨u0= -1)(h1:u1=1∨u1= -1)
include h0 h1
theorem cmp_three (l r:Row):Three (Bef u0 u1 l r) (Bef u0 u1 r l) (l=r) (cmpR u0 u1 l r) 0:=by
 unfold cmpR
 have t: ∀z,Three (l.1<r.1) (r.1<l.1) (l.1=r.1) (if l.1<r.1 then -1 else if r.1<l.1 then 1 else z) z:=fun z=>ite_three (fun ω=> .inl ⟨rfl,rfl⟩) (fun a b=>Int.le_antisymm (Int.not_lt.mp b) (Int.not_lt.mp a)) (fun k=>⟨fun ω=>k,fun q=>absurd q (by decide)⟩) (fun k=>⟨fun q=>absurd q (by decide),fun ω=>k⟩) fun ω=> .inr rfl
 refine(t _).elim (fun q=> .inl ⟨.inl q.1,q.2⟩) fun q=>q.elim (fun q=> .inr (.inl ⟨.inl q.1,q.2⟩)) fun q=> ?_
 rw[q.2]
 refine(sg_three h0).elim (fun s=> .inl ⟨.inr ⟨q.1,.inl s.1⟩,s.2⟩) fun s=>s.elim (fun s=> .inr (.inl ⟨.inr ⟨q.1.symm,.inl s.1⟩,s.2⟩)) fun s=> ?_
 rw[s.2]
 exact(sg_three h1).elim (fun t=> .inl ⟨.inr ⟨q.1,.inr ⟨s.1,t.1⟩⟩,t.2⟩) fun t=>t.elim (fun t=> .inr (.inl ⟨.inr ⟨q.1.symm,.inr ⟨s.1.symm,t.1⟩⟩,t.2⟩)) fun t=> .inr (.inr ⟨row_eq q.1 s.1 t.1,t.2⟩)
theorem cmp_bef:cmpR u0 u1 l r= -1↔Bef u0 u1 l r:=⟨fun h=>(cmp_three h0 h1 l r).elim (fun q=>q.1) fun q=>q.elim (fun q=>absurd (h.symm.trans q.2) (by decide)) fun q=>absurd (h.symm.trans q.2) (by decide),
 fun h=>(cmp_three h0 h1 l r).elim (fun q=>q.2) fun q=>q.elim (fun q=>(h.trans q.1).irr.elim) fun q=>(q.1▸h:Bef u0 u1 r r).irr.elim⟩
theorem bef_or (n: ¬Bef u0 u1 l r):Bef u0 u1 r l∨l=r:=(cmp_three h0 h1 l r).elim (fun q=>absurd q.1 n) fun q=>q.imp And.left And.left
end
noncomputable def bestR (u0 u1:Int) (r0:Row) (rows:List Row):Row:=rows.foldl (fun b r=>if cmpR u0 u1 r b= -1 then r else b) r0
variable (h0:u0=1∨u0= -1)(h1:u1=1∨u1= -1)
include h0 h1
theorem best_spec (rows:List Row): ∀(r0:Row),(bestR u0 u1 r0 rows=r0∨bestR u0 u1 r0 rows∈rows)∧ ∀r,r=r0∨r∈rows→ ¬Bef u0 u1 r (bestR u0 u1 r0 rows):=by
 induction rows with
 |nil=>exact fun r0=>⟨.inl rfl,fun r h=>h.elim (fun e=>e▸Bef.irr) fun h=>absurd h List.not_mem_nil⟩
 |cons a rows ih=>
  intro r0
  show(bestR u0 u1 (if cmpR u0 u1 a r0= -1 then a else r0) rows=r0∨bestR u0 u1 (if cmpR u0 u1 a r0= -1 then a else r0) rows∈a::rows)∧ ∀r,r=r0∨r∈a::rows→ ¬Bef u0 u1 r (bestR u0 u1 (if cmpR u0 u1 a r0= -1 then a else r0) rows)
  by_cases c:cmpR u0 u1 a r0= -1
  ·rw[if_pos c]
   obtain⟨i1,i2⟩:=ih a
   exact⟨.inr (List.mem_cons.mpr i1),fun r hr=>hr.elim (fun e q=>i2 a (.inl rfl) (((cmp_bef h0 h1).mp c).trans (e▸q))) fun hr=>(List.mem_cons.mp hr).elim (fun e=>i2 r (.inl e)) fun hr=>i2 r (.inr hr)⟩
  ·rw[if_neg c]
   obtain⟨i1,i2⟩:=ih r0
   exact⟨i1.imp id (.tail _),fun r hr=>hr.elim (fun e=>i2 r (.inl e)) fun hr=>(List.mem_cons.mp hr).elim (fun e q=>(bef_or h0 h1 fun z=>c ((cmp_bef h0 h1).mpr z)).elim (fun z=>i2 r0 (.inl rfl) (z.trans ((e▸q:Bef u0 u1 a _)))) fun z=>i2 r0 (.inl rfl) (e.trans z▸q)) fun hr=>i2 r (.inr hr)⟩
end
theorem minL_spec: ∀(l:List Int) (a b:Int),minL (a::l)=some b→(b=a∨b∈l)∧b≤a∧ ∀x∈l,b≤x:=fun l=>by
 induction l with
 |nil=>exact fun a b h=>Option.some.inj h▸⟨.inl rfl,Int.le_refl _,fun x hx=>absurd hx List.not_mem_nil⟩
 |cons c l ih=>
  intro a b h
  obtain⟨i1,i2,i3⟩:=ih (if c<a then c else a) b h
  by_cases q:c<a
  ·rw[if_pos q] at i1 i2
   exact⟨.inr (i1.elim (fun e=>e▸ .head _) (.tail _)),Int.le_trans i2 (Int.le_of_lt q),fun x hx=>(List.mem_cons.mp hx).elim (fun e=>e▸i2) (i3 x)⟩
  ·rw[if_neg q] at i1 i2
   exact⟨i1.imp id (.tail _),i2,fun x hx=>(List.mem_cons.mp hx).elim (fun e=>e▸Int.le_trans i2 (Int.not_lt.mp q)) (i3 x)⟩
noncomputable def pickS (u:Int) (l:List Str):Option Str:=if u=1 then l.head? else l.getLast?
theorem pick_of {u:Int}(hu:u=1∨u= -1){l:List Str}{x:Str}(hx:x∈l)(h: ∀y∈l,¬Sg u y x):pickS u (sortS l)=some x:=hu.elim
 (fun e=>(if_pos e).trans (sort_head hx fun y hy q=>h y hy (.inl ⟨e,q⟩))) fun e=>(if_neg (e▸by decide)).trans (sort_last hx fun y hy q=>h y hy (.inr ⟨e,q⟩))
theorem best_agrees {u0 u1:Int}(h0:u0=1∨u0= -1)(h1:u1=1∨u1= -1)(r0:Row)(tl:List Row){b:Row}(hb:b=bestR u0 u1 r0 (r0::tl)):
  b∈r0::tl∧minL ((r0::tl).map (·.1))=some b.1∧pickS u0 (sortS (((r0::tl).filter fun r=>r.1==b.1).map (·.2.1)))=some b.2.1∧
  pickS u1 (sortS (((r0::tl).filter fun r=>r.1==b.1&&r.2.1==b.2.1).map (·.2.2)))=some b.2.2∧
  ∀r∈r0::tl,cmpR u0 u1 r b=(if r=b then 0 else 1)∧cmpR u0 u1 b r=(if r=b then 0 else -1):=by
 obtain⟨i1,i2⟩:=best_spec h0 h1 (r0::tl) r0
 rw[←hb] at i1 i2
 have hm:b∈r0::tl:=i1.elim (fun q=>q▸ .head _) id
 have hn: ∀r∈r0::tl,¬Bef u0 u1 r b:=fun r hr=>i2 r (.inr hr)
 have hle: ∀r∈r0::tl,b.1≤r.1:=fun r hr=>Int.not_lt.mp fun q=>hn r hr (.inl q)
 refine⟨hm,?_,pick_of h0 (List.mem_map.mpr ⟨b,List.mem_filter.mpr ⟨hm,beq_self_eq_true _⟩,rfl⟩) fun y hy q=> ?_,pick_of h1 (List.mem_map.mpr ⟨b,List.mem_filter.mpr ⟨hm,Bool.and_eq_true_iff.mpr ⟨beq_self_eq_true _,beq_self_eq_true _⟩⟩,rfl⟩) fun y hy q=> ?_,fun r hr=> ?_⟩
 ·obtain⟨j1,j2,j3⟩:=minL_spec (tl.map (·.1)) r0.1 _ rfl
  exact congrArg some (Int.le_antisymm ((List.mem_cons.mp hm).elim (fun q=>q▸j2) fun q=>j3 _ (List.mem_map_of_mem q)) (j1.elim (fun q=>q▸hle r0 (.head _)) fun q=>by
   obtain⟨r,hr,e⟩:=List.mem_map.mp q
   exact e▸hle r (.tail _ hr)))
 ·obtain⟨r,hr,rfl⟩:=List.mem_map.mp hy
  obtain⟨hr1,hr2⟩:=List.mem_filter.mp hr
  exact hn r hr1 (.inr ⟨eq_of_beq hr2,.inl q⟩)
 ·obtain⟨r,hr,rfl⟩:=List.mem_map.mp hy
  obtain⟨hr1,hr2⟩:=List.mem_filter.mp hr
  have hr2:=Bool.and_eq_true_iff.mp hr2
  exact hn r hr1 (.inr ⟨eq_of_beq hr2.1,.inr ⟨eq_of_beq hr2.2,q⟩⟩)
 ·by_cases q:r=b
  ·rw[if_pos q,if_pos q,q]
   exact(cmp_three h0 h1 b b).elim (fun z=>z.1.irr.elim) fun z=>z.elim (fun z=>z.1.irr.elim) fun z=>⟨z.2,z.2⟩
  ·rw[if_neg q,if_neg q]
   exact⟨(cmp_three h0 h1 r b).elim (fun z=>absurd z.1 (hn r hr)) fun z=>z.elim And.right fun z=>absurd z.1 q,(cmp_bef h0 h1).mpr ((bef_or h0 h1 (hn r hr)).resolve_right q)⟩
end Mine
namespace Mine
open PySem
section
variable {E:Ex1}{n:Nat}{op:BoolOp}{a b c:Expr}{p:Pos}{x y z:Bool}
theorem tst_b2 (h1:tstE E n a=some x)(h2:tstE E n b=some y):tstE E (n+1) (.BoolOp op [a,b] p)=boolL op [some x,some y]:=by
 show boolL op [tstE E n a,tstE E n b]=_
 rw[h1,h2]
theorem tst_b3 (h1:tstE E n a=some x)(h2:tstE E n b=some y)(h3:tstE E n c=some z):tstE E (n+1) (.BoolOp op [a,b,c] p)=boolL op [some x,some y,some z]:=by
 show boolL op [tstE E n a,tstE E n b,tstE E n c]=_
 rw[h1,h2,h3]
end
theorem bool_and: ∀x y:Bool,boolL .And [some x,some y]=some (x&&y)
 |true,true=>rfl
 |true,false=>rfl
 |false,true=>rfl
 |false,false=>rfl
theorem seq_idx {b n:Nat}(h:b<n):seqIndex? (b:Int) n=some b:=by
 unfold seqIndex?
 simp
 omega
theorem seq_idxL {n:Nat}:seqIndex? (-1) (n+1)=some n:=by
 unfold seqIndex?
 simp
 omega
theorem item0 (a:D)(l:List D):itemD (.list (a::l)) (.int 0)=some a:=by
 show(seqIndex? ((0:Nat):Int) (l.length+1)).bind ((a::l)[·]?)=_
 rw[seq_idx (Nat.succ_pos _)];rfl
theorem item_last {l:List D}{a:D}(h:l.getLast?=some a):itemD (.list l) (.int (-1))=some a:=by
 cases l with
 |nil=>exact ns h
 |cons b l=>
  show(seqIndex? (-1) (l.length+1)).bind ((b::l)[·]?)=_
  rw[seq_idxL]
  exact List.getLast?_eq_getElem?.symm.trans h
theorem item_head {l:List D}{a:D}(h:l.head?=some a):itemD (.list l) (.int 0)=some a:=by
 cases l with
 |nil=>first|exact nf h|exact ns h|cases h
 |cons b l=>cases h;exact item0 _ _
theorem sorted_strs {l:List Str}(h:l.length<64):biD "sorted" [.list (l.map .str)]=some (.list ((sortS l).map .str)):=by
 show iteO ((l.map D.str).length<64) ((strsOf (l.map .str)).map fun l=>D.list ((sortS l).map .str))=_
 rw[ip ((List.length_map (as:=l) D.str).symm▸h),strsOf_map];rfl
theorem min_ints {l:List Int}{m:Int}(h:minL l=some m):biD "min" [.list (l.map .int)]=some (.int m):=by
 show((intsOf (l.map .int)).bind fun l=>(minL l).map D.int)=_
 rw[intsOf_map]
 show(minL l).map D.int=_
 rw[h];rfl
theorem add_lists {a b:List D}(h:a.length+b.length≤lim):binD .Add (.list a) (.list b)=some (.list (a++b)):=ip h
noncomputable def rneq (r b:Row):Bool:= !((r.1==b.1&&(r.2.1==b.2.1&&(r.2.2==b.2.2&&true)))&&true)
theorem rneq_eq (r b:Row):rneq r b=decide (r≠b):=by
 unfold rneq
 obtain⟨a,c,e⟩:=r
 obtain⟨a',c',e'⟩:=b
 by_cases h1:a=a'<;>by_cases h2:c=c'<;>by_cases h3:e=e'<;>simp[h1,h2,h3]
theorem eq_ints (k:Nat): ∀l:List Int,eqL (eqFlat (k+1)) (l.map .int) (l.map .int)=some true
 | []=>rfl
 |a::l=>by
  show andO (some (a==a)) (eqL (eqFlat (k+1)) (l.map .int) (l.map .int))=_
  rw[eq_ints k l,beq_self_eq_true];rfl
theorem eq_list_ints (l:List Int):eqD 8 (.list (l.map .int)) (.list (l.map .int))=some true:=(if_pos rfl).trans (eq_ints 6 l)
theorem eq_rowD (r b:Row):cmpD .NotEq (rowD r) (rowD b)=some (rneq r b):=rfl
theorem neq_of {a b:D}(h:eqD 8 a b=some true):cmpD .NotEq a b=some false:=by
 show(eqD 8 a b).map (!·)=_
 rw[h];rfl
noncomputable def upOf (u:Int):Int:=if u=1 then 0 else -1
theorem pick_item {u:Int}{l:List Str}{x:Str}(hu:u=1∨u= -1)(h:pickS u (sortS l)=some x):itemD (.list ((sortS l).map .str)) (.int (upOf u))=some (.str x):=by
 unfold pickS at h
 unfold upOf
 rcases hu with rfl|rfl
 ·rw[if_pos rfl] at h⊢
  exact item_head (by rw[List.head?_map,h];rfl)
 ·rw[if_neg (by decide)] at h⊢
  exact item_last (by rw[List.getLast?_map,h];rfl)
section
variable {F:Addr→List D→Option D}(J:FJ F){T:TT}{found:D}(h0:T.u0=1∨T.u0= -1)(h1:T.u1=1∨T.u1= -1)
include J
section
variable {nm:Names}{ρ:Rho}{n:Nat}{p q ap:Pos}{a b:Expr}{l r:Row}
theorem comp_ev (hl:ap.endLine=p.line)(hc:nameD (mkC F) nm ρ "comp" =some (compI T.u0 T.u1))(ha:ev (mkC F) (n+1) nm ρ a=some (rowD l))(hb:ev (mkC F) (n+1) nm ρ b=some (rowD r)):ev (mkC F) (n+2) nm ρ (.Call (.Attribute (.Name "comp" q) "compare" ap) [a,b] [] p)=some (.int (cmpR T.u0 T.u1 l r)):=
 ev_meth (c:=62) (f:=59) hl (Nat.le_of_ble_eq_true rfl) hc (by kernel_rfl) (by kernel_rfl) (mO_cons ha (mO_cons hb mO_nil)) (J.cmp T.u0 T.u1 l r)
end
noncomputable def TT.bestR' (T:TT) (found:D) (r:Row):Rho:=("best",.fr,rowD r)::T.rowsR found
noncomputable def bestB:List Stmt:=sB (turnB.getD 7 (.Pass p0))
theorem best_turn {r0 r:Row}{dn:List Row}(ρt:Rho):Runs (mkC F) 40 38 (fn 28).names (((("row",.fr,rowD r)::T.bestR' found (bestR T.u0 T.u1 r0 dn)):Rho)++ρt) bestB (.next (T.bestR' found (bestR T.u0 T.u1 r0 (dn++[r])))):=by
 have hs:bestR T.u0 T.u1 r0 (dn++[r])=if cmpR T.u0 T.u1 r (bestR T.u0 T.u1 r0 dn)= -1 then r else bestR T.u0 T.u1 r0 dn:=by unfold bestR;rw[List.foldl_append];rfl
 rw[hs]
 refine if0 (c:=cmpR T.u0 T.u1 r (bestR T.u0 T.u1 r0 dn)== -1) rfl rfl (tst_cmp (ev_cmp rfl (comp_ev (T:=T) (l:=r) (r:=bestR T.u0 T.u1 r0 dn) J rfl (by kernel_rfl) (by kernel_rfl) (by kernel_rfl)) (b':= .int (-1)) (by kernel_rfl) (by kernel_rfl))) (fun hc=> ?_) (fun hc=> ?_) fun ρt=> .fin
 ·rw[if_pos (beq_iff_eq.mp hc)]
  exact .blkN (by kernel_rfl)
 ·rw[if_neg (fun q=>nomatch (beq_iff_eq.mpr q).symm.trans hc)]
  exact .nil (by kernel_rfl)
noncomputable def TT.picked (T:TT) (found:D) (b:Row):Rho:=("low",.fr,.int b.1)::("one",.fr,.str b.2.1)::("other",.fr,.str b.2.2)::("best",.fr,rowD b)::T.rowsR found
noncomputable def TT.rowsD (T:TT):D:= .list (T.rows.map rowD)
include h0 h1 in
theorem to_pick {po:Out}{r0 b:Row}{tl:List Row}(hr:T.rows=r0::tl)(hb:b=bestR T.u0 T.u1 r0 (r0::tl))(hl:T.rows.length<64)(hnext: ∀ρt,Runs (mkC F) 40 39 (fn 28).names (T.picked found b++ρt) (turnB.drop 11) po)(ρt:Rho):
  Runs (mkC F) 40 39 (fn 28).names (T.rowsR found++ρt) (turnB.drop 6) po:=by
 obtain⟨b1,b2,b3,b4,b5⟩:=best_agrees h0 h1 r0 tl hb
 rw[←hr] at b2 b3 b4
 have lm:T.rows.length≤lim:=Nat.le_trans (Nat.le_of_lt hl) (Nat.le_of_ble_eq_true rfl)
 have fl: ∀{q:Row→Bool} {f:Row→Str},((T.rows.filter q).map f).length<64:=(List.length_map (f:=_)).symm▸Nat.lt_of_le_of_lt (List.length_filter_le _ _) hl
 refine setN (d:=rowD r0) (E:=T.bestR' found r0) rfl rfl rfl rfl (ev_item_name (d:=T.rowsD) (i':= .int 0) rfl (by kernel_rfl) (by kernel_rfl) (by unfold TT.rowsD;rw[hr];exact item0 _ _)) (by kernel_rfl) fun ρt=> ?_
 refine forI rowD (fun dn=>T.bestR' found (bestR T.u0 T.u1 r0 dn)) T.rows rfl rfl (iter_name (d:=T.rowsD) (by kernel_rfl) rfl) rfl (by kernel_rfl) (fun dn r tl e ρt=>⟨_,rfl,.on (("row",.fr,rowD r)::T.bestR' found (bestR T.u0 T.u1 r0 dn)) (by kernel_rfl) (best_turn J)⟩) fun ρt=> ?_
 rw[hr,←hb]
 refine setN (d:= .int b.1) (E:=("low",.fr,.int b.1)::T.bestR' found b) rfl rfl rfl rfl (ev_bi (n':= "min") (d:= .list ((T.rows.map (·.1)).map .int)) (by kernel_rfl) rfl ?_ (min_ints b2)) (by kernel_rfl) fun ρt=> ?_
 ·rw[List.map_map]
  exact ev_map T.rows rowD _ (iter_name (d:=T.rowsD) (by kernel_rfl) rfl) rfl (by kernel_rfl) (fun r ω=>⟨_,rfl,by kernel_rfl⟩) lm
 refine setN (d:= .str b.2.1) (E:=("low",.fr,.int b.1)::("one",.fr,.str b.2.1)::T.bestR' found b) rfl rfl rfl rfl (ev_item (i':= .int (upOf T.u0)) rfl rfl (ev_bi (n':= "sorted") (d:= .list (((T.rows.filter fun r=>r.1==b.1).map (·.2.1)).map .str)) (by kernel_rfl) rfl ?_ (sorted_strs fl)) ?_ (pick_item h0 b3)) (by kernel_rfl) fun ρt=> ?_
 ·rw[List.map_map]
  exact ev_filter T.rows rowD (fun r=>r.1==b.1) _ (iter_name (d:=T.rowsD) (by kernel_rfl) rfl) rfl (by kernel_rfl) (fun r ω=>⟨_,rfl,ifs1 (by kernel_rfl),fun ω=>by kernel_rfl⟩) lm
 ·exact ev_ifexp (c:=T.u0==1) (by kernel_rfl) (by rcases h0 with h|h<;>(unfold upOf;rw[h];kernel_rfl))
 refine setN (d:= .str b.2.2) (E:=T.picked found b) rfl rfl rfl rfl (ev_item (i':= .int (upOf T.u1)) rfl rfl (ev_bi (n':= "sorted") (d:= .list (((T.rows.filter fun r=>r.1==b.1&&r.2.1==b.2.1).map (·.2.2)).map .str)) (by kernel_rfl) rfl ?_ (sorted_strs fl)) ?_ (pick_item h1 b4)) (by kernel_rfl) hnext
 ·rw[List.map_map]
  exact ev_filter T.rows rowD (fun r=>r.1==b.1&&r.2.1==b.2.1) _ (iter_name (d:=T.rowsD) (by kernel_rfl) rfl) rfl (by kernel_rfl) (fun r ω=>⟨_,rfl,ifs1 ((tst_b2 (x:=r.1==b.1) (y:=r.2.1==b.2.1) (by kernel_rfl) (by kernel_rfl)).trans (bool_and _ _)),fun ω=>by kernel_rfl⟩) lm
 ·exact ev_ifexp (c:=T.u1==1) (by kernel_rfl) (by rcases h1 with h|h<;>(unfold upOf;rw[h];kernel_rfl))
noncomputable def TT.one2 (T:TT) (found:D) (p q:Str):Rho:=("one",.fr,.str p)::("other",.fr,.str q)::T.closed found
include h0 h1 in
theorem to_told {po:Out}{r0 b:Row}{tl:List Row}(hr:T.rows=r0::tl)(hb:b=bestR T.u0 T.u1 r0 (r0::tl))(hl:T.rows.length<64)(hnext: ∀ρt,Runs (mkC F) 40 39 (fn 28).names (T.one2 found b.2.1 b.2.2++ρt) (turnB.drop 13) po)(ρt:Rho):
  Runs (mkC F) 40 39 (fn 28).names (T.picked found b++ρt) (turnB.drop 11) po:=by
 obtain⟨_,_,_,_,b5⟩:=best_agrees h0 h1 r0 tl hb
 rw[←hr] at b5
 have lm:T.rows.length≤lim:=Nat.le_trans (Nat.le_of_lt hl) (Nat.le_of_ble_eq_true rfl)
 have l2: ∀{f g:Row→D},(T.rows.map f).length+(T.rows.map g).length≤lim:=fun{f g}=>by
  rw[List.length_map,List.length_map]
  exact Nat.le_trans (Nat.add_le_add (Nat.le_of_lt hl) (Nat.le_of_lt hl)) (Nat.le_of_ble_eq_true rfl)
 let told:List Int:=(T.rows.map fun r=> -(if rneq r b=true then 1 else 0))++(T.rows.map fun r=>if rneq r b=true then 1 else 0)
 have td:told.map D.int=(T.rows.map fun r=> .int (-(if rneq r b=true then 1 else 0)))++(T.rows.map fun r=> .int (if rneq r b=true then 1 else 0)):=by rw[List.map_append,List.map_map,List.map_map];rfl
 have e1:(T.rows.map fun r=>D.int (cmpR T.u0 T.u1 b r))=T.rows.map fun r=>D.int (-(if rneq r b=true then 1 else 0)):=List.map_congr_left fun r hr=>by
  rw[(b5 r hr).2,rneq_eq];by_cases q:r=b<;>simp[q]
 have e2:(T.rows.map fun r=>D.int (cmpR T.u0 T.u1 r b))=T.rows.map fun r=>D.int (if rneq r b=true then 1 else 0):=List.map_congr_left fun r hr=>by
  rw[(b5 r hr).1,rneq_eq];by_cases q:r=b<;>simp[q]
 refine setN (d:= .list (told.map .int)) (E:=("told",.fr,.list (told.map .int))::T.picked found b) rfl rfl rfl rfl ?_ (by kernel_rfl) fun ρt=> ?_
 ·refine(ev_bin (a':= .list (T.rows.map fun r=> .int (cmpR T.u0 T.u1 b r))) (b':= .list (T.rows.map fun r=> .int (cmpR T.u0 T.u1 r b))) ?_ ?_ (add_lists l2)).trans (by rw[td,e1,e2])
  ·exact ev_map T.rows rowD _ (iter_name (d:=T.rowsD) (by kernel_rfl) rfl) rfl (by kernel_rfl) (fun r ω=>⟨_,rfl,comp_ev (T:=T) (l:=b) (r:=r) J rfl (by kernel_rfl) (by kernel_rfl) (by kernel_rfl)⟩) lm
  ·exact ev_map T.rows rowD _ (iter_name (d:=T.rowsD) (by kernel_rfl) rfl) rfl (by kernel_rfl) (fun r ω=>⟨_,rfl,comp_ev (T:=T) (l:=r) (r:=b) J rfl (by kernel_rfl) (by kernel_rfl) (by kernel_rfl)⟩) lm
 refine ifF0 rfl rfl ((tst_b2 (x:=false) (y:=false) (tst_cmp (ev_cmp rfl (a':=rowD b) (by kernel_rfl) (b':=rowD b) (by kernel_rfl) ((eq_rowD b b).trans (by rw[rneq_eq];simp)))) (tst_cmp (ev_cmp rfl (a':= .list (told.map .int)) (by kernel_rfl) (b':= .list (told.map .int)) ?_ (neq_of (eq_list_ints told))))).trans rfl) (.on _ (by kernel_rfl) hnext)
 rw[td]
 refine ev_bin (a':= .list (T.rows.map fun r=> .int (-(if rneq r b=true then 1 else 0)))) (b':= .list (T.rows.map fun r=> .int (if rneq r b=true then 1 else 0))) ?_ ?_ (add_lists l2)
 ·exact ev_map T.rows rowD _ (iter_name (d:=T.rowsD) (by kernel_rfl) rfl) rfl (by kernel_rfl) (fun r ω=>⟨_,rfl,ev_neg (ev_ty (n':= "int") (by kernel_rfl) rfl (ev_cmp rfl (a':=rowD r) (by kernel_rfl) (b':=rowD b) (by kernel_rfl) (eq_rowD r b)) rfl)⟩) lm
 ·exact ev_map T.rows rowD _ (iter_name (d:=T.rowsD) (by kernel_rfl) rfl) rfl (by kernel_rfl) (fun r ω=>⟨_,rfl,ev_ty (n':= "int") (by kernel_rfl) rfl (ev_cmp rfl (a':=rowD r) (by kernel_rfl) (b':=rowD b) (by kernel_rfl) (eq_rowD r b)) rfl⟩) lm
end
end Mine
namespace Mine
open PySem
theorem eqV_self (n:Nat)(v:Nat→Int):eqD (n+2) (V v) (V v)=some true:=by
 show some (((v 0==v 0)&&((v 1==v 1)&&((v 2==v 2)&&((v 3==v 3)&&true))))&&true)=_
 rw[beq_self_eq_true,beq_self_eq_true,beq_self_eq_true,beq_self_eq_true];rfl
theorem eqT4 (n:Nat)(v:Nat→Int){a b:D}(h:eqD (n+1) a b=some true):eqD (n+2) (T4 v a) (T4 v b)=some true:=by
 show(andO (some (v 0==v 0)) (andO (some (v 1==v 1)) (andO (some (v 2==v 2)) (andO (some (v 3==v 3)) (andO (eqD (n+1) a b) (some true)))))).map (fun r=>r&&(5==5))=_
 rw[h]
 simp only[beq_self_eq_true]
 rfl
theorem eqK_all {f:D→D→Option Bool}{g:Str→D}{h:Str→D}{m:List Str}: ∀(l:List Str),(∀y∈l,y∈m∧f (g y) (h y)=some true)→eqK f (l.map fun y=>(y,g y)) (m.map fun y=>(y,h y))=some true
 | [],_=>rfl
 |a::l,H=>by
  have ha:=H a (.head _)
  show eqKo (f (g a)) (eqK f (l.map fun y=>(y,g y)) (m.map fun y=>(y,h y))) (getK (m.map fun y=>(y,h y)) a)=_
  rw[lookup_map_get ha.1,eqK_all l fun y hy=>H y (.tail _ hy)]
  show andO (f (g a) (h a)) (some true)=_
  rw[ha.2];rfl
theorem eqDV (n:Nat){l m:List Str}{f g:Str→Nat→Int}(hl:l.length=m.length)(h: ∀y∈l,y∈m∧V (f y)=V (g y)):eqD (n+3) (DV l f) (DV m g)=some true:=
 (if_pos (by rw[kvV_len,kvV_len,hl]):(if(kvV l f).length=(kvV m g).length then eqK (eqD (n+2)) (kvV l f) (kvV m g) else some false)=_).trans (eqK_all l fun y hy=>⟨(h y hy).1,(h y hy).2▸eqV_self n _⟩)
noncomputable def pairV (e:Str×(Nat→Int)):D:= .tup [.str e.1,V e.2]
theorem eq_pairs (n:Nat): ∀(l:List (Str×(Nat→Int))),eqL (eqFlat (n+3)) (l.map pairV) (l.map pairV)=some true
 | []=>rfl
 |a::l=>by
  show andO (some ((((a.1==a.1)&&((((a.2 0==a.2 0)&&((a.2 1==a.2 1)&&((a.2 2==a.2 2)&&((a.2 3==a.2 3)&&true))))&&true)&&true))&&true))) (eqL (eqFlat (n+3)) (l.map pairV) (l.map pairV))=_
  rw[eq_pairs n l,beq_self_eq_true,beq_self_eq_true,beq_self_eq_true,beq_self_eq_true,beq_self_eq_true];rfl
theorem eqD_list (l:List (Str×(Nat→Int))):eqD 8 (.list (l.map pairV)) (.list (l.map pairV))=some true:=(if_pos rfl).trans (eq_pairs 4 l)
theorem ev_list_items {C:Cfg}{nm:Names}{ρ:Rho}{n:Nat}{o:Expr}{mp p q r:Pos}{kvs:List (Str×D)}{x:Str}(h1:nameD C nm ρ x=some (.ty "list"))(hb:baseOk o=true∧mp.endLine=p.line)(h2:ev C (n+1) nm ρ o=some (.dict kvs))(hz:kvs.length≤lim):
  ev C (n+2) nm ρ (.Call (.Name x q) [.Call (.Attribute o "items" mp) [] [] p] [] r)=some (.list (kvs.map fun kv=> .tup [.str kv.1,kv.2])):=ev_call h1 (by
 show(if "list" = "list" ∧Str.ofString "items" = "items" then iteO (baseOk o=true∧mp.endLine=p.line) ((ev C (n+1) nm ρ o).bind fun d=>(asDict d).bind fun kvs=>iteO (kvs.length≤lim) (some (D.list (kvs.map fun kv=>D.tup [.str kv.1,kv.2])))) else(mapO (ev C (n+1) nm ρ) [.Call (.Attribute o "items" mp) [] [] p]).bind (tyD "list"))=_
 rw[if_pos ⟨rfl,rfl⟩,ip hb,h2]
 exact ip hz)
theorem duy {T:TT}{x:Str}(hx:x∈T.ns):getK (duV T.ns T.inner T.d T.ns) x=some (T4 (RR T.ns T.d x) (DV (T.inner x) (T.d x))):=lookup_map_get (f:=fun x=>T4 (RR T.ns T.d x) (DV (T.inner x) (T.d x))) hx
noncomputable def overF (d:Str→Str→Nat→Int) (p q z:Str) (k:Nat):Int:=if z=q∨z=p then d p q k else d p z k+d q z k
noncomputable def laidL (ns:List Str) (d:Str→Str→Nat→Int) (p q:Str):List (Str×(Nat→Int)):=(others ns p++[p]).map fun z=>(z,overF d p q z)
theorem mem_others {ns:List Str}{x z:Str}:z∈others ns x↔z∈ns∧z≠x:=List.mem_filter.trans (and_congr_right fun ω=>decide_eq_true_iff)
theorem filter_one {p:Str}: ∀{l:List Str},l.Nodup→p∈l→l.filter (fun z=>z==p)= [p]
 |a::l,hn,hp=>by
  obtain⟨n1,n2⟩:=List.nodup_cons.mp hn
  rw[List.filter_cons]
  by_cases e:a=p
  ·rw[if_pos (beq_iff_eq.mpr e),List.filter_eq_nil_iff.mpr (fun z hz (q:(z==p)=true)=>n1 (by rw[e,←eq_of_beq q];exact hz)),e]
  ·rw[if_neg fun q=>e (eq_of_beq q)]
   exact filter_one n2 ((List.mem_cons.mp hp).resolve_left fun q=>e q.symm)
section
variable {T:TT}(I:T.Ok)(hsym: ∀x y k,T.d x y k=T.d y x k){p q:Str}
include I hsym
theorem both_eq (hp:p∈T.ns)(hne:p≠q):DV (others T.ns p++(others T.ns q).filter (· ∉others T.ns p)) (addF (others T.ns p) (others T.ns q) (T.d p) (T.d q))=DV (others T.ns p++[p]) (overF T.d p q):=by
 have hf:(others T.ns q).filter (· ∉others T.ns p)= [p]:=by
  have h1:(others T.ns q).filter (· ∉others T.ns p)=T.ns.filter (· ==p):=by
   unfold others
   rw[List.filter_filter]
   refine List.filter_congr fun z hz=> ?_
   by_cases e:z=p
   ·subst e;simp[hne]
   ·simp[e,hz]
  rw[h1,filter_one I.nodup hp]
 rw[hf]
 refine congrArg D.dict (kvV_congr fun z hz=>congrArg V (funext fun k=> ?_))
 have hz':z∈others T.ns p∨z=p:=(List.mem_append.mp hz).imp id List.mem_singleton.mp
 have hzn:z∈T.ns:=hz'.elim (fun h=>(mem_others.mp h).1) fun h=>h▸hp
 unfold addF overF
 by_cases e1:z=p
 ·rw[if_neg (fun h=>(mem_others.mp h).2 e1),if_pos (.inr e1),e1,hsym]
 ·rw[if_pos (mem_others.mpr ⟨hzn,e1⟩)]
  by_cases e2:z=q
  ·rw[if_neg (fun h=>(mem_others.mp h).2 e2),if_pos (.inl e2),e2]
  ·rw[if_pos (mem_others.mpr ⟨hzn,e2⟩),if_neg (fun h=>h.elim e2 e1),Int.add_comm]
end
section
variable {F:Addr→List D→Option D}(J:FJ F){T:TT}(I:T.Ok)(hsym: ∀x y k,T.d x y k=T.d y x k){found:D}{p q:Str}
include J I hsym
noncomputable def TT.apD (T:TT) (p q:Str):D:=V (T.d p q)
noncomputable def TT.boD (T:TT) (p q:Str):D:=T4 (fun k=>RR T.ns T.d q k+RR T.ns T.d p k) (DV (others T.ns p++[p]) (overF T.d p q))
noncomputable def TT.laD (T:TT) (p q:Str):D:= .list ((laidL T.ns T.d p q).map pairV)
noncomputable def TT.suD (T:TT) (p q:Str):D:=V fun k=>RR T.ns T.d p k+RR T.ns T.d q k
noncomputable def TT.bothR (T:TT) (found:D) (p q:Str):Rho:=("apart",.fr,T.apD p q)::("both",.fr,T.boD p q)::T.one2 found p q
noncomputable def TT.laidR (T:TT) (found:D) (p q:Str):Rho:=("laid",.fr,T.laD p q)::T.bothR found p q
omit J hsym in
theorem oth_le (x:Str):(others T.ns x).length≤64:=ns_le I (List.length_filter_le _ _)
theorem to_both {po:Out}(hp:p∈T.ns)(hq:q∈T.ns)(hne:p≠q)(hnext: ∀ρt,Runs (mkC F) 40 39 (fn 28).names (T.bothR found p q++ρt) (turnB.drop 15) po)(ρt:Rho):Runs (mkC F) 40 39 (fn 28).names (T.one2 found p q++ρt) (turnB.drop 13) po:=by
 refine setN (d:=T.apD p q) (E:=("apart",.fr,T.apD p q)::T.one2 found p q) rfl rfl rfl rfl (FarAt.two (T:=T) (a:= "one") (x:=p) ⟨by kernel_rfl,by kernel_rfl,hp⟩ I (by kernel_rfl) (mate_in I hp hq (Ne.symm hne))) (by kernel_rfl) fun ρt=> ?_
 refine setN (d:=T.boD p q) rfl rfl rfl rfl (ev_obj (a:=73) (by kernel_rfl) rfl (mO_cons (ev_item_name (d:=T.bks) (i':= .str p) rfl (by kernel_rfl) (by kernel_rfl) (bky hp)) (mO_cons (ev_item_name (d:=T.bks) (i':= .str q) rfl (by kernel_rfl) (by kernel_rfl) (bky hq)) mO_nil)) ?_) (by kernel_rfl) hnext
 unfold TT.boD
 rw[←both_eq I hsym hp hne]
 exact J.stats _ _ _ _ _ _ (I.nodup.filter _) (I.nodup.filter _) (oth_le I p) (oth_le I q)
omit J hsym in
theorem laid_len:(laidL T.ns T.d p q).length≤lim:=by
 rw[laidL,List.length_map,List.length_append]
 exact Nat.le_trans (Nat.add_le_add_right (oth_le I p) 1) (Nat.le_of_ble_eq_true rfl)
omit J hsym in
theorem to_laid {po:Out}(hp:p∈T.ns)(hq:q∈T.ns)(hnext: ∀ρt,Runs (mkC F) 40 39 (fn 28).names (T.laidR found p q++ρt) (turnB.drop 16) po)(ρt:Rho):Runs (mkC F) 40 39 (fn 28).names (T.bothR found p q++ρt) (turnB.drop 15) po:=by
 have e1:(T.ns.filter fun z=> !(z==p))=others T.ns p:=List.filter_congr fun z ω=>by by_cases e:z=p<;>simp[e]
 have e2:(T.ns.filter fun z=> !(z==p)).map (fun z=>pairV (z,overF T.d p q z))++[pairV (p,T.d p q)]=(laidL T.ns T.d p q).map pairV:=by
  rw[e1,laidL,List.map_map,List.map_append]
  have:overF T.d p q p=T.d p q:=funext fun k=>if_pos (.inr rfl)
  show _=_++[pairV (p,overF T.d p q p)]
  rw[this];rfl
 refine setN (d:=T.laD p q) rfl rfl rfl rfl ((ev_bin (a':= .list ((T.ns.filter fun z=> !(z==p)).map fun z=>pairV (z,overF T.d p q z))) (b':= .list [pairV (p,T.d p q)]) (ev_filter T.ns .str (fun z=> !(z==p)) _ (iter_name (d:=strsD T.ns) (by kernel_rfl) rfl) rfl (by kernel_rfl) (fun z hz=>⟨_,rfl,ifs1 (by kernel_rfl),fun hzp=> ?_⟩) (ns_lim I (Nat.le_refl _))) (by kernel_rfl) (add_lists ?_)).trans (congrArg (fun l=>some (D.list l)) e2)) (by kernel_rfl) hnext
 ·have hzp:z≠p:=bne_iff_ne.mp hzp
  refine ev_tuple (mO_cons (b:=D.str z) (by kernel_rfl) (mO_cons (b:=V (overF T.d p q z)) (ev_ifexp (c:=z==q) (by kernel_rfl) ?_) mO_nil)) (Nat.le_of_ble_eq_true rfl)
  cases hc:z==q with
  |true=>
   have:overF T.d p q z=T.d p q:=funext fun k=>if_pos (.inl (eq_of_beq hc))
   rw[this]
   kernel_rfl
  |false=>
   have e:z≠q:=fun e=>nomatch (beq_iff_eq.mpr e).symm.trans hc
   have:overF T.d p q z=fun k=>T.d p z k+T.d q z k:=funext fun k=>if_neg fun h=>h.elim e hzp
   rw[this]
   refine ev_ty (n':= "tuple") (d:= .list (four.map fun k=> .int (T.d p z k+T.d q z k))) (by kernel_rfl) rfl (ev_map four toN _ (by kernel_rfl) rfl (by kernel_rfl) (fun k hk=>⟨_,rfl,?_⟩) (Nat.le_of_ble_eq_true rfl)) (by kernel_rfl)
   exact ev_bin (a':= .int (T.d p z k)) (b':= .int (T.d q z k)) (ev_item (d:=V (T.d p z)) (i':=toN k) rfl rfl (FarAt.two (T:=T) (a:= "one") (x:=p) ⟨by kernel_rfl,by kernel_rfl,hp⟩ I (by kernel_rfl) (mate_in I hp hz hzp)) (by kernel_rfl) (V_item (four_lt hk)))
    (ev_item (d:=V (T.d q z)) (i':=toN k) rfl rfl (FarAt.two (T:=T) (a:= "other") (x:=q) ⟨by kernel_rfl,by kernel_rfl,hq⟩ I (by kernel_rfl) (mate_in I hq hz e)) (by kernel_rfl) (V_item (four_lt hk))) rfl
 ·rw[List.length_map,e1]
  exact Nat.le_trans (Nat.add_le_add_right (oth_le I p) 1) (Nat.le_of_ble_eq_true rfl)
omit J hsym in
theorem to_checked {po:Out}(hp:p∈T.ns)(hq:q∈T.ns)(hnext: ∀ρt,Runs (mkC F) 40 39 (fn 28).names (T.bothR found p q++ρt) (turnB.drop 18) po)(ρt:Rho):Runs (mkC F) 40 39 (fn 28).names (T.laidR found p q++ρt) (turnB.drop 16) po:=by
 refine setN (d:=T.suD p q) (E:=("sums",.fr,T.suD p q)::T.laidR found p q) rfl rfl rfl rfl (ev_ty (n':= "tuple") (d:= .list (four.map fun k=> .int (RR T.ns T.d p k+RR T.ns T.d q k))) (by kernel_rfl) rfl (ev_map four toN _ (by kernel_rfl) rfl (by kernel_rfl) (fun k hk=>⟨_,rfl,?_⟩) (Nat.le_of_ble_eq_true rfl)) (by kernel_rfl)) (by kernel_rfl) fun ρt=> ?_
 ·exact ev_bin (a':= .int (RR T.ns T.d p k)) (b':= .int (RR T.ns T.d q k)) (ev_item_two (d:=T4 (RR T.ns T.d p) (DV (T.inner p) (T.d p))) (i':=toN k) rfl (by kernel_rfl) (ev_item_name (d:=T.dus) (i':= .str p) rfl (by kernel_rfl) (by kernel_rfl) (duy hp)) (by kernel_rfl) (T4_item (four_lt hk)))
   (ev_item_two (d:=T4 (RR T.ns T.d q) (DV (T.inner q) (T.d q))) (i':=toN k) rfl (by kernel_rfl) (ev_item_name (d:=T.dus) (i':= .str q) rfl (by kernel_rfl) (by kernel_rfl) (duy hq)) (by kernel_rfl) (T4_item (four_lt hk))) rfl
 have c1:eqD 8 T.bks T.dus=some true:=(if_pos (by rw[bkV,duV,List.length_map,List.length_map]):(if(bkV T.ns T.d T.ns).length=(duV T.ns T.inner T.d T.ns).length then eqK (eqD 7) (bkV T.ns T.d T.ns) (duV T.ns T.inner T.d T.ns) else some false)=_).trans
  (eqK_all T.ns fun x hx=>⟨hx,eqT4 5 _ (eqDV 3 (I.inn x hx).length_eq.symm fun y hy=>⟨(I.inn x hx).mem_iff.mpr hy,rfl⟩)⟩)
 have c2:eqD 8 (T.boD p q) (T4 (fun k=>RR T.ns T.d p k+RR T.ns T.d q k) (DV (others T.ns p++[p]) (overF T.d p q)))=some true:=by
  unfold TT.boD
  rw[T4_congr (v:=fun k=>RR T.ns T.d q k+RR T.ns T.d p k) (u:=fun k=>RR T.ns T.d p k+RR T.ns T.d q k) fun k=>Int.add_comm _ _]
  exact eqT4 6 _ (eqDV 4 rfl fun y hy=>⟨hy,rfl⟩)
 have hkv:kvV (others T.ns p++[p]) (overF T.d p q)=(laidL T.ns T.d p q).map fun e=>(e.1,V e.2):=by unfold laidL kvV;rw[List.map_map];rfl
 have hkl:(kvV (others T.ns p++[p]) (overF T.d p q)).length≤lim:=by rw[hkv,List.length_map];exact laid_len I
 refine ifF0 rfl rfl ((tst_b3 (x:=false) (y:=false) (z:=false) (tst_cmp (ev_cmp rfl (a':=T.bks) (by kernel_rfl) (b':=T.dus) (by kernel_rfl) (neq_of c1))) (tst_cmp (ev_cmp rfl (a':=T.boD p q) (by kernel_rfl) (ev_bin (a':=T.suD p q) (b':= .tup [DV (others T.ns p++[p]) (overF T.d p q)]) (by kernel_rfl) (ev_tuple (mO_cons ?_ mO_nil) (Nat.le_of_ble_eq_true rfl)) rfl) (neq_of c2)))
  (tst_cmp (ev_cmp rfl (a':=T.laD p q) ?_ (b':=T.laD p q) (by kernel_rfl) (neq_of (eqD_list _))))).trans rfl) (.on _ (by kernel_rfl) hnext)
 ·show _=some (D.dict (kvV (others T.ns p++[p]) (overF T.d p q)))
  have hn:((kvV (others T.ns p++[p]) (overF T.d p q)).map (·.1)).Nodup:=by
   rw[kvV_keys]
   exact List.nodup_append.mpr ⟨I.nodup.filter _,List.nodup_cons.mpr ⟨List.not_mem_nil,List.nodup_nil⟩,fun a ha b hb e=>(mem_others.mp ha).2 (e.trans (List.mem_singleton.mp hb))⟩
  rw[hkv] at hkl hn⊢
  exact ev_dcomp (iter_name (d:=T.laD p q) (by kernel_rfl) rfl) (by kernel_rfl) (comp1t (laidL T.ns T.d p q) pairV _ rfl fun e ω=>⟨_,rfl,kv_eq (by kernel_rfl) (by kernel_rfl)⟩) hkl hn
 ·refine(ev_list_items (by kernel_rfl) ⟨rfl,rfl⟩ (by kernel_rfl:_=some (D.dict (kvV (others T.ns p++[p]) (overF T.d p q)))) hkl).trans ?_
  rw[hkv,List.map_map];rfl
end
end Mine
namespace Mine
open PySem
theorem L_item {f:Nat→Int}: ∀{c:Nat},c<4→itemD (.list (four.map fun k=>D.int (f k))) (.int c)=some (.int (f c))
 |0,_=>rfl
 |1,_=>rfl
 |2,_=>rfl
 |3,_=>rfl
noncomputable def edgeF (ns:List Str) (d:Str→Str→Nat→Int) (p q:Str) (k:Nat):Int:=(d p q k+(RR ns d p k - RR ns d q k).fdiv ((ns.length:Int) - 2)).fdiv 2
noncomputable def wayF (d:Str→Str→Nat→Int) (p q z:Str) (k:Nat):Int:=(overF d p q z k - d p q k).fdiv 2
noncomputable def leftL (ns:List Str) (p q:Str):List Str:=ns.filter fun z=> !(z==p)&& !(z==q)
noncomputable def newD (d:Str→Str→Nat→Int) (p q j:Str) (x y:Str) (k:Nat):Int:=if x=j then wayF d p q y k else if y=j then wayF d p q x k else d x y k
noncomputable def found2 (ns:List Str) (d:Str→Str→Nat→Int) (p q:Str) (fk:List (Str×D)):List (Str×D):=
 putK (putK fk (sideS p) (V (edgeF ns d p q))) (sideS q) (V fun k=>d p q k - edgeF ns d p q k)
theorem putK_len (fk:List (Str×D))(x:Str)(d:D)(h:fk.length≤64):(putK fk x d).length≤lim:=Nat.le_trans (putK_length fk x d) (Nat.le_trans (Nat.succ_le_succ h) (Nat.le_of_ble_eq_true rfl))
theorem mem_left {ns:List Str}{p q y:Str}:y∈leftL ns p q↔y∈ns∧y≠p∧y≠q:=List.mem_filter.trans (and_congr_right fun ω=>by rw[Bool.and_eq_true,Bool.not_eq_true',Bool.not_eq_true',beq_eq_false_iff_ne,beq_eq_false_iff_ne])
section
variable {F:Addr→List D→Option D}(J:FJ F){T:TT}(I:T.Ok){p q j:Str}{fk:List (Str×D)}
include J I
noncomputable def TT.edD (T:TT) (p q:Str):D:= .list (four.map fun k=> .int (edgeF T.ns T.d p q k))
noncomputable def TT.edR (T:TT) (fk:List (Str×D)) (p q:Str):Rho:=("edge",.fr,T.edD p q)::T.bothR (.dict fk) p q
noncomputable def TT.fd1 (T:TT) (p q:Str) (fk:List (Str×D)):List (Str×D):=putK fk (sideS p) (V (edgeF T.ns T.d p q))
noncomputable abbrev TT.fd2 (T:TT) (p q:Str) (fk:List (Str×D)):List (Str×D):=found2 T.ns T.d p q fk
noncomputable def TT.leftR (T:TT) (fk:List (Str×D)) (p q j:Str):Rho:=("left",.fr,strsD (leftL T.ns p q))::("joined",.fr,.str j)::("apart",.fr,T.apD p q)::("both",.fr,T.boD p q)::T.base (.dict fk)
omit J in
theorem size_two:((T.ns.length:Int) - 2)≠0∧small ((T.ns.length:Int) - 2)=true:=⟨fun h=>by
 have:=I.two
 omega,size_small I⟩
omit J in
theorem to_edge {po:Out}(hp:p∈T.ns)(hq:q∈T.ns)(hnext: ∀ρt,Runs (mkC F) 40 39 (fn 28).names (T.edR fk p q++ρt) (turnB.drop 19) po)(ρt:Rho):Runs (mkC F) 40 39 (fn 28).names (T.bothR (.dict fk) p q++ρt) (turnB.drop 18) po:=by
 refine setN (d:=T.edD p q) rfl rfl rfl rfl (ev_map four toN _ (by kernel_rfl) rfl (by kernel_rfl) (fun k hk=>⟨_,rfl,?_⟩) (Nat.le_of_ble_eq_true rfl)) (by kernel_rfl) hnext
 exact ev_bin (a':= .int (T.d p q k+(RR T.ns T.d p k - RR T.ns T.d q k).fdiv ((T.ns.length:Int) - 2))) (b':= .int 2) (ev_bin (a':= .int (T.d p q k)) (ev_item_name (d:=T.apD p q) (i':=toN k) rfl (by kernel_rfl) (by kernel_rfl) (V_item (four_lt hk)))
  (ev_bin (a':= .int (RR T.ns T.d p k - RR T.ns T.d q k)) (b':= .int ((T.ns.length:Int) - 2)) (ev_bin (a':= .int (RR T.ns T.d p k)) (book_k (T:=T) (by kernel_rfl) (by kernel_rfl) hp rfl (by kernel_rfl) (four_lt hk)) (book_k (T:=T) (by kernel_rfl) (by kernel_rfl) hq rfl (by kernel_rfl) (four_lt hk)) rfl) (by kernel_rfl) (ip (size_two I))) rfl) (by kernel_rfl) (by kernel_rfl)
theorem to_found {po:Out}(zp:p.cps.size≤8)(zq:q.cps.size≤8)(hfk:fk.length≤64)(hnext: ∀ρt,Runs (mkC F) 40 39 (fn 28).names (T.edR (T.fd2 p q fk) p q++ρt) (turnB.drop 21) po)(ρt:Rho):Runs (mkC F) 40 39 (fn 28).names (T.edR fk p q++ρt) (turnB.drop 19) po:=by
 refine asgP (q:= .dict fk) (i':= .str (sideS p)) (d:=V (edgeF T.ns T.d p q)) (d':= .dict (T.fd1 p q fk)) (E:=T.edR (T.fd1 p q fk) p q) rfl rfl rfl (by kernel_rfl) (ev_obj (a:=255) (by kernel_rfl) rfl (mO_cons (b:=D.str p) (by kernel_rfl) mO_nil) (J.side p zp)) (ev_ty_name (n':= "tuple") (d:=T.edD p q) (by kernel_rfl) (by kernel_rfl) (by kernel_rfl)) (put_ok (Nat.le_trans hfk (Nat.le_of_ble_eq_true rfl)) rfl) (by kernel_rfl) fun ρt=> ?_
 refine asgP (q:= .dict (T.fd1 p q fk)) (i':= .str (sideS q)) (d:=V fun k=>T.d p q k - edgeF T.ns T.d p q k) (d':= .dict (T.fd2 p q fk)) rfl rfl rfl (by kernel_rfl) (ev_obj (a:=255) (by kernel_rfl) rfl (mO_cons (b:=D.str q) (by kernel_rfl) mO_nil) (J.side q zq))
  (ev_ty (n':= "tuple") (d:= .list (four.map fun k=> .int (T.d p q k - edgeF T.ns T.d p q k))) (by kernel_rfl) rfl (ev_map four toN _ (by kernel_rfl) rfl (by kernel_rfl) (fun k hk=>⟨_,rfl,?_⟩) (Nat.le_of_ble_eq_true rfl)) (by kernel_rfl)) (put_ok (putK_len fk _ _ hfk) rfl) (by kernel_rfl) hnext
 exact ev_bin (a':= .int (T.d p q k)) (b':= .int (edgeF T.ns T.d p q k)) (ev_item_name (d:=T.apD p q) (i':=toN k) rfl (by kernel_rfl) (by kernel_rfl) (V_item (four_lt hk))) (ev_item_name (d:=T.edD p q) (i':=toN k) rfl (by kernel_rfl) (by kernel_rfl) (L_item (four_lt hk))) rfl
omit J in
theorem to_left {po:Out}(zp:p.cps.size≤8)(zq:q.cps.size≤8)(hj:(biD "sorted" [.str (p++q)]).bind (fun l=>methS "join" ⟨#[]⟩ [l])=some (.str j))(hnext: ∀ρt,Runs (mkC F) 40 39 (fn 28).names (T.leftR fk p q j++ρt) (turnB.drop 23) po)(ρt:Rho):
  Runs (mkC F) 40 39 (fn 28).names (T.edR fk p q++ρt) (turnB.drop 21) po:=by
 refine ob hj fun sl hs1 hs2=>setN (d:= .str j) (E:=("joined",.fr,.str j)::T.bothR (.dict fk) p q) rfl rfl rfl rfl
  (ev_methS (y:=⟨#[]⟩) rfl (Nat.le_of_ble_eq_true rfl) rfl (by decide) (by kernel_rfl) (mO_cons (b:=sl) (ev_bi (n':= "sorted") (d:= .str (p++q)) (by kernel_rfl) rfl (ev_bin (a':= .str p) (b':= .str q) (by kernel_rfl) (by kernel_rfl) (ip (Nat.le_trans (Nat.add_le_add zp zq) (Nat.le_of_ble_eq_true rfl)))) hs1) mO_nil) hs2) (by kernel_rfl) fun ρt=> ?_
 exact setN (d:=strsD (leftL T.ns p q)) rfl rfl rfl rfl (ev_filter T.ns .str (fun z=> !(z==p)&& !(z==q)) D.str (iter_name (d:=strsD T.ns) (by kernel_rfl) rfl) rfl (by kernel_rfl) (fun z ω=>⟨_,rfl,ifs1 ((tst_b2 (x:= !(z==p)) (y:= !(z==q)) (by kernel_rfl) (by kernel_rfl)).trans (bool_and _ _)),fun ω=>by kernel_rfl⟩) (ns_lim I (Nat.le_refl _))) (by kernel_rfl) hnext
end
end Mine
namespace Mine
open PySem
section
variable {C:Cfg}{nm:Names}{ρ:Rho}{n:Nat}{d e' q':D}{x k l:Str}{xp ip jp p q r:Pos}{i j e kx:Expr}{kvs inn:List (Str×D)}
theorem asg_o2 (ho:C.own p.line=some .o2)(hc:canB nm x=true)(hk:ev C n nm ρ kx=some (.str k)):sxAssign C (ev C n) nm ρ [.Name x xp] (.Dict [some kx] [.Dict [] [] q] r) p=some (setV ρ x .o2 (.dict [(k,.dict [])])):=by
 unfold sxAssign
 rw[ho]
 show iteO (canB nm x=true) (iteO (emptyD (.Dict [] [] q)=true) ((ev C n nm ρ kx).bind fun d=>(asStr d).map fun k=>setV ρ x .o2 (.dict [(k,.dict [])])))=_
 rw[Mine.ip hc,hk]
 exact Mine.ip rfl
theorem asg_new (ho:C.own p.line=none)(hx:lk ρ x=some (.o2,.dict kvs))(he:ev C n nm ρ e=some (.dict inn))(hi:ev C n nm ρ i=some (.str k))(hf:freshE e (.dict inn)=true)(hk:getK kvs k=none)(hl:kvs.length≤lim):
  sxAssign C (ev C n) nm ρ [.Subscript (.Name x xp) i ip] e p=some (setV ρ x .o2 (.dict (kvs++[(k,.dict inn)]))):=by
 have h2:o2? ρ x=some (.dict kvs):=congrArg (Option.bind · tagO2) hx
 unfold sxAssign
 rw[ho]
 show Mine.asgN C (ev C n) nm ρ _ e ((o2? ρ x).bind fun d=>(asDict d).map fun kvs=>(x,i,kvs))=_
 rw[h2]
 show((ev C n nm ρ e).bind fun d=>(asDict d).bind fun inner=>(ev C n nm ρ i).bind fun i=>(asStr i).bind fun k=>iteO (freshE e d=true∧getK kvs k=none∧kvs.length≤lim) (some (setV ρ x .o2 (.dict (kvs++[(k,d)])))))=_
 rw[he,hi]
 exact Mine.ip ⟨hf,hk,hl⟩
theorem asg_two (ho:C.own p.line=none)(hx:lk ρ x=some (.o2,.dict kvs))(hi:ev C n nm ρ i=some (.str k))(hj:ev C n nm ρ j=some (.str l))(he:ev C n nm ρ e=some d)(hg:getK kvs k=some (.dict inn))(hl:inn.length≤lim):
  sxAssign C (ev C n) nm ρ [.Subscript (.Subscript (.Name x xp) i ip) j jp] e p=some (setV ρ x .o2 (.dict (putK kvs k (.dict (putK inn l d))))):=by
 unfold sxAssign
 rw[ho]
 show(ev C n nm ρ e).bind _=_
 rw[he]
 show(((lk ρ x).bind fun q=>(tagO2 q).bind fun e=>(ev C n nm ρ i).bind fun i'=>(ev C n nm ρ j).bind fun j=>(put2 i' j d e).map fun e=>setV ρ x .o2 e).bind fun ρ=>some ρ)=_
 rw[hx,hi,hj]
 show(Option.map (fun e=>setV ρ x .o2 e) ((getK kvs k).bind fun e=>(asDict e).bind fun inner=>iteO (inner.length≤lim) (some (.dict (putK kvs k (.dict (putK inner l d))))))).bind _=_
 rw[hg]
 show(Option.map (fun e=>setV ρ x .o2 e) (iteO (inn.length≤lim) (some (.dict (putK kvs k (.dict (putK inn l d))))))).bind _=_
 rw[Mine.ip hl];rfl
end
noncomputable def nwF (d:Str→Str→Nat→Int) (p q j:Str) (lf:List Str) (z:Str):D:=DV (lf.filter (fun y=> !(y==z))++[j]) (newD d p q j z)
noncomputable def nwK (d:Str→Str→Nat→Int) (p q j:Str) (lf dn:List Str):List (Str×D):=(j,DV dn (wayF d p q))::dn.map fun z=>(z,nwF d p q j lf z)
theorem putK_first {a:List (Str×D)}{k:Str}{x y:D}(h:k∉a.map (·.1)):putK ((k,x)::a) k y=(k,y)::a:=by
 unfold putK
 rw[if_pos (List.any_eq_true.mpr ⟨(k,x),.head _,decide_eq_true rfl⟩),List.map_cons]
 refine congr (congrArg _ (if_pos rfl)) ((List.map_congr_left fun e he=>if_neg fun(q:e.1=k)=>h (q▸List.mem_map.mpr ⟨e,he,rfl⟩)).trans (List.map_id' a))
theorem getK_first {a:List (Str×D)}{k:Str}{x:D}:getK ((k,x)::a) k=some x:=by
 unfold getK
 rw[List.find?_cons,decide_eq_true rfl];rfl
theorem getK_no {a:List (Str×D)}{k:Str}(h:k∉a.map (·.1)):getK a k=none:=by
 have hn:a.find? (fun kv=>decide (kv.1=k))=none:=List.find?_eq_none.mpr fun e he q=>h ((of_decide_eq_true q:e.1=k)▸List.mem_map.mpr ⟨e,he,rfl⟩)
 unfold getK
 rw[hn];rfl
section
variable {F:Addr→List D→Option D}{T:TT}(I:T.Ok){p q j z:Str}{fk:List (Str×D)}{dn:List Str}
include I
noncomputable def newsB:List Stmt:=sB (turnB.getD 24 (.Pass p0))
noncomputable def TT.nw (T:TT) (p q j:Str) (dn:List Str):List (Str×D):=nwK T.d p q j (leftL T.ns p q) dn
noncomputable def TT.newsR (T:TT) (fk:List (Str×D)) (p q j:Str) (nw:List (Str×D)):Rho:=("news",.o2,.dict nw)::T.leftR fk p q j
noncomputable def TT.nameN (T:TT) (fk:List (Str×D)) (p q j z:Str) (nw:List (Str×D)):Rho:=("name",.fr,.str z)::T.newsR fk p q j nw
omit I in
theorem nw_keys:(T.nw p q j dn).map (·.1)=j::dn:=congrArg (j:: ·) keys_map
theorem left_le {l:List Str}(h:l.length≤(leftL T.ns p q).length):l.length≤lim:=ns_lim I (Nat.le_trans h (List.length_filter_le _ _))
theorem news_turn (hj:j∉T.ns)(hp:p∈T.ns)(hz:z∈leftL T.ns p q)(hzd:z∉dn)(hdn: ∀y∈dn,y∈leftL T.ns p q)(hdl:dn.length≤64)(ρt:Rho):
  Runs (mkC F) 40 38 (fn 28).names (T.nameN fk p q j z (T.nw p q j dn)++ρt) newsB (.next (T.newsR fk p q j (T.nw p q j (dn++[z])))):=by
 obtain⟨hzn,hzp,hzq⟩:=mem_left.mp hz
 have hjz:z≠j:=fun e=>hj (e▸hzn)
 have hn:z∉(T.nw p q j dn).map (·.1):=by rw[nw_keys];exact fun h=>(List.mem_cons.mp h).elim hjz hzd
 let M0:=(leftL T.ns p q).filter fun y=> !(y==z)
 have hM0: ∀y∈M0,y∈T.ns∧y≠z:=fun y hy=>by obtain⟨h1,h2⟩:=List.mem_filter.mp hy;exact⟨(mem_left.mp h1).1,bne_iff_ne.mp h2⟩
 have hM0l:M0.length≤(leftL T.ns p q).length:=List.length_filter_le _ _
 have hjM:j∉M0:=fun h=>hj (hM0 j h).1
 have hkl:(T.nw p q j dn).length≤lim:=by
  rw[TT.nw,nwK,List.length_cons,List.length_map]
  exact Nat.le_trans (Nat.succ_le_succ hdl) (Nat.le_of_ble_eq_true rfl)
 refine asg0 (E:=T.nameN fk p q j z (T.nw p q j dn++[(z,.dict (kvV M0 (T.d z)))])) rfl rfl (asg_new (kvs:=T.nw p q j dn) (k:=z) (inn:=kvV M0 (T.d z)) rfl (by kernel_rfl) ?_ (by kernel_rfl) rfl (getK_no hn) hkl) (by kernel_rfl) fun ρt=> ?_
 ·refine ev_dcomp (iter_name (d:=strsD (leftL T.ns p q)) (by kernel_rfl) rfl) (by kernel_rfl) (comp1 (leftL T.ns p q) .str (fun y=> !(y==z)) (fun y=>(y,V (T.d z y))) rfl fun y hy=>⟨_,rfl,ifs1 (by kernel_rfl),fun hyz=>kv_eq (by kernel_rfl) (FarAt.two (T:=T) (a:= "name") (x:=z) ⟨by kernel_rfl,by kernel_rfl,hzn⟩ I (by kernel_rfl) (mate_in I hzn (mem_left.mp hy).1 (bne_iff_ne.mp hyz)))⟩) ((kvV_len M0 (T.d z)).symm▸left_le I hM0l) (by rw[kvV_keys];exact(I.nodup.filter _).filter _)
 have hin2:putK (kvV M0 (T.d z)) j (V (wayF T.d p q z))=kvV (M0++[j]) (newD T.d p q j z):=by
  have e1:kvV M0 (T.d z)=kvV M0 (newD T.d p q j z):=kvV_congr fun y hy=>congrArg V (funext fun k=>((if_neg hjz).trans (if_neg fun(e:y=j)=>hjM (e▸hy))).symm)
  have e2:wayF T.d p q z=newD T.d p q j z j:=funext fun k=>((if_neg hjz).trans (if_pos rfl)).symm
  rw[e1,e2]
  exact kvV_put hjM
 have hb:z∈others T.ns p++[p]:=List.mem_append_left _ (mem_others.mpr ⟨hzn,hzp⟩)
 refine asg0 (E:=T.nameN fk p q j z (T.nw p q j dn++[(z,nwF T.d p q j (leftL T.ns p q) z)])) rfl rfl ((asg_two (kvs:=T.nw p q j dn++[(z,.dict (kvV M0 (T.d z)))]) (k:=z) (l:=j) (inn:=kvV M0 (T.d z)) (d:=V (wayF T.d p q z)) rfl (by kernel_rfl) (by kernel_rfl) (by kernel_rfl)
  (ev_ty (n':= "tuple") (d:= .list (four.map fun k=> .int (wayF T.d p q z k))) (by kernel_rfl) rfl (ev_map four toN _ (by kernel_rfl) rfl (by kernel_rfl) (fun k hk=>⟨_,rfl,?_⟩) (Nat.le_of_ble_eq_true rfl)) (by kernel_rfl)) (get_last hn) ((kvV_len M0 (T.d z)).symm▸left_le I hM0l)).trans
    (congrArg (fun v=>some (setV _ "news" .o2 (.dict v))) ((put_last hn).trans (congrArg (fun v=>T.nw p q j dn++[(z,D.dict v)]) hin2)))) (by kernel_rfl) fun ρt=> ?_
 ·exact ev_bin (a':= .int (overF T.d p q z k - T.d p q k)) (b':= .int 2) (ev_bin (a':= .int (overF T.d p q z k)) (b':= .int (T.d p q k)) (ev_item (d:=V (overF T.d p q z)) (i':=toN k) rfl rfl (ev_item_two (d:=DV (others T.ns p++[p]) (overF T.d p q)) (i':= .str z) rfl (by kernel_rfl) (by kernel_rfl) (by kernel_rfl) (kvV_get hb)) (by kernel_rfl) (V_item (four_lt hk)))
   (ev_item_name (d:=T.apD p q) (i':=toN k) rfl (by kernel_rfl) (by kernel_rfl) (V_item (four_lt hk))) rfl) (by kernel_rfl) (by kernel_rfl)
 have hj2:getK (kvV (M0++[j]) (newD T.d p q j z)) j=some (V (wayF T.d p q z)):=(kvV_get (List.mem_append_right _ (.head _))).trans (congrArg (fun v=>some (V v)) (funext fun k=>(if_neg hjz).trans (if_pos rfl)))
 have hfin:putK (T.nw p q j dn++[(z,nwF T.d p q j (leftL T.ns p q) z)]) j (.dict (putK (kvV dn (wayF T.d p q)) z (V (wayF T.d p q z))))=T.nw p q j (dn++[z]):=by
  rw[kvV_put hzd]
  refine(putK_first (a:=(dn.map fun z=>(z,nwF T.d p q j (leftL T.ns p q) z))++[(z,nwF T.d p q j (leftL T.ns p q) z)]) ?_).trans ?_
  ·rw[List.map_append,keys_map]
   exact fun h=>(List.mem_append.mp h).elim (fun h=>hj (mem_left.mp (hdn j h)).1) fun h=>hjz (List.mem_singleton.mp h).symm
  ·unfold TT.nw nwK
   rw[List.map_append];rfl
 exact asg0 rfl rfl ((asg_two (kvs:=T.nw p q j dn++[(z,nwF T.d p q j (leftL T.ns p q) z)]) (k:=j) (l:=z) (inn:=kvV dn (wayF T.d p q)) (d:=V (wayF T.d p q z)) rfl (by kernel_rfl) (by kernel_rfl) (by kernel_rfl)
  (ev_item_o2 (d:=nwF T.d p q j (leftL T.ns p q) z) (i':= .str j) rfl (by kernel_rfl) (by kernel_rfl) (by kernel_rfl) (get_last hn) hj2) getK_first ((kvV_len dn _).symm▸Nat.le_trans hdl (Nat.le_of_ble_eq_true rfl))).trans (congrArg (fun v=>some (setV _ "news" .o2 (.dict v))) hfin)) (by kernel_rfl) fun ρt=> .fin
noncomputable def inner' (ns:List Str) (p q j:Str) (x:Str):List Str:=if x=j then leftL ns p q else(leftL ns p q).filter (fun y=> !(y==x))++[j]
noncomputable def TT.next (T:TT) (p q j:Str):TT:={T with outer:=j::leftL T.ns p q,ns:=sortS (j::leftL T.ns p q),inner:=inner' T.ns p q j,d:=newD T.d p q j}
omit I in
theorem nwK_far (hj:j∉T.ns):D.dict (T.nw p q j (leftL T.ns p q))=(T.next p q j).far:=by
 refine congrArg D.dict ?_
 show(j,DV (leftL T.ns p q) (wayF T.d p q))::(leftL T.ns p q).map (fun z=>(z,nwF T.d p q j (leftL T.ns p q) z))=(j,DV (inner' T.ns p q j j) (newD T.d p q j j))::(leftL T.ns p q).map (fun x=>(x,DV (inner' T.ns p q j x) (newD T.d p q j x)))
 have e1:inner' T.ns p q j j=leftL T.ns p q:=if_pos rfl
 have e2:newD T.d p q j j=wayF T.d p q:=funext fun y=>funext fun k=>if_pos rfl
 rw[e1,e2]
 exact congrArg _ (List.map_congr_left fun z hz=>by
  have e:inner' T.ns p q j z=(leftL T.ns p q).filter (fun y=> !(y==z))++[j]:=if_neg fun(e:z=j)=>hj (e▸(mem_left.mp hz).1)
  rw[e];rfl)
theorem to_end (hj:j∉T.ns)(hp:p∈T.ns)(ρt:Rho):Runs (mkC F) 40 39 (fn 28).names (T.leftR fk p q j++ρt) (turnB.drop 23) (.next ((T.next p q j).base (.dict fk))):=by
 refine asg0 (E:=T.newsR fk p q j (T.nw p q j [])) rfl rfl (asg_o2 (k:=j) rfl rfl (by kernel_rfl)) (by kernel_rfl) fun ρt=> ?_
 refine forI .str (fun dn=>T.newsR fk p q j (T.nw p q j dn)) (leftL T.ns p q) rfl rfl (iter_name (d:=strsD (leftL T.ns p q)) (by kernel_rfl) rfl) rfl (by kernel_rfl) (fun dn z tl e ρt=>⟨_,rfl,.on (T.nameN fk p q j z (T.nw p q j dn)) (by kernel_rfl) (news_turn I hj hp (e▸List.mem_append_right _ (.head _)) (turn_at e (I.nodup.filter _)) (fun y hy=>e▸List.mem_append_left _ hy) (Nat.le_trans (Nat.le_of_lt (turn_len e)) (ns_le I (List.length_filter_le _ _))))⟩) fun ρt=> ?_
 refine asgF (("news",.fr,.dict (T.nw p q j (leftL T.ns p q)))::T.base (.dict fk)) (d:=(T.next p q j).far) (E:=(T.next p q j).base (.dict fk)) rfl (by kernel_rfl) rfl rfl (fun ρt=> ?_) (fun ρt=>by kernel_rfl) fun ρt=> .fin
 exact(by kernel_rfl:_=some (D.dict (T.nw p q j (leftL T.ns p q)))).trans (congrArg some (nwK_far hj))
end
end Mine
namespace Mine
open PySem
theorem rows_mem {ns:List Str}{d:Str→Str→Nat→Int}{c:Nat}{r:Row}:r∈rowsOf ns d c↔r.2.1∈ns∧r.2.2∈ns∧ltS r.2.1 r.2.2∧r.1=QQ ns d c r.2.1 r.2.2:=by
 unfold rowsOf
 rw[List.mem_flatten]
 constructor
 ·intro ⟨l,h1,h⟩
  obtain⟨x,hx,rfl⟩:=List.mem_map.mp h1
  obtain⟨y,h2,rfl⟩:=List.mem_map.mp h
  obtain⟨hy,hlt⟩:=List.mem_filter.mp h2
  exact⟨hx,hy,of_decide_eq_true hlt,rfl⟩
 ·intro ⟨hx,hy,hlt,e⟩
  exact⟨_,List.mem_map.mpr ⟨r.2.1,hx,rfl⟩,List.mem_map.mpr ⟨r.2.2,List.mem_filter.mpr ⟨hy,decide_eq_true hlt⟩,Prod.ext e.symm rfl⟩⟩
noncomputable def pairOf (ns:List Str) (d:Str→Str→Nat→Int) (c:Nat) (u0 u1:Int):Str×Str:=match rowsOf ns d c with
 | []=>(⟨#[]⟩,⟨#[]⟩)
 |r0::tl=>(bestR u0 u1 r0 (r0::tl)).2
noncomputable def joinOf (p q:Str):Option Str:=((biD "sorted" [.str (p++q)]).bind fun l=>methS "join" ⟨#[]⟩ [l]).bind asStr
section
variable {F:Addr→List D→Option D}(J:FJ F){T:TT}(I:T.Ok)(hsym: ∀x y k,T.d x y k=T.d y x k)(h0:T.u0=1∨T.u0= -1)(h1:T.u1=1∨T.u1= -1)(hc:T.c<4)
include J I hsym h0 h1 hc
theorem join_turn {fk:List (Str×D)}{p q j:Str}(hpq:pairOf T.ns T.d T.c T.u0 T.u1=(p,q))(zp:p.cps.size≤8)(zq:q.cps.size≤8)(hfk:fk.length≤64)(hjo:joinOf p q=some j)(hj:j∉T.ns)(hne:rowsOf T.ns T.d T.c≠ [])(ρt:Rho):
  Runs (mkC F) 40 39 (fn 28).names (T.base (.dict fk)++ρt) turnB (.next ((T.next p q j).base (.dict (T.fd2 p q fk)))):=by
 cases hr:T.rows with
 |nil=>exact absurd hr hne
 |cons r0 tl=>
 have hb:(bestR T.u0 T.u1 r0 (r0::tl)).2=(p,q):=by
  unfold pairOf at hpq
  rw[show rowsOf T.ns T.d T.c=r0::tl from hr] at hpq
  exact hpq
 have b1:bestR T.u0 T.u1 r0 (r0::tl)∈rowsOf T.ns T.d T.c:=by
  rw[show rowsOf T.ns T.d T.c=r0::tl from hr]
  exact(best_agrees h0 h1 r0 tl rfl).1
 obtain⟨hp,hq,hlt,_⟩:=rows_mem.mp b1
 rw[hb] at hp hq hlt
 have hl:T.rows.length<64:=Nat.lt_of_le_of_lt (rows_small I) (Nat.le_of_ble_eq_true rfl)
 have hne':p≠q:=fun e=>ltS_irrefl q (e▸hlt)
 refine to_rows J I hc (to_pick J h0 h1 hr rfl hl (to_told J h0 h1 hr rfl hl fun ρt=> ?_)) ρt
 rw[hb]
 exact ob hjo fun q' hj1 hj2=>to_both J I hsym hp hq hne' (to_laid I hp hq (to_checked I hp hq (to_edge I hp hq (to_found J I zp zq hfk (to_left I zp zq (asStr_inv hj2▸hj1) (to_end I hj hp)))))) ρt
end
noncomputable def Path (c:Nat) (u0 u1:Int):Nat→List Str→List Str→(Str→List Str)→(Str→Str→Nat→Int)→List (Str×D)→List (Str×D)→Prop
 |0,outer,ns,inner,d,fk,res=> ∃x y,ns= [x,y]∧sortS outer= [x,y]∧x∈outer∧outer.length<64∧y∈inner x∧x.cps.size≤8∧fk.length≤64∧res=putK fk (sideS x) (V (d x y))
 |n+1,outer,ns,inner,d,fk,res=>In outer ns inner d∧(∀x y k,d x y k=d y x k)∧ ∃p q j,pairOf ns d c u0 u1=(p,q)∧p.cps.size≤8∧q.cps.size≤8∧fk.length≤64∧joinOf p q=some j∧j∉ns∧leftL ns p q≠ []∧rowsOf ns d c≠ []∧
   Path c u0 u1 n (j::leftL ns p q) (sortS (j::leftL ns p q)) (inner' ns p q j) (newD d p q j) (found2 ns d p q fk) res
theorem asg_tup {C:Cfg}{nm:Names}{ρ ρ':Rho}{n:Nat}{d:D}{ts:List Expr}{k:Nat}{tp p:Pos}{e:Expr}(ho:C.own p.line=none)(hne:isTupT e=false)(he:ev C n nm ρ e=some d)(hb:bindT nm ρ (.Tuple ts k tp) d=some ρ'):sxAssign C (ev C n) nm ρ [.Tuple ts k tp] e p=some ρ':=by
 unfold sxAssign
 rw[ho]
 show(ev C n nm ρ e).bind (fun d=>if(isTupT (.Tuple ts k tp)&&isTupT e)=true then _ else(bindT nm ρ (.Tuple ts k tp) d).bind fun ρ=>some ρ)=_
 rw[he]
 show(if(isTupT (.Tuple ts k tp)&&isTupT e)=true then _ else(bindT nm ρ (.Tuple ts k tp) d).bind fun ρ=>some ρ)=_
 rw[hne,hb]
 exact if_neg fun q=>nomatch q
section
variable {F:Addr→List D→Option D}(J:FJ F){c:Nat}{u0 u1:Int}(h0:u0=1∨u0= -1)(h1:u1=1∨u1= -1)(hc:c<4)
include J h0 h1 hc
noncomputable def turnT:Expr:=sT ((fn 28).body.getD 2 (.Pass p0))
theorem join_turns {P:Option Out→Prop}: ∀(n:Nat) (items:List D) (outer ns:List Str) (inner:Str→List Str) (d:Str→Str→Nat→Int) (fk res:List (Str×D)) (ρ:Rho),items.length=n→Path c u0 u1 n outer ns inner d fk res→vals ρ (TT.base ⟨outer,ns,inner,d,c,u0,u1⟩ (.dict fk))=vals (TT.base ⟨outer,ns,inner,d,c,u0,u1⟩ (.dict fk)) (TT.base ⟨outer,ns,inner,d,c,u0,u1⟩ (.dict fk))→
  (∀outer' ns' inner' d' fk' ρ',Path c u0 u1 0 outer' ns' inner' d' fk' res→vals ρ' (TT.base ⟨outer',ns',inner',d',c,u0,u1⟩ (.dict fk'))=vals (TT.base ⟨outer',ns',inner',d',c,u0,u1⟩ (.dict fk')) (TT.base ⟨outer',ns',inner',d',c,u0,u1⟩ (.dict fk'))→P (some (.next ρ')))→
  P (exFor (sx (mkC F) (ev (mkC F) 40) 39) (fn 28).names turnT turnB ρ items)
 |0,[],outer,ns,inner,d,fk,res,ρ,_,h,hρ,k=>k outer ns inner d fk ρ h hρ
 |n+1,t::items,outer,ns,inner,d,fk,res,ρ,hl,h,hρ,k=>by
  obtain⟨I,hsym,p,q,j,a1,a2,a3,a4,a5,a6,_,a8,hP⟩:=h
  obtain⟨ρ1,e1,e2⟩:=bindV_e (nm:=(fn 28).names) (Has.app hρ) t (view turnT) _ (by kernel_rfl:bindV (fn 28).names (TT.base ⟨outer,ns,inner,d,c,u0,u1⟩ (.dict fk)++ρ) t (view turnT)=some (setV (TT.base ⟨outer,ns,inner,d,c,u0,u1⟩ (.dict fk)++ρ) "turn" .fr t))
  exact turn_goP e1 (Runs.eqv e2 (.on _ (by kernel_rfl) (join_turn (T:=⟨outer,ns,inner,d,c,u0,u1⟩) J I hsym h0 h1 hc a1 a2 a3 a4 a5 a6 a8))) fun ρ' h'=>join_turns n items _ _ _ _ _ _ ρ' (Nat.succ.inj hl) hP h' k
theorem joined_ok {outer ns:List Str}{inner:Str→List Str}{d:Str→Str→Nat→Int}{res:List (Str×D)}(h:Path c u0 u1 3 outer ns inner d [] res):runX (mkC F) 40 40 (fn 28) [farD outer inner d,.list [.int u0,.int u1],.int (c:Int)]=some (.dict res):=by
 refine runX_ret rfl (setO (d:= .dict []) (E:=[("found",.o1,.dict []),("far",.fr,farD outer inner d),("ups",.fr,.list [.int u0,.int u1]),("column",.fr,.int (c:Int))]) rfl rfl rfl rfl (by kernel_rfl) rfl (by kernel_rfl) fun ρt=> ?_)
 refine setN (d:=compI u0 u1) (E:=TT.base ⟨outer,ns,inner,d,c,u0,u1⟩ (.dict [])) rfl rfl rfl rfl (ev_obj (a:=62) (by kernel_rfl) rfl (mO_cons (b:=upsD u0 u1) (by kernel_rfl) mO_nil) (J.comp u0 u1)) (by kernel_rfl) fun ρt=> ?_
 have fin:=join_turns (F:=F) J h0 h1 hc (P:=fun o=> ∃outer' ns' inner' d' fk' ρ',o=some (.next ρ')∧Path c u0 u1 0 outer' ns' inner' d' fk' res∧vals ρ' (TT.base ⟨outer',ns',inner',d',c,u0,u1⟩ (.dict fk'))=vals (TT.base ⟨outer',ns',inner',d',c,u0,u1⟩ (.dict fk')) (TT.base ⟨outer',ns',inner',d',c,u0,u1⟩ (.dict fk')))
  3 [.int 0,.int 1,.int 2] outer ns inner d [] res _ rfl h (vals_app _ ρt) fun o' n' i' d' f' ρ' a b=>⟨o',n',i',d',f',ρ',rfl,a,b⟩
 obtain⟨outer',ns',inner',d',fk,ρ',e,⟨x,y,e1,e2,e3,e4,e5,e6,e7,e8⟩,hk⟩:=fin
 refine forN0 (items:=[.int 0,.int 1,.int 2]) rfl rfl (by kernel_rfl) e hk fun ρt=> ?_
 refine asg0 (E:=("one",.fr,.str x)::("other",.fr,.str y)::TT.base ⟨outer',ns',inner',d',c,u0,u1⟩ (.dict fk)) rfl rfl (asg_tup (d:=strsD [x,y]) rfl rfl (ev_bi_name (n':= "sorted") (d:=farD outer' inner' d') (by kernel_rfl) (by kernel_rfl) (sorted_keys e2 e4)) rfl) (by kernel_rfl) fun ρt=> ?_
 refine asgP (q:= .dict fk) (i':= .str (sideS x)) (d:=V (d' x y)) (d':= .dict res) (E:=[("found",.o1,.dict res)]) rfl rfl rfl (by kernel_rfl) (ev_obj (a:=255) (by kernel_rfl) rfl (mO_cons (b:=D.str x) (by kernel_rfl) mO_nil) (J.side x e6))
  (ev_item_two (d:=DV (inner' x) (d' x)) (i':= .str y) rfl (by kernel_rfl) (ev_item_name (d:=farD outer' inner' d') (i':= .str x) rfl (by kernel_rfl) (by kernel_rfl) (lookup_map_get e3)) (by kernel_rfl) (kvV_get e5)) (put_ok (Nat.le_trans e7 (Nat.le_of_ble_eq_true rfl)) e8.symm) (by kernel_rfl) fun ρt=> ?_
 exact retF [("found",.fr,.dict res)] rfl (by kernel_rfl) fun ρt=>(by kernel_rfl)
end
end Mine
namespace Mine
open PySem
noncomputable def lin (T:List Str) (w:Str→Nat→Int) (a:Str→Int) (k:Nat):Int:=(T.map fun e=>a e*w e k).sum
section
variable {T:List Str}{w:Str→Nat→Int}{a b:Str→Int}{k:Nat}
theorem lin_congr (h: ∀e∈T,a e=b e):lin T w a k=lin T w b k:=by unfold lin;rw[List.map_congr_left fun e he=>by rw[h e he]]
theorem lin_add:lin T w a k+lin T w b k=lin T w (fun e=>a e+b e) k:=by
 unfold lin
 induction T with
 |nil=>rfl
 |cons e T ih=>simp only[List.map_cons,List.sum_cons,←ih];rw[Int.add_mul];omega
theorem lin_mul (c:Int):c*lin T w a k=lin T w (fun e=>c*a e) k:=by
 unfold lin
 induction T with
 |nil=>simp
 |cons e T ih=>simp only[List.map_cons,List.sum_cons,←ih];rw[Int.mul_add,Int.mul_assoc]
theorem lin_sub:lin T w a k - lin T w b k=lin T w (fun e=>a e - b e) k:=by
 unfold lin
 induction T with
 |nil=>rfl
 |cons e T ih=>simp only[List.map_cons,List.sum_cons,←ih];rw[Int.sub_mul];omega
theorem sum_zero {α:Type}(l:List α):(l.map fun ω=>(0:Int)).sum=0:=by induction l with|nil=>rfl|cons e l ih=>simp[ih]
theorem lin_sum (l:List Str)(f:Str→Str→Int):(l.map fun z=>lin T w (f z) k).sum=lin T w (fun e=>(l.map fun z=>f z e).sum) k:=by
 induction l with
 |nil=>unfold lin;simp[sum_zero]
 |cons z l ih=>simp only[List.map_cons,List.sum_cons,ih,lin_add]
theorem lin_le (hw: ∀e∈T,0<w e k)(h: ∀e∈T,a e≤b e):lin T w a k≤lin T w b k:=by
 unfold lin
 induction T with
 |nil=>simp
 |cons e T ih=>
  simp only[List.map_cons,List.sum_cons]
  have h1:=ih (fun e he=>hw e (List.mem_cons_of_mem _ he)) (fun e he=>h e (List.mem_cons_of_mem _ he))
  have h2:=Int.mul_le_mul_of_nonneg_right (h e (by simp)) (Int.le_of_lt (hw e (by simp)))
  omega
theorem lin_lt (hw: ∀e∈T,0<w e k)(h: ∀e∈T,a e≤b e)(hx: ∃e∈T,a e<b e):lin T w a k<lin T w b k:=by
 unfold lin
 induction T with
 |nil=>obtain⟨e,he,_⟩:=hx;simp at he
 |cons e T ih=>
  simp only[List.map_cons,List.sum_cons]
  have hw': ∀e∈T,0<w e k:=fun e he=>hw e (List.mem_cons_of_mem _ he)
  have h': ∀e∈T,a e≤b e:=fun e he=>h e (List.mem_cons_of_mem _ he)
  by_cases q:a e<b e
  ·have h1:=lin_le (a:=a) (b:=b) hw' h'
   unfold lin at h1
   have h2:=Int.mul_lt_mul_of_pos_right q (hw e (by simp))
   omega
  ·have h2:=Int.mul_le_mul_of_nonneg_right (h e (by simp)) (Int.le_of_lt (hw e (by simp)))
   have h1:=ih hw' h' (by
    obtain⟨e',he',hl⟩:=hx
    rcases List.mem_cons.mp he' with rfl|he'
    ·exact absurd hl q
    ·exact⟨e',he',hl⟩)
   omega
theorem lin_one {s:Str}(hn:T.Nodup)(hs:s∈T):lin T w (fun e=>if e=s then 1 else 0) k=w s k:=by
 unfold lin
 induction T with
 |nil=>simp at hs
 |cons e T ih=>
  obtain⟨n1,n2⟩:=List.nodup_cons.mp hn
  simp only[List.map_cons,List.sum_cons]
  rcases List.mem_cons.mp hs with rfl|hs
  ·have:(T.map fun e=>(if e=s then(1:Int) else 0)*w e k).sum=0:=by
    have:(T.map fun e=>(if e=s then(1:Int) else 0)*w e k)=T.map fun ω=>(0:Int):=List.map_congr_left fun e he=>by
     rw[if_neg (by rintro rfl;exact n1 he)];simp
    rw[this]
    clear this ih n1 n2 hn
    induction T with
    |nil=>rfl
    |cons e T ih=>simp[ih]
   rw[this];simp
  ·rw[ih n2 hs,if_neg (by rintro rfl;exact n1 hs)];simp
theorem lin_filter (c:Str→Bool):lin T w (fun e=>if c e then a e else 0) k=lin (T.filter c) w a k:=by
 unfold lin
 induction T with
 |nil=>rfl
 |cons e T ih=>
  rw[List.filter_cons]
  cases h:c e<;>simp[h,ih]
theorem lin_abs {B:Int}(hB:0≤B)(hw: ∀e∈T,0<w e k∧w e k≤B)(ha: ∀e∈T,0≤a e∧a e≤1):0≤lin T w a k∧lin T w a k≤T.length*B:=by
 unfold lin
 induction T with
 |nil=>simp
 |cons e T ih=>
  obtain⟨h1,h2⟩:=ih (fun e he=>hw e (List.mem_cons_of_mem _ he)) (fun e he=>ha e (List.mem_cons_of_mem _ he))
  obtain⟨h3,h4⟩:=hw e (by simp)
  obtain⟨h5,h6⟩:=ha e (by simp)
  simp only[List.map_cons,List.sum_cons,List.length_cons]
  have:0≤a e*w e k∧a e*w e k≤B:=by
   have h7:a e=0∨a e=1:=by omega
   rcases h7 with h7|h7<;>rw[h7]<;>constructor<;>omega
  have e2:((T.length+1:Nat):Int)*B=T.length*B+B:=by rw[Int.natCast_add,Int.add_mul];simp
  omega
end
end Mine
namespace Mine
open PySem
noncomputable def insS (x:Str):List Str→List Str
 | []=>[x]
 |y::r=>if ltS x y then x::y::r else y::insS x r
noncomputable def isS:List Str→List Str
 | []=>[]
 |x::r=>insS x (isS r)
theorem insS_perm (x:Str): ∀l:List Str,(insS x l).Perm (x::l)
 | []=> .refl _
 |y::r=>ite_or (P:=fun l:List Str=>l.Perm (x::y::r)) (fun ω=> .refl _) fun ω=>((insS_perm x r).cons y).trans (.swap x y r)
theorem isS_perm: ∀l:List Str,(isS l).Perm l
 | []=> .refl _
 |x::r=>(insS_perm x (isS r)).trans ((isS_perm r).cons x)
theorem insS_sorted {x:Str}: ∀{l:List Str},l.Pairwise (fun a b=> ¬ltS b a)→(insS x l).Pairwise (fun a b=> ¬ltS b a)
 | [],_=>List.pairwise_singleton _ _
 |y::r,h=>by
  obtain⟨h1,h2⟩:=List.pairwise_cons.mp h
  exact ite_or (P:=fun l:List Str=>l.Pairwise (fun a b=> ¬ltS b a)) (fun q=>List.pairwise_cons.mpr ⟨fun z hz=>(List.mem_cons.mp hz).elim (fun e=>e▸ltS_asymm q) fun hz q2=>h1 z hz (ltS_trans q2 q),h⟩)
   fun q=>List.pairwise_cons.mpr ⟨fun z hz=>(List.mem_cons.mp ((insS_perm x r).mem_iff.mp hz)).elim (fun e=>e▸q) (h1 z),insS_sorted h2⟩
theorem isS_sorted: ∀l:List Str,(isS l).Pairwise (fun a b=> ¬ltS b a)
 | []=> .nil
 |_::r=>insS_sorted (isS_sorted r)
theorem sort_unique: ∀{l m:List Str},l.Perm m→l.Pairwise (fun a b=> ¬ltS b a)→m.Pairwise (fun a b=> ¬ltS b a)→l=m
 | [],m,h,_,_=>(List.Perm.nil_eq h)
 |a::l,[],h,_,_=>nomatch h.length_eq
 |a::l,b::m,h,h1,h2=>by
  obtain⟨a1,a2⟩:=List.pairwise_cons.mp h1
  obtain⟨b1,b2⟩:=List.pairwise_cons.mp h2
  have e:a=b:=(List.mem_cons.mp (h.mem_iff.mp (.head _):a∈b::m)).elim id fun q=>(List.mem_cons.mp (h.mem_iff.mpr (.head _):b∈a::l)).elim Eq.symm fun q'=>ltS_eq (b1 a q) (a1 b q')
  subst e
  rw[sort_unique (List.Perm.cons_inv h) a2 b2]
theorem sortS_is (l:List Str):sortS l=isS l:=sort_unique ((sortS_perm l).trans (isS_perm l).symm) (sortS_sorted l) (isS_sorted l)
noncomputable def jI (p q:Str):Option Str:=(methS "join" ⟨#[]⟩ [.list ((isS ((p++q).cps.toList.map fun c=>⟨#[c]⟩)).map .str)]).bind asStr
theorem joinOf_jI {p q:Str}(h:(p++q).length<64):joinOf p q=jI p q:=by
 have:biD "sorted" [.str (p++q)]=some (.list ((sortS ((p++q).cps.toList.map fun c=>⟨#[c]⟩)).map .str)):=if_pos h
 unfold joinOf jI
 rw[this,sortS_is];rfl
noncomputable def hasG (e x:Str):Bool:=match x.cps.toList with
 |a::_=>e.cps.toList.contains a
 | []=>false
noncomputable def sI (e x y:Str):Int:=if hasG e x !=hasG e y then 1 else 0
noncomputable def dT (T:List Str) (w:Str→Nat→Int) (x y:Str) (k:Nat):Int:=lin T w (fun e=>sI e x y) k
noncomputable def rc (ns:List Str) (x e:Str):Int:=((others ns x).map fun z=>sI e x z).sum
noncomputable def qc (ns:List Str) (x y e:Str):Int:=((ns.length:Int) - 2)*sI e x y - rc ns x e - rc ns y e
noncomputable def at1 (s e:Str):Int:=if e=s then 1 else 0
noncomputable def okPair (ns T:List Str) (p q j:Str):Bool:=
 T.contains (sideS p)&&(T.contains (sideS q)&&(decide (sideS p≠sideS q)&&
 (T.all (fun e=>sI e p q==at1 (sideS p) e+at1 (sideS q) e)&&
 (T.all (fun e=>rc ns p e - rc ns q e==((ns.length:Int) - 2)*(at1 (sideS p) e - at1 (sideS q) e))&&
 ((leftL ns p q).all (fun z=>T.all fun e=>sI e p z+sI e q z - sI e p q==2*(if(!(e==sideS p)&& !(e==sideS q)) then sI e j z else 0))&&
 ((leftL ns p q).all (fun z=>(leftL ns p q).all fun y=>sI (sideS p) z y==0&&sI (sideS q) z y==0)&&
 (decide (p.cps.size≤8)&&(decide (q.cps.size≤8)&&(!ns.contains j&& !isNil (leftL ns p q))))))))))
noncomputable def dominated (ns T:List Str) (x y:Str):Bool:=ns.any fun x'=>ns.any fun y'=>decide (ltS x' y')&&(T.all (fun e=>decide (qc ns x' y' e≤qc ns x y e))&&T.any (fun e=>decide (qc ns x' y' e<qc ns x y e)))
noncomputable def pairsOf (ns:List Str):List (Str×Str):=(ns.map fun x=>(ns.filter fun y=>decide (ltS x y)).map fun y=>(x,y)).flatten
noncomputable def okEnd (T keys T0:List Str) (e:Str×Str):Bool:=T== [sideS e.1]&&(decide (e.1.cps.size≤8)&&(sI (sideS e.1) e.1 e.2==1&&(decide (e.1≠e.2)&&(decide (keys++[sideS e.1]).Nodup&&(decide (keys.length≤16)&&(T0.all (fun k=>(keys++[sideS e.1]).contains k)&&(keys++[sideS e.1]).all (fun k=>T0.contains k)))))))
noncomputable def okTree:Nat→List Str→List Str→List Str→List Str→Bool
 |0,ns,T,keys,T0=>someB (okEnd T keys T0) (two ns)
 |n+1,ns,T,keys,T0=>decide (ns.length=n+3)&&(decide (ns.length≤5)&&(decide ns.Nodup&&(decide T.Nodup&&(decide (keys.length≤16)&&(!isNil (pairsOf ns)&&(pairsOf ns).all fun e=>dominated ns T e.1 e.2||
   someB (fun j=>okPair ns T e.1 e.2 j&&(decide ((keys++[sideS e.1,sideS e.2]).Nodup)&&okTree n (isS (j::leftL ns e.1 e.2)) (T.filter fun k=> !(k==sideS e.1)&& !(k==sideS e.2)) (keys++[sideS e.1,sideS e.2]) T0)) (jI e.1 e.2))))))
end Mine
namespace Mine
open PySem
theorem sI_symm (e x y:Str):sI e x y=sI e y x:=by unfold sI;cases hasG e x<;>cases hasG e y<;>rfl
theorem sI_01 (e x y:Str):0≤sI e x y∧sI e x y≤1:=ite_or (P:=fun z:Int=>0≤z∧z≤1) (fun ω=>by decide) fun ω=>by decide
theorem mem_pairs {ns:List Str}{x y:Str}:(x,y)∈pairsOf ns↔x∈ns∧y∈ns∧ltS x y:=by
 unfold pairsOf
 rw[List.mem_flatten]
 constructor
 ·intro ⟨l,h1,h⟩
  obtain⟨x',hx,rfl⟩:=List.mem_map.mp h1
  obtain⟨y',h2,e⟩:=List.mem_map.mp h
  cases e
  obtain⟨hy,hlt⟩:=List.mem_filter.mp h2
  exact⟨hx,hy,of_decide_eq_true hlt⟩
 ·intro ⟨hx,hy,h⟩
  exact⟨_,List.mem_map.mpr ⟨x,hx,rfl⟩,List.mem_map.mpr ⟨y,List.mem_filter.mpr ⟨hy,decide_eq_true h⟩,rfl⟩⟩
theorem fdiv_mul {a n:Int}(h:n≠0):(n*a).fdiv n=a:=by
 rw[Int.mul_comm];exact Int.mul_fdiv_cancel _ h
section
variable {T T0:List Str}{w:Str→Nat→Int}{ns:List Str}{d:Str→Str→Nat→Int}{c:Nat}{u0 u1:Int}{p q j x y:Str}{keys:List Str}
noncomputable def OnT (T:List Str) (w:Str→Nat→Int) (ns:List Str) (d:Str→Str→Nat→Int):Prop:= ∀x∈ns,∀y∈ns,x≠y→ ∀k,d x y k=dT T w x y k
theorem RR_lin (hd:OnT T w ns d)(hx:x∈ns)(k:Nat):RR ns d x k=lin T w (rc ns x) k:=by
 have:((others ns x).map fun y=>d x y k)=(others ns x).map fun y=>lin T w (fun e=>sI e x y) k:=List.map_congr_left fun y hy=>hd x hx y (mem_others.mp hy).1 (Ne.symm (mem_others.mp hy).2) k
 unfold RR
 rw[this,lin_sum];rfl
theorem QQ_lin (hd:OnT T w ns d)(hx:x∈ns)(hy:y∈ns)(h:x≠y)(k:Nat):QQ ns d k x y=lin T w (qc ns x y) k:=by
 unfold QQ
 rw[RR_lin hd hx,RR_lin hd hy,hd x hx y hy h]
 unfold dT
 rw[lin_mul,lin_sub,lin_sub]
 rfl
theorem ways_small (hw: ∀e∈T,∀k,0<w e k∧w e k≤1000000)(hT:T.length≤7)(hd:OnT T w ns d)(hx:x∈ns)(hy:y∈ns)(h:x≠y)(k:Nat):(d x y k).natAbs<1073741824:=by
 have h1:=lin_abs (T:=T) (w:=w) (a:=fun e=>sI e x y) (k:=k) (B:=1000000) (by decide) (fun e he=>hw e he k) (fun e ω=>sI_01 e x y)
 rw[hd x hx y hy h k]
 unfold dT
 omega
structure BestP (ns:List Str)(d:Str→Str→Nat→Int)(c:Nat)(u0 u1:Int)(p q:Str):Prop where
 pair:pairOf ns d c u0 u1=(p,q)
 hp:p∈ns
 hq:q∈ns
 lt:ltS p q
 min: ∀x∈ns,∀y∈ns,ltS x y→QQ ns d c p q≤QQ ns d c x y
theorem best_pair (h0:u0=1∨u0= -1)(h1:u1=1∨u1= -1)(hne:rowsOf ns d c≠ []): ∃p q,BestP ns d c u0 u1 p q:=by
 cases hr:rowsOf ns d c with
 |nil=>exact absurd hr hne
 |cons r0 tl=>
  obtain⟨c1,c2,_⟩:=best_agrees h0 h1 r0 tl rfl
  rw[←hr] at c2
  have m:=rows_mem.mp ((show rowsOf ns d c=r0::tl from hr).symm▸c1:bestR u0 u1 r0 (r0::tl)∈rowsOf ns d c)
  refine⟨_,_,?_,m.1,m.2.1,m.2.2.1,fun x hx y hy h=> ?_⟩
  ·unfold pairOf
   rw[hr]
  ·rw[←m.2.2.2]
   rw[hr] at c2
   have hin:(QQ ns d c x y,x,y)∈r0::tl:=hr▸rows_mem.mpr ⟨hx,hy,h,rfl⟩
   have ms:=minL_spec _ _ _ c2
   exact(List.mem_cons.mp hin).elim (fun e=>e▸ms.2.1) fun h=>ms.2.2 _ (List.mem_map.mpr ⟨_,h,rfl⟩)
theorem not_dom (hd:OnT T w ns d)(hw: ∀e∈T,0<w e c)(B:BestP ns d c u0 u1 p q):dominated ns T p q=false:=Bool.eq_false_iff.mpr fun h=>by
 obtain⟨x,hx,h⟩:=List.any_eq_true.mp h
 obtain⟨y,hy,h⟩:=List.any_eq_true.mp h
 refine ab h fun g1 h=>ab h fun g2 g3=> ?_
 have g1:ltS x y:=of_decide_eq_true g1
 obtain⟨e,he,hl⟩:=List.any_eq_true.mp g3
 have l:=lin_lt (w:=w) (k:=c) hw (fun e he=>of_decide_eq_true (List.all_eq_true.mp g2 e he)) ⟨e,he,of_decide_eq_true hl⟩
 rw[←QQ_lin hd hx hy (fun e=>ltS_irrefl y (e▸g1)),←QQ_lin hd B.hp B.hq (fun e=>ltS_irrefl q (e▸B.lt))] at l
 exact absurd (B.min x hx y hy g1) (Int.not_le.mpr l)
structure PairOk (ns T:List Str)(p q j:Str):Prop where
 sp:sideS p∈T
 sq:sideS q∈T
 ne:sideS p≠sideS q
 one: ∀e∈T,sI e p q=at1 (sideS p) e+at1 (sideS q) e
 rcs: ∀e∈T,rc ns p e - rc ns q e=((ns.length:Int) - 2)*(at1 (sideS p) e - at1 (sideS q) e)
 way: ∀z∈leftL ns p q,∀e∈T,sI e p z+sI e q z - sI e p q=2*(if(!(e==sideS p)&& !(e==sideS q)) then sI e j z else 0)
 stay: ∀z∈leftL ns p q,∀y∈leftL ns p q,sI (sideS p) z y=0∧sI (sideS q) z y=0
 zp:p.cps.size≤8
 zq:q.cps.size≤8
 j:j∉ns
 left:leftL ns p q≠ []
theorem pair_ok (h:okPair ns T p q j=true):PairOk ns T p q j:=ab h fun m1 h=>ab h fun m2 h=>ab h fun m3 h=>ab h fun m4 h=>ab h fun m5 h=>ab h fun m6 h=>ab h fun m7 h=>ab h fun m8 h=>ab h fun m9 h=>ab h fun m10 m11=>
 {sp:=List.contains_iff_mem.mp m1
  sq:=List.contains_iff_mem.mp m2
  ne:=of_decide_eq_true m3
  one:=fun e he=>beq_iff_eq.mp (List.all_eq_true.mp m4 e he)
  rcs:=fun e he=>beq_iff_eq.mp (List.all_eq_true.mp m5 e he)
  way:=fun z hz e he=>beq_iff_eq.mp (List.all_eq_true.mp (List.all_eq_true.mp m6 z hz) e he)
  stay:=fun z hz y hy=>ab (List.all_eq_true.mp (List.all_eq_true.mp m7 z hz) y hy) fun a b=>⟨beq_iff_eq.mp a,beq_iff_eq.mp b⟩
  zp:=of_decide_eq_true m8
  zq:=of_decide_eq_true m9
  j:=fun h=>nomatch (List.contains_iff_mem.mpr h).symm.trans ((Bool.not_eq_true' _).mp m10)
  left:=fun h=>nomatch (h▸m11:(!isNil ([]:List Str))=true)}
theorem at_way (hT:T.Nodup)(h:x∈T)(k:Nat):lin T w (at1 x) k=w x k:=lin_one hT h
section
variable (hT:T.Nodup)(P:PairOk ns T p q j)(hd:OnT T w ns d)(hp:p∈ns)(hq:q∈ns)(hne:p≠q)(hn2:((ns.length:Int) - 2)≠0)
include hT P hd hp hq hne
theorem way_pq (k:Nat):d p q k=w (sideS p) k+w (sideS q) k:=by
 rw[hd p hp q hq hne k,←at_way (w:=w) hT P.sp,←at_way (w:=w) hT P.sq,lin_add]
 exact lin_congr P.one
include hn2
theorem edge_p (k:Nat):edgeF ns d p q k=w (sideS p) k:=by
 have h:RR ns d p k - RR ns d q k=((ns.length:Int) - 2)*(w (sideS p) k - w (sideS q) k):=by
  rw[RR_lin hd hp,RR_lin hd hq,lin_sub,←at_way (w:=w) hT P.sp,←at_way (w:=w) hT P.sq,lin_sub,lin_mul]
  exact lin_congr P.rcs
 have h2:w (sideS p) k+w (sideS q) k+(w (sideS p) k - w (sideS q) k)=2*w (sideS p) k:=by omega
 unfold edgeF
 rw[h,fdiv_mul hn2,way_pq hT P hd hp hq hne,h2,fdiv_mul (by decide)]
theorem found_two (hk:(keys++[sideS p,sideS q]).Nodup):found2 ns d p q (kvV keys w)=kvV (keys++[sideS p,sideS q]) w:=by
 have e1:edgeF ns d p q=w (sideS p):=funext (edge_p hT P hd hp hq hne hn2)
 have e2:(fun k=>d p q k - edgeF ns d p q k)=w (sideS q):=funext fun k=>by
  rw[e1,way_pq hT P hd hp hq hne k,Int.add_comm,Int.add_sub_cancel]
 have n1:=(List.nodup_append.mp hk).2.2
 unfold found2
 rw[e2,e1,kvV_put fun h=>n1 _ h _ (.head _) rfl,kvV_put fun h=>(List.mem_append.mp h).elim (fun h=>n1 _ h _ (.tail _ (.head _)) rfl) fun h=>P.ne (List.mem_singleton.mp h).symm,List.append_assoc]
 rfl
end
noncomputable def cutT (T:List Str) (p q:Str):List Str:=T.filter fun e=> !(e==sideS p)&& !(e==sideS q)
section
variable (P:PairOk ns T p q j)(hd:OnT T w ns d)(hp:p∈ns)(hq:q∈ns)(hne:p≠q)
include P hd
include hp hq hne in
theorem way_left {z:Str}(hz:z∈leftL ns p q)(k:Nat):wayF d p q z k=dT (cutT T p q) w j z k:=by
 obtain⟨z1,z2,z3⟩:=mem_left.mp hz
 unfold wayF overF
 rw[if_neg (fun h=>h.elim z3 z2),hd p hp z z1 (Ne.symm z2) k,hd q hq z z1 (Ne.symm z3) k,hd p hp q hq hne k]
 unfold dT cutT
 rw[lin_add,lin_sub,lin_congr (P.way z hz),←lin_mul,fdiv_mul (by decide),lin_filter]
theorem way_stay {z:Str}(hz:z∈leftL ns p q)(hy:y∈leftL ns p q)(h:z≠y)(k:Nat):d z y k=dT (cutT T p q) w z y k:=by
 rw[hd z (mem_left.mp hz).1 y (mem_left.mp hy).1 h k]
 unfold dT cutT
 rw[←lin_filter]
 refine lin_congr fun e ω=> ?_
 by_cases e1:e=sideS p
 ·rw[e1,(P.stay z hz y hy).1]
  exact(ite_self _).symm
 ·by_cases e2:e=sideS q
  ·rw[e2,(P.stay z hz y hy).2]
   exact(ite_self _).symm
  ·rw[beq_false_of_ne e1,beq_false_of_ne e2];rfl
include hp hq hne in
theorem new_on {l:List Str}(hl: ∀x∈l,x=j∨x∈leftL ns p q):OnT (cutT T p q) w l (newD d p q j):=fun x hx y hy hxy k=>by
 have hjL: ∀{z},z∈leftL ns p q→z≠j:=fun h e=>P.j (e▸(mem_left.mp h).1)
 unfold newD
 by_cases ex:x=j
 ·have hyL:=(hl y hy).resolve_left fun e=>hxy (ex.trans e.symm)
  rw[if_pos ex,ex]
  exact way_left P hd hp hq hne hyL k
 ·have hxL:=(hl x hx).resolve_left ex
  rw[if_neg ex]
  by_cases ey:y=j
  ·rw[if_pos ey,ey,way_left P hd hp hq hne hxL k]
   exact lin_congr fun e ω=>sI_symm _ _ _
  ·rw[if_neg ey]
   exact way_stay P hd hxL ((hl y hy).resolve_left ey) hxy k
end
theorem new_symm (h: ∀x y k,d x y k=d y x k)(x y:Str)(k:Nat):newD d p q j x y k=newD d p q j y x k:=by
 unfold newD
 by_cases e1:x=j
 ·rw[if_pos e1]
  by_cases e2:y=j
  ·rw[if_pos e2,e1,e2]
  ·rw[if_neg e2,if_pos e1]
 ·rw[if_neg e1,if_neg e1]
  by_cases e2:y=j
  ·rw[if_pos e2,if_pos e2]
  ·rw[if_neg e2,if_neg e2,h]
theorem new_inner (hj:j∉leftL ns p q){l:List Str}(hl:(j::leftL ns p q).Perm l)(x:Str)(hx:x∈l):(inner' ns p q j x).Perm (others l x):=by
 refine List.Perm.trans ?_ (hl.filter _)
 unfold inner'
 by_cases e:x=j
 ·rw[if_pos e,List.filter_cons,if_neg (fun q=>(of_decide_eq_true q:j≠x) e.symm)]
  exact .of_eq (List.filter_eq_self (p:=fun y=>decide (y≠x)).mpr fun y hy=>decide_eq_true fun(q:y=x)=>hj (e▸q▸hy)).symm
 ·rw[if_neg e,List.filter_cons,if_pos (decide_eq_true (Ne.symm e))]
  have:(leftL ns p q).filter (fun y=> !(y==x))=(leftL ns p q).filter (fun y=>decide (y≠x)):=List.filter_congr fun y ω=>by
   by_cases h:y=x
   ·rw[beq_iff_eq.mpr h,decide_eq_false (fun q=>q h)];rfl
   ·rw[beq_false_of_ne h,decide_eq_true h];rfl
  rw[this]
  exact List.perm_append_comm
noncomputable def PathTo (w:Str→Nat→Int) (c:Nat) (u0 u1:Int) (T0:List Str) (n:Nat) (ns T keys:List Str):Prop:= ∀(outer:List Str) (inner:Str→List Str) (d:Str→Str→Nat→Int),sortS outer=ns→outer.Perm ns→(∀x∈ns,(inner x).Perm (others ns x))→OnT T w ns d→(∀x y k,d x y k=d y x k)→
 ∃K:List Str,Path c u0 u1 n outer ns inner d (kvV keys w) (kvV K w)∧K.Nodup∧ ∀e,e∈K↔e∈T0
theorem path_end {e:Str×Str}(h:okEnd T keys T0 e=true):PathTo w c u0 u1 T0 0 [e.1,e.2] T keys:=fun outer inner d hso hpo hin hd hsym=>
 ab h fun a1 h=>ab h fun a2 h=>ab h fun a3 h=>ab h fun a4 h=>ab h fun a5 h=>ab h fun a6 h=>ab h fun a7 a8=>by
  have a4:e.1≠e.2:=of_decide_eq_true a4
  have a5:(keys++[sideS e.1]).Nodup:=of_decide_eq_true a5
  have a1:T= [sideS e.1]:=beq_iff_eq.mp a1
  refine⟨keys++[sideS e.1],⟨e.1,e.2,rfl,hso,hpo.mem_iff.mpr (.head _),hpo.length_eq▸Nat.le_of_ble_eq_true rfl,(hin e.1 (.head _)).mem_iff.mpr (mem_others.mpr ⟨.tail _ (.head _),Ne.symm a4⟩),of_decide_eq_true a2,by
   rw[kvV,List.length_map]
   exact Nat.le_trans (of_decide_eq_true a6) (Nat.le_of_ble_eq_true rfl),?_⟩,a5,fun x=>⟨fun h=>List.contains_iff_mem.mp (List.all_eq_true.mp a8 x h),fun h=>List.contains_iff_mem.mp (List.all_eq_true.mp a7 x h)⟩⟩
  have e1:d e.1 e.2=w (sideS e.1):=funext fun k=>by
   rw[hd e.1 (.head _) e.2 (.tail _ (.head _)) a4 k,a1]
   show sI (sideS e.1) e.1 e.2*w (sideS e.1) k+0=_
   rw[beq_iff_eq.mp a3,Int.one_mul,Int.add_zero]
  rw[e1]
  exact(kvV_put fun h=>(List.nodup_append.mp a5).2.2 _ h _ (.head _) rfl).symm
variable (h0:u0=1∨u0= -1)(h1:u1=1∨u1= -1)(hw: ∀e∈T0,∀k,0<w e k∧w e k≤1000000)
include h0 h1 hw
theorem path_of: ∀(n:Nat) (ns T keys:List Str),okTree n ns T keys T0=true→(∀e∈T,e∈T0)→T.length≤7→PathTo w c u0 u1 T0 n ns T keys
 |0,ns,T,keys,hok,_,_=>sb hok fun e he h=>two_inv he▸path_end h
 |n+1,ns,T,keys,hok,hT,hTl=>fun outer inner d hso hpo hin hd hsym=>ab hok fun b1 h=>ab h fun b2 h=>ab h fun b3 h=>ab h fun b4 h=>ab h fun b5 h=>ab h fun b6 b7=>by
  have b1:ns.length=n+3:=of_decide_eq_true b1
  have b3:ns.Nodup:=of_decide_eq_true b3
  have hwT: ∀e∈T,∀k,0<w e k∧w e k≤1000000:=fun e he=>hw e (hT e he)
  have I:In outer ns inner d:=⟨b3,of_decide_eq_true b2,b1▸Nat.le_add_left 3 n,hso,hpo,hin,fun x hx y hy hne k=>ways_small hwT hTl hd hx hy (Ne.symm hne) k⟩
  have hrne:rowsOf ns d c≠ []:=fun h=>by
   cases e:pairsOf ns with
   |nil=>rw[e] at b6;cases b6
   |cons a l=>
    have m:=mem_pairs.mp (e▸ .head _:(a.1,a.2)∈pairsOf ns)
    exact nomatch (h▸(rows_mem.mpr ⟨m.1,m.2.1,m.2.2,rfl⟩:(QQ ns d c a.1 a.2,a.1,a.2)∈rowsOf ns d c):_∈([]:List (Int×Str×Str)))
  obtain⟨p,q,B⟩:=best_pair h0 h1 hrne
  have hne:p≠q:=fun e=>ltS_irrefl q (e▸B.lt)
  have hch:=(Bool.or_eq_true_iff.mp (List.all_eq_true.mp b7 (p,q) (mem_pairs.mpr ⟨B.hp,B.hq,B.lt⟩))).resolve_left fun h=>nomatch h.symm.trans (not_dom hd (fun e he=>(hwT e he c).1) B)
  refine sb hch fun j hj h=>ab h fun k1 h=>ab h fun k2 k3=> ?_
  have P:=pair_ok k1
  have hn2:((ns.length:Int) - 2)≠0:=by omega
  have hjL:j∉leftL ns p q:=fun h=>P.j (mem_left.mp h).1
  have hl:=(isS_perm (j::leftL ns p q)).symm
  obtain⟨K,Q,K1,K2⟩:=path_of n (isS (j::leftL ns p q)) (cutT T p q) (keys++[sideS p,sideS q]) k3 (fun e he=>hT e (List.mem_filter.mp he).1) (Nat.le_trans (List.length_filter_le _ _) hTl) (j::leftL ns p q) (inner' ns p q j) (newD d p q j) (sortS_is _) hl (new_inner hjL hl)
   (new_on P hd B.hp B.hq hne fun x hx=>List.mem_cons.mp (hl.mem_iff.mpr hx)) (new_symm hsym)
  refine⟨K,⟨I,hsym,p,q,j,B.pair,P.zp,P.zq,by
   rw[kvV,List.length_map]
   exact Nat.le_trans (of_decide_eq_true b5) (Nat.le_of_ble_eq_true rfl),(joinOf_jI (Nat.lt_of_le_of_lt (Nat.le_of_eq Array.size_append) (Nat.lt_of_le_of_lt (Nat.add_le_add P.zp P.zq) (Nat.le_of_ble_eq_true rfl)))).trans hj,P.j,P.left,hrne,?_⟩,K1,K2⟩
  rw[found_two (of_decide_eq_true b4) P hd B.hp B.hq hne hn2 (of_decide_eq_true k2),sortS_is]
  exact Q
end
end Mine
namespace Mine
open PySem PySem.Builtin PySem.Builtin.Str
noncomputable abbrev S (l:List Nat):Str:=⟨l.toArray⟩
theorem S_list (x:Str):S x.cps.toList=x:=by cases x;simp[S]
theorem S_cps (l:List Nat):(S l).cps.toList=l:=by simp[S]
theorem S_inj {a b:List Nat}(h:S a=S b):a=b:=by have:=congrArg (fun x:Str=>x.cps.toList) h;simpa [S] using this
theorem S_app (a b:List Nat):S a++S b=S (a++b):=by
 apply Str.ext'
 rw[Str.cps_append];simp[S]
theorem S_len (l:List Nat):(S l).length=l.length:=by simp[S,Str.length]
theorem S_sz (l:List Nat):(S l).cps.size=l.length:=by simp[S]
theorem S_beq (a b:List Nat):(S a==S b)=decide (a=b):=by
 rw[Bool.eq_iff_iff,beq_iff_eq,decide_eq_true_eq]
 exact⟨S_inj,fun h=>by rw[h]⟩
noncomputable def rep (c:Nat) (z:List Nat) (k:Nat):List Nat:=if k=c then z else [k]
theorem rep_free (c:Nat)(z:List Nat): ∀l:List Nat,c∉l→l.flatMap (rep c z)=l
 | [],_=>rfl
 |k::r,h=>by
  rw[List.flatMap_cons,rep_free c z r fun m=>h (List.mem_cons_of_mem _ m)]
  have:k≠c:=fun e=>h (e▸List.mem_cons_self ..)
  simp[rep,this]
theorem rep_join (c:Nat)(z:Str): ∀parts:List Str,(∀p∈parts,c∉p.cps.toList)→(Str.join ⟨#[c]⟩ parts).cps.toList.flatMap (rep c z.cps.toList)=(Str.join z parts).cps.toList
 | [],_=>rfl
 | [p],h=>rep_free c _ _ (h p (List.mem_singleton.mpr rfl))
 |p::q::r,h=>by
  have ih:=rep_join c z (q::r) fun a ha=>h a (List.mem_cons_of_mem _ ha)
  show(p++⟨#[c]⟩++Str.join ⟨#[c]⟩ (q::r)).cps.toList.flatMap (rep c z.cps.toList)=(p++z++Str.join z (q::r)).cps.toList
  simp only[Str.cps_append,Array.toList_append,List.flatMap_append]
  rw[ih,rep_free c _ _ (h p (List.mem_cons_self ..))]
  simp[rep]
theorem replace_S (x:List Nat)(c:Nat)(z:Str):Txt.replace (S x) ⟨#[c]⟩ z=S (x.flatMap (rep c z.cps.toList)):=by
 rw[StrLaws.replace_one]
 have h:=rep_join c z _ (StrLaws.split_free (S x) c)
 rw[StrLaws.join_split,S_cps] at h
 rw[h,S_list]
theorem hasSub_S (c:Nat)(y:List Nat):hasSub ⟨#[c]⟩ (S y)=decide (c∈y):=by
 unfold hasSub
 rw[StrLaws.found_one,S_cps]
theorem lower_S {x:List Nat}(h: ∀c∈x,c<128):Txt.lower (S x)=S (x.map PyProof.Rows.lo1):=by
 rw[PyProof.Rows.lower_ascii (by rw[S_cps];exact h)]
 apply Str.ext'
 simp[S]
theorem upper_S {x:List Nat}(h: ∀c∈x,c<128):Txt.upper (S x)=S (x.map PyProof.Rows.up1):=by
 rw[PyProof.Rows.upper_ascii (by rw[S_cps];exact h)]
 apply Str.ext'
 simp[S]
noncomputable def Low (x:List Nat):Prop:= ∀c∈x,c<128∧(c<65∨90<c)
theorem Low.app {a b:List Nat}(ha:Low a)(hb:Low b):Low (a++b):=fun c h=>(List.mem_append.mp h).elim (ha c) (hb c)
theorem Low.lower {x:List Nat}(h:Low x):Txt.lower (S x)=S x:=by
 rw[lower_S fun c hc=>(h c hc).1]
 congr 2
 exact(List.map_congr_left fun c hc=>by have:=h c hc;show PyProof.Rows.lo1 c=id c;unfold PyProof.Rows.lo1;rw[if_neg (by omega)];rfl).trans (List.map_id _)
theorem up_tab:((List.range 128).all fun c=>decide (PyProof.Rows.up1 c<128)&&((decide (65≤c)&&decide (c≤90))||decide (PyProof.Rows.lo1 (PyProof.Rows.up1 c)=c)))=true:=by decide+kernel
theorem up_lt {c:Nat}(h:c<128):PyProof.Rows.up1 c<128:=of_decide_eq_true (Bool.and_eq_true_iff.mp (List.all_eq_true.mp up_tab c (List.mem_range.mpr h))).1
theorem up_lo {c:Nat}(h:c<128)(k:c<65∨90<c):PyProof.Rows.lo1 (PyProof.Rows.up1 c)=c:=(Bool.or_eq_true_iff.mp (Bool.and_eq_true_iff.mp (List.all_eq_true.mp up_tab c (List.mem_range.mpr h))).2).elim (fun q=>k.elim (fun a=>absurd (of_decide_eq_true (Bool.and_eq_true_iff.mp q).1) (Nat.not_le_of_lt a)) fun a=>absurd (of_decide_eq_true (Bool.and_eq_true_iff.mp q).2) (Nat.not_le_of_lt a)) of_decide_eq_true
theorem Low.upper_lower {x:List Nat}(h:Low x):Txt.lower (S (x.map PyProof.Rows.up1))=S x:=by
 rw[lower_S fun c hc=>by obtain⟨b,hb,e⟩:=List.mem_map.mp hc;exact e▸up_lt (h b hb).1,List.map_map]
 exact congrArg S ((List.map_congr_left fun c hc=>up_lo (h c hc).1 (h c hc).2).trans (List.map_id' _))
theorem sub_at (x y:List Nat)(i:Nat):subAt (S x) (S y) i=((x.drop i).take y.length==y):=by rw[StrLaws.subAt_eq,S_cps,S_cps,S_len]
theorem ends_S (x y:List Nat):Txt.endswith (S x) (S y)=decide (y<:+x):=by
 unfold Txt.endswith
 rw[sub_at,S_len,S_len]
 rw[Bool.eq_iff_iff,Bool.and_eq_true,decide_eq_true_eq,decide_eq_true_eq,beq_iff_eq]
 constructor
 ·rintro ⟨h1,h2⟩
  rw[List.take_of_length_le (by simp;omega)] at h2
  exact⟨x.take (x.length - y.length),by conv=>rhs;rw[←List.take_append_drop (x.length - y.length) x,h2]⟩
 ·rintro ⟨t,rfl⟩
  refine⟨by simp,?_⟩
  rw[List.length_append,Nat.add_sub_cancel,List.drop_left,List.take_length]
theorem starts_S (x y:List Nat):Txt.startswith (S x) (S y)=decide (y<+:x):=by
 unfold Txt.startswith
 rw[sub_at,S_len,S_len]
 rw[Bool.eq_iff_iff,Bool.and_eq_true,decide_eq_true_eq,decide_eq_true_eq,beq_iff_eq,List.drop_zero]
 constructor
 ·rintro ⟨h1,h2⟩
  exact h2▸List.take_prefix _ _
 ·rintro ⟨t,rfl⟩
  refine⟨by simp,?_⟩
  rw[List.take_left]
theorem find_S {a b:List Nat}{c:Nat}(h:c∉a):Txt.find (S (a++c::b)) ⟨#[c]⟩=(a.length:Int):=by
 rcases PyProof.Rows.find_whole (S (a++c::b)) ⟨#[c]⟩ with⟨_,hn⟩|⟨i,e,hi,hn⟩
 ·exact absurd ((StrLaws.subAt_one (S (a++c::b)) c a.length).mpr (by rw[S_cps];simp)) (hn a.length)
 ·rw[e]
  have h1:(a++c::b)[i]?=some c:=by have:=(StrLaws.subAt_one (S (a++c::b)) c i).mp hi;rwa[S_cps] at this
  have:i=a.length:=by
   rcases Nat.lt_trichotomy i a.length with q|q|q
   ·rw[List.getElem?_append_left q] at h1
    exact absurd (List.mem_of_getElem? h1) h
   ·exact q
   ·exact absurd ((StrLaws.subAt_one (S (a++c::b)) c a.length).mpr (by rw[S_cps];simp)) (hn a.length q)
  rw[this]
theorem find_no {x:List Nat}{c:Nat}(h:c∉x):Txt.find (S x) ⟨#[c]⟩= -1:=by
 rcases PyProof.Rows.find_whole (S x) ⟨#[c]⟩ with⟨e,_⟩|⟨i,e,hi,hn⟩
 ·exact e
 ·have h1:x[i]?=some c:=by have:=(StrLaws.subAt_one (S x) c i).mp hi;rwa[S_cps] at this
  exact absurd (List.mem_of_getElem? h1) h
theorem slice_from (x:List Nat){i:Nat}(h:i≤x.length):Txt.slice (S x) (some (i:Int)) none=S (x.drop i):=by
 have:=PyProof.Rows.slice_closes_fromL (x:=S x) (i:=(i:Int)) (b:=(x.length:Int)) (by omega) (by rw[S_len];omega) (by rw[S_len])
 rw[eq_of_beq this,S_cps]
 congr 2
 rw[List.take_of_length_le]
 ·simp
 ·simp
theorem slice_to (x:List Nat){j:Nat}(h:j≤x.length):Txt.slice (S x) none (some (j:Int))=S (x.take j):=by
 have:=PyProof.Rows.slice_closes_toL (x:=S x) (j:=(j:Int)) (by omega) (by rw[S_len];omega)
 rw[eq_of_beq this,S_cps]
 congr 2
theorem join_S (z:Str): ∀l:List (List Nat),Txt.join z (l.map S)=S (z.cps.toList.intercalate l):=by
 intro l
 show glued z (l.map S)=_
 rw[StrLaws.glued_eq_join]
 match l with
 | []=>rfl
 |a::l=>
  induction l generalizing a with
  |nil=>simp[Str.join]
  |cons b l ih=>
   show S a++z++Str.join z ((b::l).map S)=_
   rw[ih b]
   conv=>lhs;rw[←S_list z]
   rw[S_app,S_app]
   simp[List.intercalate]
theorem mul_S (c n:Nat):Txt.mul ⟨#[c]⟩ (n:Int)=S (List.replicate n c):=by
 unfold Txt.mul
 split
 ·rename_i h
  have:n=0:=by omega
  subst this;rfl
 ·split
  ·rename_i h1 h
   have:(n:Int)=1:=by simpa [Str.length] using h
   have:n=1:=by omega
   subst this;rfl
  ·apply Str.ext'
   simp only[Int.toNat_natCast]
   apply Array.toList_inj.mp
   have: ∀(n:Nat) (b:Array Nat),((List.replicate n #[c]).foldl (· ++ ·) b).toList=b.toList++List.replicate n c:=by
    intro n
    induction n with
    |zero=>intro b;simp
    |succ n ih=>intro b;rw[List.replicate_succ,List.foldl_cons,ih,List.replicate_succ];simp
   rw[this];simp
end Mine
namespace Mine
open PySem
section
variable {C:Cfg}{nm:Names}{ρ:Rho}{n m:Nat}{d:D}{b r:List Stmt}{po:Out}
theorem ev_replace {e:Expr}{x y z:Str}{ap p p1 p2:Pos}{k1 k2:Nat}(hl:ap.endLine=p.line)(hb:baseOk e=true)(h1:ev C n nm ρ e=some (.str x))(h2:replD nm x y z=some d):ev C (n+1) nm ρ (.Call (.Attribute e "replace" ap) [.Constant (.str y) k1 p1,.Constant (.str z) k2 p2] [] p)=some d:=ev_methV hl (Nat.le_of_ble_eq_true rfl) hb h1 (show(if(Str.ofString "replace" :Str)= "replace" then replD nm x y z else(mapO (ev C n nm ρ) [.Constant (.str y) k1 p1,.Constant (.str z) k2 p2]).bind (methS (Str.ofString "replace") x))=_ from(if_pos rfl).trans h2)
theorem tst_in {c:Str}{k1:Nat}{p1 p2 p:Pos}{x:Str}{y:Str}(h:o1? ρ y=some (.str x)):tstE (ev C (n+2) nm ρ) 8 (.Compare (.Constant (.str c) k1 p1) [.In] [.Name y p2] p)=some (hasSub c x):=by
 show(Option.bind ((o1? ρ y).bind fun b=>(cmpD .In (.str c) b).map D.bool) truthD)=_
 rw[h];rfl
noncomputable abbrev txR (x:List Nat):Rho:=[("text",.fr,.str (S x))]
noncomputable def sp (tbl:List (Nat×List Nat)) (k:Nat):List Nat:=(tbl.lookup k).getD [k]
noncomputable def okTbl (tbl:List (Nat×List Nat)) (c:Nat):Bool:=tbl.all fun e=> !e.2.contains c&&decide (e.2.length≤6)
theorem sp_cons {tbl:List (Nat×List Nat)}{e:Nat×List Nat}(k:Nat):sp (e::tbl) k=if k=e.1 then e.2 else sp tbl k:=by
 unfold sp
 rw[List.lookup_cons]
 by_cases q:k=e.1
 ·rw[if_pos q,beq_iff_eq.mpr q];rfl
 ·rw[if_neg q,beq_false_of_ne q]
theorem sp_snoc {c:Nat}{z:List Nat}: ∀{tbl:List (Nat×List Nat)} (_:okTbl tbl c=true) (k:Nat),(sp tbl k).flatMap (rep c z)=sp (tbl++[(c,z)]) k
 | [],_,k=>(List.append_nil _).trans (sp_cons (tbl:=[]) (e:=(c,z)) k).symm
 |e::tbl,h,k=>ab h fun h1 h2=>by
  rw[List.cons_append,sp_cons,sp_cons]
  by_cases q:k=e.1
  ·rw[if_pos q,if_pos q]
   exact rep_free _ _ _ fun m=>ab h1 fun h3 ω=>nomatch (List.contains_iff_mem.mpr m).symm.trans ((Bool.not_eq_true' _).mp h3)
  ·rw[if_neg q,if_neg q]
   exact sp_snoc h2 k
theorem sp_len {c:Nat}: ∀{tbl:List (Nat×List Nat)} (_:okTbl tbl c=true) (k:Nat),(sp tbl k).length≤6
 | [],_,_=>Nat.le_of_ble_eq_true rfl
 |e::tbl,h,k=>ab h fun h1 h2=>by
  rw[sp_cons]
  exact ite_or (P:=fun l:List Nat=>l.length≤6) (fun ω=>ab h1 fun ω h4=>of_decide_eq_true h4) fun ω=>sp_len h2 k
theorem flat_len {α β:Type}{f:α→List β}{N:Nat}: ∀(l:List α),(∀k∈l,(f k).length≤N)→(l.flatMap f).length≤l.length*N
 | [],_=>Nat.zero_le _
 |a::l,h=>by
  rw[List.flatMap_cons,List.length_append,List.length_cons,Nat.succ_mul,Nat.add_comm]
  exact Nat.add_le_add (flat_len l fun k hk=>h k (.tail _ hk)) (h a (.head _))
theorem replD_S {x:List Nat}{c:Nat}{z:Str}(hn:nm.lookup txtMark=some .local)(hz:z.length≤8)(hne:(⟨#[c]⟩:Str)≠z)(hx:x.length≤6000):replD nm (S x) ⟨#[c]⟩ z=some (.str (S (x.flatMap (rep c z.cps.toList)))):=by
 refine(if_neg fun h=>h.elim hne fun h=>h.elim (fun h=> ?_) fun h=>h hn).trans (by rw[replace_S])
 rw[S_len] at h
 have:(x.length+1)*z.length≤6001*8:=Nat.mul_le_mul (Nat.succ_le_succ hx) hz
 omega
theorem nm_text {x:List Nat}{p:Pos}(h:nm.lookup txtMark=some .local):ev C (n+1) nm (txR x++ρ) (.Name "text" p)=some (.str (S x)):=by
 show nameD C nm (txR x++ρ) txtMark=_
 unfold nameD
 rw[h];rfl
theorem esc_step {c:Nat}{z:Str}{k1 k2 k3:Nat}{q1 q2 q3 q4 q5 q6 q7 q8 q9 q10 q11:Pos}{x:List Nat}{tbl:List (Nat×List Nat)}(hb:b= .If (.Compare (.Constant (.str ⟨#[c]⟩) k1 q1) [.In] [.Name "text" q2] q3) [.Assign [.Name "text" q4] (.Call (.Attribute (.Name "text" q5) "replace" q6) [.Constant (.str ⟨#[c]⟩) k2 q7,.Constant (.str z) k3 q8] [] q9) q10] [] q11::r)
  (hs:(C.frz q11.line= []∧C.frz q10.line= [])∧C.own q10.line=none∧q6.endLine=q9.line) (hn:nm.lookup txtMark=some .local∧canB nm "text" =true) (hz:z.length≤8) (hne:(⟨#[c]⟩:Str)≠z) (hx:x.length≤1000) (htb:okTbl tbl c=true)
  (h: ∀ρt,Runs C (n+4) (m+2) nm (txR (x.flatMap (sp (tbl++[(c,z.cps.toList)])))++ρt) r po) (ρt:Rho):Runs C (n+4) (m+2) nm (txR (x.flatMap (sp tbl))++ρt) b po:=by
 have hlen:(x.flatMap (sp tbl)).length≤6000:=Nat.le_trans (flat_len (f:=sp tbl) (N:=6) x fun k ω=>sp_len htb k) (Nat.mul_le_mul_right 6 hx)
 have e:x.flatMap (sp (tbl++[(c,z.cps.toList)]))=(x.flatMap (sp tbl)).flatMap (rep c z.cps.toList):=by
  rw[List.flatMap_assoc]
  exact congrArg x.flatMap (funext fun k=>(sp_snoc htb k).symm)
 rw[e] at h
 refine if0 hb hs.1.1 ((tst_in (x:=S (x.flatMap (sp tbl))) rfl).trans (congrArg some (hasSub_S c _))) (fun ht=> ?_) (fun ht=> ?_) h
 ·exact setN (d:= .str (S ((x.flatMap (sp tbl)).flatMap (rep c z.cps.toList)))) rfl hs.1.2 hs.2.1 hn.2 (ev_replace (x:=S (x.flatMap (sp tbl))) hs.2.2 rfl (nm_text hn.1) (replD_S hn.1 hz hne hlen)) rfl fun ρt=> .fin (E:=txR ((x.flatMap (sp tbl)).flatMap (rep c z.cps.toList)))
 ·rw[rep_free c _ _ (of_decide_eq_false ht)]
  exact .fin
end
noncomputable def tbl:Nat→List (Nat×List Nat)
 |0=>[(38,[38,97,109,112,59]),(60,[38,108,116,59]),(62,[38,103,116,59])]
 |1=>[(38,[38,97,109,112,59]),(60,[38,108,116,59]),(62,[38,103,116,59]),(34,[38,113,117,111,116,59]),(13,[38,35,49,51,59]),(10,[38,35,49,48,59]),(9,[38,35,48,57,59])]
 |2=>[(38,[38,97,109,112,59]),(62,[38,103,116,59]),(34,[38,113,117,111,116,59])]
 |3=>[(38,[38,97,109,112,59]),(60,[38,108,116,59]),(62,[38,103,116,59]),(13,[38,35,120,68,59])]
 |_=>[(38,[38,97,109,112,59]),(60,[38,108,116,59]),(34,[38,113,117,111,116,59]),(9,[38,35,120,57,59]),(10,[38,35,120,65,59]),(13,[38,35,120,68,59])]
noncomputable def escL (h:Nat) (x:List Nat):List Nat:=x.flatMap (sp (tbl h))
theorem sp_nil (x:List Nat):x.flatMap (sp [])=x:=(List.flatMap_singleton' x:x.flatMap (fun k=>[k])=x)
noncomputable def tryB (f:Fn):List Stmt:=sB (f.body.getD 0 (.Pass p0))
section
variable (F:Addr→List D→Option D)(x:List Nat)(hx:x.length≤1000)
theorem esc_start {f:Fn}{d:D}{hs:List ExceptHandler}{p:Pos}{r:List Stmt}(hp:f.params= [("text" :Str)])(hb:f.body= .Try (tryB f) hs [] [] p::r)(hf:(mkC F).frz p.line= [])(h: ∀ρt,Runs (mkC F) 40 39 f.names (txR (x.flatMap (sp []))++ρt) (tryB f) (.ret d)):runX (mkC F) 40 40 f [.str (S x)]=some d:=by
 refine runX_ret (by rw[hp];rfl) ?_
 rw[hp]
 rw[sp_nil] at h
 exact try0 hb hf (h [])
include hx
theorem esc0_ok:runX (mkC F) 40 40 (fn 16) [.str (S x)]=some (.str (S (escL 0 x))):=by
 refine esc_start F x rfl rfl rfl ?_
 refine fun ρt=>esc_step (r:=(tryB (fn 16)).drop 1) rfl ⟨⟨rfl,rfl⟩,rfl,rfl⟩ ⟨by kernel_rfl,rfl⟩ (Nat.le_of_ble_eq_true rfl) (by decide) hx rfl ?_ ρt
 refine fun ρt=>esc_step (r:=(tryB (fn 16)).drop 2) rfl ⟨⟨rfl,rfl⟩,rfl,rfl⟩ ⟨by kernel_rfl,rfl⟩ (Nat.le_of_ble_eq_true rfl) (by decide) hx rfl ?_ ρt
 refine fun ρt=>esc_step (r:=(tryB (fn 16)).drop 3) rfl ⟨⟨rfl,rfl⟩,rfl,rfl⟩ ⟨by kernel_rfl,rfl⟩ (Nat.le_of_ble_eq_true rfl) (by decide) hx rfl ?_ ρt
 exact fun ρt=>ret0 rfl rfl rfl
theorem esc1_ok:runX (mkC F) 40 40 (fn 17) [.str (S x)]=some (.str (S (escL 1 x))):=by
 refine esc_start F x rfl rfl rfl ?_
 refine fun ρt=>esc_step (r:=(tryB (fn 17)).drop 1) rfl ⟨⟨rfl,rfl⟩,rfl,rfl⟩ ⟨by kernel_rfl,rfl⟩ (Nat.le_of_ble_eq_true rfl) (by decide) hx rfl ?_ ρt
 refine fun ρt=>esc_step (r:=(tryB (fn 17)).drop 2) rfl ⟨⟨rfl,rfl⟩,rfl,rfl⟩ ⟨by kernel_rfl,rfl⟩ (Nat.le_of_ble_eq_true rfl) (by decide) hx rfl ?_ ρt
 refine fun ρt=>esc_step (r:=(tryB (fn 17)).drop 3) rfl ⟨⟨rfl,rfl⟩,rfl,rfl⟩ ⟨by kernel_rfl,rfl⟩ (Nat.le_of_ble_eq_true rfl) (by decide) hx rfl ?_ ρt
 refine fun ρt=>esc_step (r:=(tryB (fn 17)).drop 4) rfl ⟨⟨rfl,rfl⟩,rfl,rfl⟩ ⟨by kernel_rfl,rfl⟩ (Nat.le_of_ble_eq_true rfl) (by decide) hx rfl ?_ ρt
 refine fun ρt=>esc_step (r:=(tryB (fn 17)).drop 5) rfl ⟨⟨rfl,rfl⟩,rfl,rfl⟩ ⟨by kernel_rfl,rfl⟩ (Nat.le_of_ble_eq_true rfl) (by decide) hx rfl ?_ ρt
 refine fun ρt=>esc_step (r:=(tryB (fn 17)).drop 6) rfl ⟨⟨rfl,rfl⟩,rfl,rfl⟩ ⟨by kernel_rfl,rfl⟩ (Nat.le_of_ble_eq_true rfl) (by decide) hx rfl ?_ ρt
 refine fun ρt=>esc_step (r:=(tryB (fn 17)).drop 7) rfl ⟨⟨rfl,rfl⟩,rfl,rfl⟩ ⟨by kernel_rfl,rfl⟩ (Nat.le_of_ble_eq_true rfl) (by decide) hx rfl ?_ ρt
 exact fun ρt=>ret0 rfl rfl rfl
theorem esc2_ok:runX (mkC F) 40 40 (fn 18) [.str (S x)]=some (.str (S (escL 2 x))):=by
 refine esc_start F x rfl rfl rfl ?_
 refine fun ρt=>esc_step (r:=(tryB (fn 18)).drop 1) rfl ⟨⟨rfl,rfl⟩,rfl,rfl⟩ ⟨by kernel_rfl,rfl⟩ (Nat.le_of_ble_eq_true rfl) (by decide) hx rfl ?_ ρt
 refine fun ρt=>esc_step (r:=(tryB (fn 18)).drop 2) rfl ⟨⟨rfl,rfl⟩,rfl,rfl⟩ ⟨by kernel_rfl,rfl⟩ (Nat.le_of_ble_eq_true rfl) (by decide) hx rfl ?_ ρt
 refine fun ρt=>esc_step (r:=(tryB (fn 18)).drop 3) rfl ⟨⟨rfl,rfl⟩,rfl,rfl⟩ ⟨by kernel_rfl,rfl⟩ (Nat.le_of_ble_eq_true rfl) (by decide) hx rfl ?_ ρt
 exact fun ρt=>ret0 rfl rfl rfl
theorem esc3_ok:runX (mkC F) 40 40 (fn 19) [.str (S x)]=some (.str (S (escL 3 x))):=by
 refine esc_start F x rfl rfl rfl ?_
 refine fun ρt=>esc_step (r:=(tryB (fn 19)).drop 1) rfl ⟨⟨rfl,rfl⟩,rfl,rfl⟩ ⟨by kernel_rfl,rfl⟩ (Nat.le_of_ble_eq_true rfl) (by decide) hx rfl ?_ ρt
 refine fun ρt=>esc_step (r:=(tryB (fn 19)).drop 2) rfl ⟨⟨rfl,rfl⟩,rfl,rfl⟩ ⟨by kernel_rfl,rfl⟩ (Nat.le_of_ble_eq_true rfl) (by decide) hx rfl ?_ ρt
 refine fun ρt=>esc_step (r:=(tryB (fn 19)).drop 3) rfl ⟨⟨rfl,rfl⟩,rfl,rfl⟩ ⟨by kernel_rfl,rfl⟩ (Nat.le_of_ble_eq_true rfl) (by decide) hx rfl ?_ ρt
 refine fun ρt=>esc_step (r:=(tryB (fn 19)).drop 4) rfl ⟨⟨rfl,rfl⟩,rfl,rfl⟩ ⟨by kernel_rfl,rfl⟩ (Nat.le_of_ble_eq_true rfl) (by decide) hx rfl ?_ ρt
 exact fun ρt=>ret0 rfl rfl rfl
theorem esc4_ok:runX (mkC F) 40 40 (fn 20) [.str (S x)]=some (.str (S (escL 4 x))):=by
 refine esc_start F x rfl rfl rfl ?_
 refine fun ρt=>esc_step (r:=(tryB (fn 20)).drop 1) rfl ⟨⟨rfl,rfl⟩,rfl,rfl⟩ ⟨by kernel_rfl,rfl⟩ (Nat.le_of_ble_eq_true rfl) (by decide) hx rfl ?_ ρt
 refine fun ρt=>esc_step (r:=(tryB (fn 20)).drop 2) rfl ⟨⟨rfl,rfl⟩,rfl,rfl⟩ ⟨by kernel_rfl,rfl⟩ (Nat.le_of_ble_eq_true rfl) (by decide) hx rfl ?_ ρt
 refine fun ρt=>esc_step (r:=(tryB (fn 20)).drop 3) rfl ⟨⟨rfl,rfl⟩,rfl,rfl⟩ ⟨by kernel_rfl,rfl⟩ (Nat.le_of_ble_eq_true rfl) (by decide) hx rfl ?_ ρt
 refine fun ρt=>esc_step (r:=(tryB (fn 20)).drop 4) rfl ⟨⟨rfl,rfl⟩,rfl,rfl⟩ ⟨by kernel_rfl,rfl⟩ (Nat.le_of_ble_eq_true rfl) (by decide) hx rfl ?_ ρt
 refine fun ρt=>esc_step (r:=(tryB (fn 20)).drop 5) rfl ⟨⟨rfl,rfl⟩,rfl,rfl⟩ ⟨by kernel_rfl,rfl⟩ (Nat.le_of_ble_eq_true rfl) (by decide) hx rfl ?_ ρt
 refine fun ρt=>esc_step (r:=(tryB (fn 20)).drop 6) rfl ⟨⟨rfl,rfl⟩,rfl,rfl⟩ ⟨by kernel_rfl,rfl⟩ (Nat.le_of_ble_eq_true rfl) (by decide) hx rfl ?_ ρt
 exact fun ρt=>ret0 rfl rfl rfl
end
theorem reference_ok (F:Addr→List D→Option D):(([38,60,62,34,9,10,13,111]:List Nat).map fun c=>([0,1,2,3,4]:List Nat).map fun h=>runX (mkC F) 40 40 (fn 23) [.str ⟨#[c]⟩,.int ((h:Nat):Int)])=
  (([38,60,62,34,9,10,13,111]:List Nat).map fun c=>([0,1,2,3,4]:List Nat).map fun h=>some (.str (S (sp (tbl h) c)))):=by kernel_rfl
end Mine
namespace Mine
open PySem
noncomputable abbrev nofig:=Ip.noFigL
noncomputable def Fig (x:List Nat):Prop:=(nofig x=true∨Ip.endFigL x=true)∧x.length≤1000
theorem Fig.lim {x:List Nat}(h:Fig x):x.length≤lim:=Nat.le_trans h.2 (Nat.le_of_ble_eq_true rfl)
theorem search_S {x:List Nat}(h:Fig x):(Ip.search (S x)).bind truthD=some (!nofig x):=by
 unfold Ip.search nofig
 rw[S_cps,if_pos ((S_sz x).symm▸h.lim)]
 cases q:Ip.noFigL x with
 |true=>rfl
 |false=>
  rw[if_neg Bool.false_ne_true,if_pos (h.1.resolve_left fun z=>Bool.false_ne_true (q.symm.trans z))]
  rfl
noncomputable def hd46:List Nat→Bool
 |a::_=>a==46
 | []=>false
noncomputable def hdn (x:List Nat):Bool:=nofig x&&(!x.isEmpty&& !(hd46 x||x.getLast?==some 46))
theorem idx0 {n:Nat}:seqIndex? 0 (n+1)=some 0:=seq_idx (b:=0) (Nat.succ_pos n)
theorem item_str0 (a:Nat)(x:List Nat):itemD (.str (S (a::x))) (.int 0)=some (.str ⟨#[a]⟩):=by
 show((seqIndex? 0 (S (a::x)).length).bind ((S (a::x)).cps[·]?)).map (fun c=>D.str ⟨#[c]⟩)=_
 rw[S_len,show(a::x).length=x.length+1 from rfl,idx0];rfl
theorem item_strL {x:List Nat}{a b:Nat}(h:(b::x).getLast?=some a):itemD (.str (S (b::x))) (.int (-1))=some (.str ⟨#[a]⟩):=by
 show((seqIndex? (-1) (S (b::x)).length).bind ((S (b::x)).cps[·]?)).map (fun c=>D.str ⟨#[c]⟩)=_
 rw[S_len,show(b::x).length=x.length+1 from rfl,seq_idxL]
 exact congrArg (Option.map fun c=>D.str ⟨#[c]⟩) (List.getElem?_toArray.trans (List.getLast?_eq_getElem?.symm.trans h))
theorem one_eq (a b:Nat):((⟨#[a]⟩:Str)==⟨#[b]⟩)=(a==b):=(S_beq [a] [b]).trans (decide_eq_decide.mpr ⟨fun h=>(List.cons.inj h).1,fun h=>h▸rfl⟩:decide ([a]= [b])=decide (a=b))
theorem bool_or: ∀x y:Bool,boolL .Or [some x,some y]=some (x||y)
 |true,_=>rfl
 |false,true=>rfl
 |false,false=>rfl
section
variable {E:Ex1}{n:Nat}{a b e:Expr}{p:Pos}{x y:Bool}{C:Cfg}{nm:Names}{ρ:Rho}{m:Nat}{bd r r1 oe:List Stmt}{po:Out}{q:Pos}{t:Expr}{d:D}{c:Bool}
theorem tst_or (h1:tstE E n a=some x)(h2:tstE E n b=some y):tstE E (n+1) (.BoolOp .Or [a,b] p)=some (x||y):=(tst_b2 h1 h2).trans (bool_or x y)
theorem tst_and (h1:tstE E n a=some x)(h2:tstE E n b=some y):tstE E (n+1) (.BoolOp .And [a,b] p)=some (x&&y):=(tst_b2 h1 h2).trans (bool_and x y)
theorem tst_not (h:tstE E n e=some x):tstE E (n+1) (.UnaryOp .Not e p)=some (!x):=by
 show(tstE E n e).map (!·)=_
 rw[h];rfl
theorem tst_val (hp:plainT e=true)(h:E e=some (.bool x)):tstE E (n+1) e=some x:=by
 have k:(E e).bind truthD=some x:=by rw[h];rfl
 cases e<;>first|exact nf hp|exact k
theorem tst_op {op:CmpOp}{l r:Expr}{a' b':D}(hop:isIn op=false)(h1:ev C m nm ρ l=some a')(h2:ev C m nm ρ r=some b')(h3:cmpD op a' b'=some c):tstE (ev C (m+1) nm ρ) (n+1) (.Compare l [op] [r] p)=some c:=tst_cmp (ev_cmp hop h1 h2 h3)
theorem ifR (hb:bd= .If t (.Return (some e) q::r1) [] p::r)(hf:C.frz p.line= []∧C.frz q.line= [])(ht:tstE (ev C n nm ρ) 8 t=some c)(h1:c=true→ev C n nm ρ e=some d)(k:c=false→Runs C n (m+2) nm ρ r (.ret d)):Runs C n (m+2) nm ρ bd (.ret d):=by
 cases c with
 |true=>exact ifT0 hb hf.1 ht (ret0 rfl hf.2 (h1 rfl))
 |false=>exact ifF0 hb hf.1 ht (k rfl)
end
theorem not_t {b:Bool}(h:(!b)=true):b=false:=(Bool.not_eq_true' b).mp h
theorem not_f {b:Bool}(h:(!b)=false):b=true:=(Bool.not_eq_false' (b:=b)).mp h
theorem S_nil (x:List Nat):(S x==⟨#[]⟩)=x.isEmpty:=(S_beq x []).trans (by cases x<;>rfl)
theorem is_HDN_ok (F:Addr→List D→Option D){x:List Nat}(h:Fig x):runX (mkC F) 40 40 (fn 8) [.str (S x)]=some (.bool (hdn x)):=by
 refine runX_ret rfl (ifR rfl ⟨rfl,rfl⟩ ((by kernel_rfl:_=(Ip.search (S x)).bind truthD).trans (search_S h)) (fun q=> ?_) fun q=> ?_)
 ·rw[hdn,not_t q];kernel_rfl
 rw[hdn,not_f q]
 cases x with
 |nil=>exact ifT0 rfl rfl (by kernel_rfl) (ret0 rfl rfl (by kernel_rfl))
 |cons a x=>
  refine ifF0 rfl rfl ((by kernel_rfl:_=some (S (a::x)==⟨#[]⟩)).trans (congrArg some (S_nil _))) ?_
  obtain⟨z,hz⟩: ∃z,(a::x).getLast?=some z:=⟨_,List.getLast?_cons⟩
  rw[hz]
  refine ifR rfl ⟨rfl,rfl⟩ (tst_or (x:=a==46) (y:=z==46) (tst_op (a':= .str ⟨#[a]⟩) (b':= .str ⟨#[46]⟩) rfl (ev_item_name (d:= .str (S (a::x))) (i':= .int 0) rfl rfl (by kernel_rfl) (item_str0 a x)) (by kernel_rfl) (congrArg some (one_eq a 46)))
   (tst_op (a':= .str ⟨#[z]⟩) (b':= .str ⟨#[46]⟩) rfl (ev_item_name (d:= .str (S (a::x))) (i':= .int (-1)) rfl rfl (by kernel_rfl) (item_strL hz)) (by kernel_rfl) (congrArg some (one_eq z 46)))) (fun q=> ?_) fun q=>ret0 rfl rfl ?_
  ·rw[show(hd46 (a::x)||some z==some 46)=(a==46||z==46) from rfl,q];kernel_rfl
  ·rw[show(hd46 (a::x)||some z==some 46)=(a==46||z==46) from rfl,q];kernel_rfl
theorem liberal_ok (F:Addr→List D→Option D){x:List Nat}(h:Fig x):runX (mkC F) 40 40 (fn 9) [.str (S x)]=some (.bool (nofig x)):=
 runX_ret rfl (ifR rfl ⟨rfl,rfl⟩ ((by kernel_rfl:_=(Ip.search (S x)).bind truthD).trans (search_S h)) (fun q=>by rw[not_t q];kernel_rfl) fun q=>ret0 rfl rfl (by rw[not_f q];kernel_rfl))
end Mine
namespace Mine
open PySem
noncomputable def dm (a b:List Nat):Bool:=if(nofig a&&nofig b)=true then(if hd46 b=true then decide (b<:+a) else decide (a=b)) else decide (a=b)
section
variable {C:Cfg}{nm:Names}{ρ:Rho}{n:Nat}
theorem slO {E:Ex1}{e:Expr}{i:Int}(h:E e=some (.int i))(hi:small i=true):sliceE E (some e)=some (some i):=by
 show(E e).bind (fun d=>(asInt d).bind fun i=>iteO (small i=true) (some (some i)))=_
 rw[h];exact ip hi
theorem small_nat {k:Nat}(h:k≤1000000):small (k:Int)=true:=small_of (Nat.lt_of_le_of_lt h (by decide))
theorem ev_slice {v:Expr}{a b:Option Expr}{q p:Pos}{x:Str}{i j:Option Int}(h1:ev C n nm ρ v=some (.str x))(ha:sliceE (ev C n nm ρ) a=some i)(hb:sliceE (ev C n nm ρ) b=some j)(hz:x.length≤lim):ev C (n+1) nm ρ (.Subscript v (.Slice a b none q) p)=some (.str (Txt.slice x i j)):=by
 show((ev C n nm ρ v).bind fun d=>(sliceE (ev C n nm ρ) a).bind fun ia=>(sliceE (ev C n nm ρ) b).bind fun ib=>sliceD (ev C n nm ρ) none d ia ib)=_
 rw[h1,ha,hb];exact ip hz
end
theorem hd46_iff (b:List Nat):decide (([46]:List Nat)<+:b)=hd46 b:=by
 cases b with
 |nil=>rfl
 |cons a b=>exact(decide_eq_decide.mpr ⟨fun h=>(List.cons_prefix_cons.mp h).1.symm,fun h=>List.cons_prefix_cons.mpr ⟨h.symm,List.nil_prefix⟩⟩:_=decide (a=46))
theorem eq_S (a b:List Nat):cmpD .Eq (.str (S a)) (.str (S b))=some (decide (a=b)):=congrArg some (S_beq a b)
theorem S_lim {x:List Nat}(h:Fig x):(S x).length≤lim:=(S_len x).symm▸h.lim
theorem meth_lower {A:Str}{a:List Nat}(h:Txt.lower A=S a)(fa:Fig a):methS "lower" A []=some (.str (S a)):=by
 show iteO ((Txt.lower A).length≤lim) (some (D.str (Txt.lower A)))=_
 rw[h,ip (S_lim fa)]
noncomputable abbrev abR (a b:List Nat):Rho:=[("A",.fr,.str (S a)),("B",.fr,.str (S b))]
theorem domain_ok (F:Addr→List D→Option D)(hl: ∀x,Fig x→F 99 [.str (S x)]=some (.bool (nofig x))){A B:Str}{a b:List Nat}(hA:Txt.lower A=S a)(hB:Txt.lower B=S b)(fa:Fig a)(fb:Fig b):
  runX (mkC F) 40 40 (fn 10) [.str A,.str B]=some (.bool (dm a b)):=by
 refine runX_ret rfl (setN (d:= .str (S a)) (E:=[("A",.fr,.str (S a)),("B",.fr,.str B)]) rfl rfl rfl rfl (ev_methS (y:=A) (ds:=[]) rfl (Nat.le_of_ble_eq_true rfl) rfl (by decide) (by kernel_rfl) mO_nil (meth_lower hA fa)) (by kernel_rfl) fun ρt=>
  setN (d:= .str (S b)) (E:=abR a b) rfl rfl rfl rfl (ev_methS (y:=B) (ds:=[]) rfl (Nat.le_of_ble_eq_true rfl) rfl (by decide) (by kernel_rfl) mO_nil (meth_lower hB fb)) (by kernel_rfl) fun ρt=> ?_)
 have ht:tstE (ev (mkC F) 40 (fn 10).names (abR a b++ρt)) 8 (sE ((fn 10).body.getD 2 (.Pass p0)))=some (!(nofig a&&nofig b)):=tst_not (tst_and (tst_val rfl (ev_obj (a:=99) (by kernel_rfl) rfl (mO_cons (b:=D.str (S a)) (by kernel_rfl) mO_nil) (hl a fa))) (tst_val rfl (ev_obj (a:=99) (by kernel_rfl) rfl (mO_cons (b:=D.str (S b)) (by kernel_rfl) mO_nil) (hl b fb))))
 unfold dm
 cases q:(nofig a&&nofig b) with
 |false=>
  rw[q] at ht
  rw[if_neg Bool.false_ne_true]
  exact ifT0 rfl rfl ht (ifR rfl ⟨rfl,rfl⟩ (tst_op (a':= .str (S a)) (b':= .str (S b)) rfl (by kernel_rfl) (by kernel_rfl) (eq_S a b)) (fun q=>by rw[q];kernel_rfl) fun q=>ret0 rfl rfl (by rw[q];kernel_rfl))
 |true=>
  rw[q] at ht
  rw[if_pos rfl]
  refine ifF0 rfl rfl ht (setN (d:= .bool (hd46 b)) (E:=("initial_dot",.fr,.bool (hd46 b))::abR a b) rfl rfl rfl rfl (ev_methS (y:=S b) (ds:=[.str (S [46])]) rfl (Nat.le_of_ble_eq_true rfl) rfl (by decide) (by kernel_rfl) (by kernel_rfl) (congrArg (fun c=>some (D.bool c)) ((starts_S b [46]).trans (hd46_iff b)))) (by kernel_rfl) fun ρt=> ?_)
  refine ifR rfl ⟨rfl,rfl⟩ (tst_and (x:=hd46 b) (y:=decide (b<:+a)) (tst_val rfl (by kernel_rfl)) (tst_val rfl (ev_methS (y:=S a) (ds:=[.str (S b)]) rfl (Nat.le_of_ble_eq_true rfl) rfl (by decide) (by kernel_rfl) (by kernel_rfl) (congrArg (fun c=>some (D.bool c)) (ends_S a b))))) (fun q=>ab q fun q1 q2=>by rw[q1,if_pos rfl,q2];kernel_rfl) fun q1=> ?_
  refine ifR rfl ⟨rfl,rfl⟩ (tst_and (x:= !hd46 b) (y:=decide (a=b)) (tst_not (tst_val rfl (by kernel_rfl))) (tst_op (a':= .str (S a)) (b':= .str (S b)) rfl (by kernel_rfl) (by kernel_rfl) (eq_S a b))) (fun q=>ab q fun q1 q2=>by rw[not_t q1,if_neg Bool.false_ne_true,q2];kernel_rfl) fun q2=>ret0 rfl rfl ?_
  cases e:hd46 b with
  |true=>rw[e] at q1;rw[if_pos rfl,show decide (b<:+a)=false from q1];kernel_rfl
  |false=>rw[e] at q2;rw[if_neg Bool.false_ne_true,show decide (a=b)=false from q2];kernel_rfl
noncomputable def tail46:List Nat→Option (List Nat)
 | []=>none
 |a::r=>if a=46 then some r else tail46 r
theorem tail46_none: ∀{x:List Nat},tail46 x=none→46∉x
 | [],_=>fun h=>nomatch h
 |a::x,h=>by
  unfold tail46 at h
  by_cases q:a=46
  ·rw[if_pos q] at h;cases h
  ·rw[if_neg q] at h
   exact fun m=>(List.mem_cons.mp m).elim (fun(e:46=a)=>q e.symm) (tail46_none h)
theorem tail46_some {b:List Nat}: ∀{x:List Nat},tail46 x=some b→ ∃a,x=a++46::b∧46∉a
 | [],h=>nomatch h
 |a::x,h=>by
  unfold tail46 at h
  by_cases q:a=46
  ·rw[if_pos q] at h;cases h;exact⟨[],congrArg (· ::b) q,fun h=>nomatch h⟩
  ·rw[if_neg q] at h
   obtain⟨c,e,hc⟩:=tail46_some h
   exact⟨a::c,congrArg (a:: ·) e,fun m=>(List.mem_cons.mp m).elim (fun(e:46=a)=>q e.symm) hc⟩
theorem tail46_app {b:List Nat}: ∀{a:List Nat},46∉a→tail46 (a++46::b)=some b
 | [],_=>if_pos rfl
 |_::_,h=>(if_neg fun e=>h (List.mem_cons.mpr (.inl e.symm))).trans (tail46_app fun m=>h (.tail _ m))
noncomputable def localL:List Nat:=[108,111,99,97,108]
noncomputable def reachC (x b:List Nat):Bool:=hdn x&&(decide (46∈b)||decide (b=localL))
noncomputable def reachL (x:List Nat):List Nat:=(tail46 x).elim x fun b=>if reachC x b=true then 46::b else x
theorem find_sign (b:List Nat):decide (0≤Txt.find (S b) ⟨#[46]⟩)=decide (46∈b):=by
 cases hb:tail46 b with
 |none=>rw[find_no (tail46_none hb),decide_eq_false (tail46_none hb)];rfl
 |some c=>
  obtain⟨a,e,ha⟩:=tail46_some hb
  rw[e,find_S ha,decide_eq_true (Int.natCast_nonneg _),decide_eq_true (List.mem_append_right a (.head _))]
theorem slice_dot (a b:List Nat):Txt.slice (S (a++46::b)) (some ((a.length:Int)+1)) none=S b:=by
 refine(slice_from (a++46::b) (i:=a.length+1) (by rw[List.length_append,List.length_cons];omega)).trans (congrArg S ?_)
 rw[←List.drop_drop,List.drop_left];rfl
noncomputable def reachB:List Stmt:=sB ((fn 11).body.getD 1 (.Pass p0))
noncomputable abbrev biR (b:List Nat) (i:Int) (x:List Nat):Rho:=[("b",.fr,.str (S b)),("i",.fr,.int i),("h",.fr,.str (S x))]
section
variable (F:Addr→List D→Option D){a b:List Nat}(fx:Fig (a++46::b))(hh:F 92 [.str (S (a++46::b))]=some (.bool (hdn (a++46::b))))
include fx hh
theorem reach_pre {po:Out}(k: ∀ρt,tstE (ev (mkC F) 40 (fn 11).names (biR b (Txt.find (S b) ⟨#[46]⟩) (a++46::b)++ρt)) 8 (sE (reachB.getD 2 (.Pass p0)))=some (reachC (a++46::b) b)→Runs (mkC F) 40 39 (fn 11).names (biR b (Txt.find (S b) ⟨#[46]⟩) (a++46::b)++ρt) (reachB.drop 2) po)(ρt:Rho):Runs (mkC F) 40 39 (fn 11).names (([("i",.fr,.int (a.length:Int)),("h",.fr,.str (S (a++46::b)))]:Rho)++ρt) reachB po:=by
 have hal:a.length≤1000:=Nat.le_trans (Nat.le_trans (Nat.le_add_right _ _) (Nat.le_of_eq List.length_append.symm)) fx.2
 refine setN (d:= .str (S b)) (E:=biR b (a.length:Int) (a++46::b)) rfl rfl rfl rfl ((ev_slice (x:=S (a++46::b)) (i:=some ((a.length:Int)+1)) (j:=none) (by kernel_rfl) (slO (by kernel_rfl) (small_nat (k:=a.length+1) (by omega))) rfl (S_lim fx)).trans (by rw[slice_dot])) (by kernel_rfl) fun ρt=> ?_
 refine setN (d:= .int (Txt.find (S b) ⟨#[46]⟩)) (E:=biR b (Txt.find (S b) ⟨#[46]⟩) (a++46::b)) rfl rfl rfl rfl (by kernel_rfl) (by kernel_rfl) fun ρt=>k ρt ?_
 exact tst_and (tst_val rfl (ev_obj (a:=92) (by kernel_rfl) rfl (mO_cons (b:=D.str (S (a++46::b))) (by kernel_rfl) mO_nil) hh)) (tst_or (tst_op (a':= .int (Txt.find (S b) ⟨#[46]⟩)) (b':= .int 0) rfl (by kernel_rfl) (by kernel_rfl) (congrArg some (find_sign b))) (tst_op (a':= .str (S b)) (b':= .str (S localL)) rfl (by kernel_rfl) (by kernel_rfl) (eq_S b localL)))
theorem reach_dot (ρt:Rho):Runs (mkC F) 40 40 (fn 11).names (([("i",.fr,.int (a.length:Int)),("h",.fr,.str (S (a++46::b)))]:Rho)++ρt) ((fn 11).body.drop 1) (.ret (.str (S (if reachC (a++46::b) b=true then 46::b else a++46::b)))):=by
 have hc:tstE (ev (mkC F) 40 (fn 11).names (([("i",.fr,.int (a.length:Int)),("h",.fr,.str (S (a++46::b)))]:Rho)++ρt)) 8 (sE ((fn 11).body.getD 1 (.Pass p0)))=some true:=tst_op (a':= .int (a.length:Int)) (b':= .int 0) rfl (by kernel_rfl) (by kernel_rfl) (congrArg some (decide_eq_true (Int.natCast_nonneg _)))
 cases hq:reachC (a++46::b) b with
 |true=>
  rw[if_pos rfl]
  refine ifT0 rfl rfl hc (reach_pre F fx hh (fun ρt ht=>ifT0 rfl rfl (hq▸ht) (ret0 rfl rfl (ev_bin (a':= .str (S [46])) (b':= .str (S b)) (by kernel_rfl) (by kernel_rfl) ?_))) ρt)
  have:=fx.2
  rw[List.length_append,List.length_cons] at this
  refine(ip (?_:(S [46]).length+(S b).length≤lim)).trans (congrArg (fun x=>some (D.str x)) (S_app [46] b))
  rw[S_len,S_len,List.length_singleton,lim]
  omega
 |false=>
  rw[if_neg Bool.false_ne_true]
  exact if0 (c:=true) (E:=[("h",.fr,.str (S (a++46::b)))]) rfl rfl hc (fun ω=>reach_pre F fx hh (fun ρt ht=>ifF0 rfl rfl (hq▸ht) (.nil (by kernel_rfl))) ρt) (fun h=>nomatch h) fun ρt=>ret0 rfl rfl (by kernel_rfl)
end
theorem reach_ok (F:Addr→List D→Option D){x:List Nat}(fx:Fig x)(hh:F 92 [.str (S x)]=some (.bool (hdn x))):runX (mkC F) 40 40 (fn 11) [.str (S x)]=some (.str (S (reachL x))):=by
 refine runX_ret rfl (setN (d:= .int (Txt.find (S x) ⟨#[46]⟩)) (E:=[("i",.fr,.int (Txt.find (S x) ⟨#[46]⟩)),("h",.fr,.str (S x))]) rfl rfl rfl rfl (by kernel_rfl) (by kernel_rfl) fun ρt=> ?_)
 unfold reachL
 cases ht:tail46 x with
 |none=>
  rw[find_no (tail46_none ht)]
  exact ifF0 rfl rfl (by kernel_rfl) (ret0 rfl rfl (by kernel_rfl))
 |some b=>
  obtain⟨a,e,ha⟩:=tail46_some ht
  subst e
  rw[find_S ha]
  exact reach_dot F fx hh ρt
end Mine
namespace Mine
open PySem
noncomputable def okd (c:Nat):Bool:= !PySem.Sre.isDigit c&&decide (c<128∧(c<65∨90<c))
noncomputable def okc (c:Nat):Bool:=c !=46&&okd c
structure Lab (l:List Nat):Prop where
 ne:l≠ []
 ok: ∀c∈l,okc c=true
 len:l.length≤3
noncomputable def ynetL:List Nat:=[121,46,110,101,116]
noncomputable def yxL:List Nat:=[121,46,120,108,111,99,97,108]
noncomputable def Gd (g:List Nat):Prop:=g=localL∨g=ynetL∨g=yxL
noncomputable def nmL (g:List Nat):List (List Nat)→List Nat
 | []=>g
 |l::r=>l++46::nmL g r
noncomputable def Labs (ls:List (List Nat)):Prop:=(∀l∈ls,Lab l)∧ls.length≤8
variable {g:List Nat}{ls:List (List Nat)}
theorem Labs.tail {l:List Nat}(h:Labs (l::ls)):Labs ls:=⟨fun x hx=>h.1 x (.tail _ hx),Nat.le_of_succ_le h.2⟩
theorem Gd.all {P:List Nat→Prop}(h:Gd g)(a:P localL)(b:P ynetL)(c:P yxL):P g:=h.elim (fun e=>e▸a) fun h=>h.elim (fun e=>e▸b) fun e=>e▸c
theorem Gd.okd (h:Gd g): ∀c∈g,okd c=true:=h.all (P:=fun g=> ∀c∈g,Mine.okd c=true) (by decide) (by decide) (by decide)
theorem nm_okd (hg:Gd g): ∀{ls:List (List Nat)},(∀l∈ls,Lab l)→ ∀c∈nmL g ls,okd c=true
 | [],_,c,h=>hg.okd c h
 |_::_,hl,c,h=>(List.mem_append.mp h).elim (fun h=>ab ((hl _ (.head _)).ok c h) fun ω q=>q) fun h=>(List.mem_cons.mp h).elim (fun e=>e▸rfl) (nm_okd hg (fun x hx=>hl x (.tail _ hx)) c)
theorem nm_len (hg:Gd g): ∀{ls:List (List Nat)},(∀l∈ls,Lab l)→(nmL g ls).length≤8+4*ls.length
 | [],_=>hg.all (P:=fun g=>g.length≤8) (by decide) (by decide) (by decide)
 |l::r,hl=>by
  have h1:=nm_len hg fun x hx=>hl x (.tail _ hx)
  have h2:=(hl l (.head _)).len
  show(l++46::nmL g r).length≤8+4*(r.length+1)
  rw[List.length_append,List.length_cons]
  omega
theorem nofig_of: ∀{x:List Nat},(∀c∈x,PySem.Sre.isDigit c=false)→nofig x=true
 | [],_=>rfl
 | [_],_=>rfl
 |a::b::r,h=>by
  show(!(a==46&&PySem.Sre.isDigit b)&&nofig (b::r))=true
  rw[h b (.tail _ (.head _)),nofig_of (x:=b::r) fun c hc=>h c (.tail _ hc),Bool.and_false];rfl
theorem okd_fig {c:Nat}(h:okd c=true):PySem.Sre.isDigit c=false:=ab h fun q ω=>not_t q
theorem okd_nofig {x:List Nat}(h: ∀c∈x,okd c=true):nofig x=true:=nofig_of fun c hc=>okd_fig (h c hc)
theorem okd_low {x:List Nat}(h: ∀c∈x,okd c=true):Low x:=fun c hc=>ab (h c hc) fun ω q=>of_decide_eq_true q
theorem nm_nofig (hg:Gd g)(hl:Labs ls):nofig (nmL g ls)=true:=okd_nofig (nm_okd hg hl.1)
theorem nm_short (hg:Gd g)(hl:Labs ls):(nmL g ls).length≤40:=Nat.le_trans (nm_len hg hl.1) (Nat.add_le_add_left (Nat.mul_le_mul_left 4 hl.2) 8)
theorem nm_fig (hg:Gd g)(hl:Labs ls):Fig (nmL g ls):=⟨.inl (nm_nofig hg hl),Nat.le_trans (nm_short hg hl) (Nat.le_of_ble_eq_true rfl)⟩
theorem nm_last (hg:Gd g): ∀{ls:List (List Nat)},∃c,(nmL g ls).getLast?=some c∧c≠46∧c≠120
 | []=>hg.all (P:=fun g=> ∃c,g.getLast?=some c∧c≠46∧c≠120) ⟨_,rfl,by decide⟩ ⟨_,rfl,by decide⟩ ⟨_,rfl,by decide⟩
 |l::r=>by
  obtain⟨c,h1,h2⟩:=nm_last hg (ls:=r)
  refine⟨c,?_,h2⟩
  show(l++46::nmL g r).getLast?=_
  rw[List.getLast?_append,List.getLast?_cons,h1];rfl
theorem lab_no {l:List Nat}(h:Lab l):46∉l:=fun m=>nomatch h.ok 46 m
theorem nm_head (hg:Gd g)(hl:Labs ls):hd46 (nmL g ls)=false:=by
 cases ls with
 |nil=>exact hg.all (P:=fun g=>hd46 g=false) rfl rfl rfl
 |cons l r=>
  have q:=hl.1 l (.head _)
  cases l with
  |nil=>exact absurd rfl q.ne
  |cons c l=>exact beq_false_of_ne fun e=>lab_no q (e▸ .head _)
theorem nm_hdn (hg:Gd g)(hl:Labs ls):hdn (nmL g ls)=true:=by
 obtain⟨c,h1,h2⟩:=nm_last hg (ls:=ls)
 unfold hdn
 rw[nm_nofig hg hl,nm_head hg hl,h1]
 have e:(nmL g ls).isEmpty=false:=by
  cases q:nmL g ls with
  |nil=>rw[q] at h1;cases h1
  |cons=>rfl
 rw[e]
 show(!(c==46))=true
 rw[beq_false_of_ne h2.1];rfl
theorem nm_dot (hg:Gd g): ∀ls:List (List Nat),(decide (46∈nmL g ls)||decide (nmL g ls=localL))=true
 | []=>hg.all (P:=fun g=>(decide (46∈g)||decide (g=localL))=true) rfl rfl rfl
 |l::_=>Bool.or_eq_true_iff.mpr (.inl (decide_eq_true (List.mem_append_right l (.head _))))
theorem nm_reach {l:List Nat}(hg:Gd g)(hl:Labs (l::ls)):reachL (nmL g (l::ls))=46::nmL g ls:=by
 unfold reachL
 rw[show tail46 (nmL g (l::ls))=some (nmL g ls) from tail46_app (lab_no (hl.1 l (.head _)))]
 exact if_pos (Bool.and_eq_true_iff.mpr ⟨nm_hdn hg hl,nm_dot hg ls⟩)
theorem g_le (g:List Nat): ∀ls:List (List Nat),g.length≤(nmL g ls).length
 | []=>Nat.le_refl _
 |a::r=>Nat.le_trans (g_le g r) (Nat.le_trans (Nat.le_succ _) (Nat.le_trans (Nat.le_add_left _ a.length) (Nat.le_of_eq (List.length_append (bs:=46::nmL g r)).symm)))
theorem nm_eq {l:List Nat}:nmL g (l::ls)≠g:=fun h=>by
 have h1:=congrArg List.length h
 have h2:=g_le g ls
 rw[show nmL g (l::ls)=l++46::nmL g ls from rfl,List.length_append,List.length_cons] at h1
 omega
noncomputable def lad (g:List Nat):List (List Nat)→List (List Nat)
 | []=>[g]
 |l::r=>nmL g (l::r)::lad g r
noncomputable def strL (l:List (List Nat)):D:= .list (l.map fun x=> .str (S x))
theorem last_item {l:List (List Nat)}{x:List Nat}:itemD (strL (l++[x])) (.int (-1))=some (.str (S x)):=item_last (by rw[List.map_append];exact List.getLast?_concat)
theorem neq_S (a b:List Nat):cmpD .NotEq (.str (S a)) (.str (S b))=some (!decide (a=b)):=congrArg (Option.map (!·)) (eq_S a b)
noncomputable def ladB:List Stmt:=sB ((fn 24).body.getD 1 (.Pass p0))
noncomputable abbrev ladR (g:List Nat) (ru:List (List Nat)):Rho:=[("rungs",.o1,strL ru),("ground",.fr,.str (S g))]
noncomputable def ladS (g:List Nat) (st:List (List Nat)×List (List Nat)):List (List Nat)×List (List Nat):=match st.2 with
 | []=>st
 |l::r=>(st.1++[nmL g (l::r)],r)
noncomputable def ladE (g:List Nat) (st:List (List Nat)×List (List Nat)):List (List Nat):=st.1++[nmL g st.2]
noncomputable def ladN (g:List Nat) (ls:List (List Nat)):Nat→List (List Nat)×List (List Nat)
 |0=>([],ls)
 |n+1=>ladS g (ladN g ls n)
theorem lad_ok (hl:Labs ls): ∀n,Labs (ladN g ls n).2∧(ladN g ls n).1.length≤n
 |0=>⟨hl,Nat.le_refl _⟩
 |n+1=>by
  obtain⟨h1,h2⟩:=lad_ok hl n
  unfold ladN
  generalize ladN g ls n=st at*
  obtain⟨dn,cur⟩:=st
  cases cur with
  |nil=>exact⟨h1,Nat.le_succ_of_le h2⟩
  |cons l r=>exact⟨h1.tail,Nat.le_trans (Nat.le_of_eq List.length_append) (Nat.succ_le_succ h2)⟩
theorem lad4: ∀{ls:List (List Nat)},ls.length≤4→ladE g (ladN g ls 4)=lad g ls
 | [],_=>rfl
 | [_],_=>rfl
 | [_,_],_=>rfl
 | [_,_,_],_=>rfl
 | [_,_,_,_],_=>rfl
 |_::_::_::_::_::_,h=>nomatch h
section
variable {F:Addr→List D→Option D}(hr: ∀x,Fig x→F 113 [.str (S x)]=some (.str (S (reachL x))))(hg:Gd g)
include hr hg
theorem lad_turn: ∀{st:List (List Nat)×List (List Nat)} (_:Labs st.2∧st.1.length≤4) (ρt:Rho),Runs (mkC F) 40 39 (fn 24).names (ladR g (ladE g st)++ρt) ladB (.next (ladR g (ladE g (ladS g st))))
 |(dn,[]),_,ρt=>ifF0 rfl rfl (tst_op (a':= .str (S g)) (b':= .str (S g)) rfl (ev_item_name (d:=strL (dn++[g])) (i':= .int (-1)) rfl (by kernel_rfl) (by kernel_rfl) last_item) (by kernel_rfl) ((neq_S g g).trans (by rw[decide_eq_true rfl];rfl))) .fin
 |(dn,l::r),h,ρt=>by
  refine if0 (c:=true) rfl rfl (tst_op (a':= .str (S (nmL g (l::r)))) (b':= .str (S g)) rfl (ev_item_name (d:=strL (dn++[nmL g (l::r)])) (i':= .int (-1)) rfl (by kernel_rfl) (by kernel_rfl) last_item) (by kernel_rfl) ((neq_S _ g).trans (by rw[decide_eq_false nm_eq];rfl))) (fun ω=> ?_) (fun h=>nomatch h) fun ρt=> .fin
  refine app0 (ds:=(dn++[nmL g (l::r)]).map fun x=> .str (S x)) (d:= .str (S (nmL g r))) rfl rfl rfl (by kernel_rfl) ((ev_slice (x:=S (46::nmL g r)) (i:=some ((1:Nat):Int)) (j:=none) ?_ (by kernel_rfl) rfl ?_).trans ?_) ?_ ?_ fun ρt=> .fin
  ·exact(ev_obj (a:=113) (by kernel_rfl) rfl (mO_cons (b:=D.str (S (nmL g (l::r)))) (ev_item_name (d:=strL (dn++[nmL g (l::r)])) (i':= .int (-1)) rfl (by kernel_rfl) (by kernel_rfl) last_item) mO_nil) (hr _ (nm_fig hg h.1))).trans (by rw[nm_reach hg h.1])
  ·rw[S_len]
   exact Nat.le_trans (Nat.succ_le_succ (nm_short hg h.1.tail)) (Nat.le_of_ble_eq_true rfl)
  ·rw[slice_from (46::nmL g r) (i:=1) (Nat.succ_le_succ (Nat.zero_le _))];rfl
  ·rw[List.length_map,List.length_append]
   exact Nat.le_trans (Nat.succ_le_succ h.2) (Nat.le_of_ble_eq_true rfl)
  ·rw[show((dn++[nmL g (l::r)]).map fun x=>D.str (S x))++[D.str (S (nmL g r))]=(dn++[nmL g (l::r)]++[nmL g r]).map fun x=>D.str (S x) from(List.map_append (l₂:=[nmL g r])).symm]
   kernel_rfl
theorem ladder_ok (hl:Labs ls)(h4:ls.length≤4):runX (mkC F) 40 40 (fn 24) [.str (S (nmL g ls)),.str (S g)]=some (strL (lad g ls)):=by
 refine runX_ret rfl (setO (d:=strL [nmL g ls]) (E:=ladR g [nmL g ls]) rfl rfl rfl rfl (by kernel_rfl) (by kernel_rfl) (by kernel_rfl) fun ρt=> ?_)
 refine forI D.int (fun dn=>ladR g (ladE g (ladN g ls dn.length))) [0,1,2,3] rfl rfl (by kernel_rfl) rfl (by kernel_rfl) (fun dn x tl e ρt=>⟨_,rfl,?_⟩) fun ρt=>retF [("rungs",.fr,strL (lad g ls))] rfl ?_ fun ρt=>(by kernel_rfl)
 ·have hd:dn.length≤4:=Nat.le_trans (Nat.le_add_right _ _) (Nat.le_of_eq ((List.length_append (as:=dn) (bs:=x::tl)).symm.trans (congrArg List.length e.symm)))
  have h:=lad_ok (g:=g) hl dn.length
  rw[List.length_append]
  exact .on _ (by kernel_rfl) (lad_turn hr hg ⟨h.1,Nat.le_trans h.2 hd⟩)
 ·rw[←lad4 h4];kernel_rfl
end
end Mine
namespace Mine
open PySem
section
variable {g:List Nat}{ls ms r:List (List Nat)}
noncomputable def dots:List (List Nat)→List Nat
 | []=>[]
 |l::r=>l++46::dots r
theorem dots_app: ∀(a b:List (List Nat)),dots (a++b)=dots a++dots b
 | [],_=>rfl
 |l::a,b=>(congrArg (fun x=>l++46::x) (dots_app a b)).trans (List.append_assoc l (46::dots a) (dots b)).symm
theorem nm_dots (g:List Nat): ∀(a b:List (List Nat)),nmL g (a++b)=dots a++nmL g b
 | [],_=>rfl
 |l::a,b=>(congrArg (fun x=>l++46::x) (nm_dots g a b)).trans (List.append_assoc l (46::dots a) (nmL g b)).symm
theorem cut_eq {a b x y:List Nat}(ha:46∉a)(hb:46∉b)(h:a++46::x=b++46::y):a=b∧x=y:=by
 have h1:=tail46_app (b:=x) ha
 rw[h,tail46_app (b:=y) hb] at h1
 have e:=Option.some.inj h1
 rw[e] at h
 exact⟨List.append_cancel_right h,e.symm⟩
theorem nm_inj: ∀{r ms:List (List Nat)},(∀l∈r,Lab l)→(∀l∈ms,Lab l)→nmL g r=nmL g ms→r=ms
 | [],[],_,_,_=>rfl
 |_::_,[],_,_,h=>absurd h nm_eq
 | [],_::_,_,_,h=>absurd h.symm nm_eq
 |l::r,m::ms,hr,hm,h=>by
  obtain⟨h1,h2⟩:=cut_eq (lab_no (hr l (.head _))) (lab_no (hm m (.head _))) h
  rw[h1,nm_inj (fun x hx=>hr x (.tail _ hx)) (fun x hx=>hm x (.tail _ hx)) h2]
theorem suf_cut {X Y:List Nat}: ∀{m:List Nat},46∉m→46::X<:+m++46::Y→X=Y∨46::X<:+Y
 | [],_,h=>(List.suffix_cons_iff.mp h).imp (fun h=>(List.cons.inj h).2) id
 |a::m,hm,h=>(List.suffix_cons_iff.mp h).elim (fun h=>absurd ((List.cons.inj h).1▸ .head _) hm) (suf_cut fun q=>hm (.tail _ q))
theorem suf_words (hr: ∀l∈r,Lab l): ∀{ms:List (List Nat)},(∀l∈ms,Lab l)→46::nmL g r<:+nmL g ms→r<:+ms
 | [],_,h=>absurd (Nat.le_trans h.length_le (g_le g r)) (Nat.not_succ_le_self _)
 |m::ms,hm,h=>by
  have hm': ∀l∈ms,Lab l:=fun x hx=>hm x (.tail _ hx)
  exact(suf_cut (lab_no (hm m (.head _))) h).elim (fun h=>nm_inj hr hm' h▸List.suffix_cons _ _) fun h=>(suf_words hr hm' h).trans (List.suffix_cons _ _)
theorem dots_end: ∀{t:List (List Nat)},t≠ []→ ∃d,dots t=d++[46]
 | [],h=>absurd rfl h
 | [l],_=>⟨l,rfl⟩
 |l::m::t,_=>by
  obtain⟨d,h⟩:=dots_end (t:=m::t) (fun h=>nomatch h)
  exact⟨l++46::d,(congrArg (fun x=>l++46::x) h).trans (List.append_assoc l (46::d) [46]).symm⟩
theorem words (hr: ∀l∈r,Lab l)(hm: ∀l∈ms,Lab l):(decide (nmL g r=nmL g ms)||decide (46::nmL g r<:+nmL g ms))=decide (r<:+ms):=by
 rw[Bool.eq_iff_iff,Bool.or_eq_true,decide_eq_true_eq,decide_eq_true_eq,decide_eq_true_eq]
 refine⟨fun h=>h.elim (fun h=>nm_inj hr hm h▸List.suffix_refl _) (suf_words hr hm),fun z0=> ?_⟩
 obtain⟨t,e⟩:=z0
 subst e
 by_cases ht:t= []
 ·exact .inl (ht▸rfl)
 ·obtain⟨d,hd⟩:=dots_end ht
  exact .inr ⟨d,by rw[nm_dots,hd,List.append_assoc];rfl⟩
end
noncomputable def cut (ms:List (List Nat)):List (List Nat)→List (List Nat)
 | []=>[]
 |x::r=>x::(if r<:+ms then [] else cut ms r)
noncomputable def partB:List Stmt:=sB ((fn 25).body.getD 0 (.Pass p0))
noncomputable def partT:Expr:=sT ((fn 25).body.getD 0 (.Pass p0))
theorem for_ret_on {C:Cfg}{n m:Nat}{nm:Names}{ρ E:Rho}{t:Expr}{bd:List Stmt}{ds:List D}{d:D}(h:vals ρ E=vals E E)(k:exFor (sx C (ev C n) m) nm t bd (E++ρ) ds=some (.ret d)):exFor (sx C (ev C n) m) nm t bd ρ ds=some (.ret d):=by
 obtain⟨_,e,z⟩:=exFor_e (sx_e m nm) t bd ds ρ (E++ρ) (Has.app h) _ k
 exact(z:_=Out.ret d)▸e
theorem meth_upper {A:Str}{a:List Nat}(h:Txt.upper A=S a)(fa:a.length≤1000):methS "upper" A []=some (.str (S a)):=by
 show iteO ((Txt.upper A).length≤lim) (some (D.str (Txt.upper A)))=_
 rw[h,ip ((S_len a).symm▸Nat.le_trans fa (Nat.le_of_ble_eq_true rfl))]
theorem len_S {x:List Nat}(h:x.length≤lim):biD "len" [.str (S x)]=some (.int (x.length:Int)):=by
 show iteO ((S x).length≤lim) (some (D.int ((S x).length:Int)))=_
 rw[S_len];exact ip h
section
variable {F:Addr→List D→Option D}(hd: ∀(A B:Str) (a b:List Nat),Txt.lower A=S a→Txt.lower B=S b→Fig a→Fig b→F 106 [.str A,.str B]=some (.bool (dm a b))){g:List Nat}(hg:Gd g){ls ms r dn:List (List Nat)}(hl:Labs ls)(hm:Labs ms)
noncomputable abbrev partR (g:List Nat) (tl ls ms:List (List Nat)):Rho:=[("rungs",.fr,strL (nmL g ls::tl)),("other",.fr,.str (S (nmL g ms)))]
noncomputable abbrev partA (g:List Nat) (tl ls ms r:List (List Nat)):Rho:=("at",.fr,.str (S (nmL g r)))::partR g tl ls ms
include hg
theorem dot_okd (hl:Labs r): ∀c∈46::nmL g r,okd c=true:=fun c h=>(List.mem_cons.mp h).elim (fun e=>e▸rfl) (nm_okd hg hl.1 c)
include hm in
theorem dm_words (hr:Labs r):(decide (nmL g r=nmL g ms)||dm (nmL g ms) (46::nmL g r))=decide (r<:+ms):=by
 rw[←words (g:=g) hr.1 hm.1]
 refine congrArg (decide (nmL g r=nmL g ms)|| ·) ?_
 unfold dm
 rw[nm_nofig hg hm,okd_nofig (dot_okd hg hr)]
 rfl
include hm in
theorem upper_nm:methS "upper" (S (nmL g ms)) []=some (.str (S ((nmL g ms).map PyProof.Rows.up1))):=meth_upper (upper_S fun c hc=>(okd_low (nm_okd hg hm.1) c hc).1) ((List.length_map _).symm▸(nm_fig hg hm).2)
include hm in
theorem lower_up:Txt.lower (S ((nmL g ms).map PyProof.Rows.up1))=S (nmL g ms):=(okd_low (nm_okd hg hm.1)).upper_lower
theorem dot_fig (hr:Labs r):Fig (46::nmL g r):=⟨.inl (okd_nofig (dot_okd hg hr)),Nat.le_trans (Nat.succ_le_succ (nm_short hg hr)) (Nat.le_of_ble_eq_true rfl)⟩
include hd hm in
theorem part_test {tl:List (List Nat)}(hr:Labs r)(ρt:Rho):tstE (ev (mkC F) 40 (fn 25).names (partA g tl ls ms r++ρt)) 8 (sE (partB.getD 0 (.Pass p0)))=some (decide (r<:+ms)):=by
 rw[←dm_words hg hm hr]
 refine tst_or (tst_op (a':= .str (S (nmL g r))) (b':= .str (S (nmL g ms))) rfl (by kernel_rfl) (by kernel_rfl) (eq_S _ _)) (tst_val rfl (ev_obj (a:=106) (by kernel_rfl) rfl (mO_cons (b:=D.str (S ((nmL g ms).map PyProof.Rows.up1))) ?_ (mO_cons (b:=D.str (S (46::nmL g r))) ?_ mO_nil)) (hd _ _ (nmL g ms) (46::nmL g r) (lower_up hg hm) (okd_low (dot_okd hg hr)).lower (nm_fig hg hm) (dot_fig hg hr))))
 ·exact ev_methS (y:=S (nmL g ms)) (ds:=[]) rfl (Nat.le_of_ble_eq_true rfl) rfl (by decide) (by kernel_rfl) mO_nil (upper_nm hg hm)
 ·refine ev_bin (a':= .str (S [46])) (b':= .str (S (nmL g r))) (by kernel_rfl) (by kernel_rfl) ((ip (?_:(S [46]).length+(S (nmL g r)).length≤lim)).trans (congrArg (fun x=>some (D.str x)) (S_app [46] (nmL g r))))
  rw[S_len,S_len,Nat.add_comm]
  exact Nat.le_trans (Nat.succ_le_succ (nm_short hg hr)) (Nat.le_of_ble_eq_true rfl)
include hl in
theorem part_out {tl:List (List Nat)}(hls:ls=dn++r)(hr:Labs r)(ρt:Rho):ev (mkC F) 40 (fn 25).names (partA g tl ls ms r++ρt) (sE ((sB (partB.getD 0 (.Pass p0))).getD 0 (.Pass p0)))=some (.str (S (dots dn))):=by
 have h1:nmL g ls=dots dn++nmL g r:=hls▸nm_dots g dn r
 have h2:((nmL g ls).length:Int) - ((nmL g r).length:Int)=((dots dn).length:Int):=by
  rw[h1,List.length_append]
  omega
 have hz:(dots dn).length≤1000:=Nat.le_trans (Nat.le_trans (Nat.le_add_right _ _) (Nat.le_of_eq (List.length_append.symm.trans (congrArg List.length h1.symm)))) (nm_fig hg hl).2
 refine Eq.trans (ev_slice (x:=S (nmL g ls)) (i:=none) (j:=some ((dots dn).length:Int)) (ev_item_name (d:=strL (nmL g ls::tl)) (i':= .int 0) rfl (by kernel_rfl) (by kernel_rfl) (item0 _ _)) rfl (slO (ev_bin (a':= .int ((nmL g ls).length:Int)) (b':= .int ((nmL g r).length:Int)) ?_ ?_ (congrArg (fun i=>some (D.int i)) h2)) (small_nat (Nat.le_trans hz (Nat.le_of_ble_eq_true rfl)))) (S_lim (nm_fig hg hl))) ?_
 ·exact ev_bi (n':= "len") (d:= .str (S (nmL g ls))) (by kernel_rfl) rfl (ev_item_name (d:=strL (nmL g ls::tl)) (i':= .int 0) rfl (by kernel_rfl) (by kernel_rfl) (item0 _ _)) (len_S (nm_fig hg hl).lim)
 ·exact ev_bi_name (n':= "len") (d:= .str (S (nmL g r))) (by kernel_rfl) (by kernel_rfl) (len_S (nm_fig hg hr).lim)
 ·rw[slice_to (nmL g ls) (j:=(dots dn).length) (h1▸(Nat.le_trans (Nat.le_add_right _ _) (Nat.le_of_eq List.length_append.symm))),h1,List.take_left]
include hd hl hm
theorem part_loop {tl:List (List Nat)}: ∀(r dn:List (List Nat)) (_:ls=dn++r) (ρt:Rho),exFor (sx (mkC F) (ev (mkC F) 40) 39) (fn 25).names partT partB (partR g tl ls ms++ρt) ((lad g r).map fun x=> .str (S x))=some (.ret (.str (S (dots (dn++(if r<:+ms then [] else cut ms r))))))
 | [],dn,h1,ρt=>by
   have hr:Labs []:=⟨(fun l h=>nomatch h),Nat.zero_le _⟩
   refine turn_ret (ρ₁:=setV (partR g tl ls ms++ρt) "at" .fr (.str (S (nmL g [])))) rfl (.on (partA g tl ls ms []) (by kernel_rfl) fun ρt=>ifT0 rfl rfl ((part_test hd hg hm hr ρt).trans (by rw[decide_eq_true List.nil_suffix])) (ret0 rfl rfl ((part_out hg hl h1 hr ρt).trans ?_)))
   rw[if_pos List.nil_suffix,List.append_nil]
 |x::r,dn,h1,ρt=>by
  have hr:Labs (x::r):=⟨fun l h=>hl.1 l (h1▸List.mem_append_right _ h),Nat.le_trans (Nat.le_trans (Nat.le_add_left _ _) (Nat.le_of_eq (List.length_append.symm.trans (congrArg List.length h1.symm)))) hl.2⟩
  by_cases q:x::r<:+ms
  ·refine turn_ret (ρ₁:=setV (partR g tl ls ms++ρt) "at" .fr (.str (S (nmL g (x::r))))) rfl (.on (partA g tl ls ms (x::r)) (by kernel_rfl) fun ρt=>ifT0 rfl rfl ((part_test hd hg hm hr ρt).trans (by rw[decide_eq_true q])) (ret0 rfl rfl ((part_out hg hl h1 hr ρt).trans ?_)))
   rw[if_pos q,List.append_nil]
  ·rw[if_neg q]
   have h2:ls=(dn++[x])++r:=h1.trans (List.append_assoc dn [x] r).symm
   have e:dn++cut ms (x::r)=(dn++[x])++(if r<:+ms then [] else cut ms r):=(List.append_assoc dn [x] _).symm
   rw[e]
   exact turn_goP (P:=(· =some (.ret _))) (ρ₁:=setV (partR g tl ls ms++ρt) "at" .fr (.str (S (nmL g (x::r))))) (E:=partR g tl ls ms) rfl (.on (partA g tl ls ms (x::r)) (by kernel_rfl) fun ρt=>ifF0 rfl rfl ((part_test hd hg hm hr ρt).trans (by rw[decide_eq_false q])) (.nil (by kernel_rfl))) fun ρ' h=>for_ret_on h (part_loop r (dn++[x]) h2 ρ')
theorem part_ok {l:List Nat}(hls:ls=l::r)(h4:r.length≤4):runX (mkC F) 40 40 (fn 25) [strL (lad g ls),.str (S (nmL g ms))]=some (.str (S (dots (cut ms ls)))):=by
 have hi:iterE (ev (mkC F) 40) (mkC F) (fn 25).names (partR g (lad g r) (l::r) ms) partT (sE ((fn 25).body.getD 0 (.Pass p0)))=some ((lad g r).map fun x=> .str (S x)):=by
  refine iter_sub (d:=strL (lad g r)) ?_ rfl
  match r,h4 with
  | [],_=>kernel_rfl
  | [_],_=>kernel_rfl
  | [_,_],_=>kernel_rfl
  | [_,_,_],_=>kernel_rfl
  | [_,_,_,_],_=>kernel_rfl
  |_::_::_::_::_::_,h=>exact nomatch h
 subst hls
 exact runX_ret rfl (forR0 rfl rfl hi (part_loop hd hg hl hm (tl:=lad g r) r [l] rfl []))
end
end Mine
namespace Mine
open PySem
theorem list4 {α:Type}{P:List α→Prop}(h0:P [])(h1: ∀a,P [a])(h2: ∀a b,P [a,b])(h3: ∀a b c,P [a,b,c])(h4: ∀a b c d,P [a,b,c,d]): ∀{l:List α},l.length≤4→P l
 | [],_=>h0
 | [_],_=>h1 _
 | [_,_],_=>h2 _ _
 | [_,_,_],_=>h3 _ _ _
 | [_,_,_,_],_=>h4 _ _ _ _
 |_::_::_::_::_::_,h=>nomatch h
@[elab_as_elim] theorem nat3 {P:Nat→Prop} (h0:P 0) (h1:P 1) (h2:P 2) (h3:P 3): ∀{n:Nat},n≤3→P n
  |0,_=>h0
  |1,_=>h1
  |2,_=>h2
  |3,_=>h3
noncomputable def pad (c:List Int) (b:Nat):List Int:=c++List.replicate (b+1 - c.length) 0
noncomputable def bump (c:List Int) (b:Nat):List Int:=(pad c b).set b ((pad c b).getD b 0+1)
noncomputable def en:Nat→List Int→List (Nat×Int)
 |_,[]=>[]
 |k,a::c=>(k,a)::en (k+1) c
noncomputable def sumE (z:Nat) (l:List (Nat×Int)):Int:=(l.map fun e=>((e.1 / z:Nat):Int)*e.2).sum
noncomputable def wtF (z k:Nat) (c:List Int):Int:=sumE z (en k c)
theorem wt_cons (z k:Nat)(a:Int)(c:List Int):wtF z k (a::c)=((k / z:Nat):Int)*a+wtF z (k+1) c:=List.sum_cons
theorem wt_zeros (z:Nat): ∀(m k:Nat),wtF z k (List.replicate m 0)=0
 |0,_=>rfl
 |m+1,k=>by rw[List.replicate_succ,wt_cons,wt_zeros z m,Int.mul_zero];rfl
theorem wt_pad (z m:Nat): ∀(k:Nat) (c:List Int),wtF z k (c++List.replicate m 0)=wtF z k c
 |k,[]=>wt_zeros z m k
 |k,a::c=>by rw[List.cons_append,wt_cons,wt_pad z m,wt_cons]
theorem wt_set (z:Nat): ∀(k b:Nat) (c:List Int),b<c.length→wtF z k (c.set b (c.getD b 0+1))=wtF z k c+((k+b) / z:Nat)
 |_,_,[],h=>nomatch h
 |k,0,a::c,_=>by
  show wtF z k ((a+1)::c)=_
  rw[wt_cons,wt_cons,Int.mul_add,Int.mul_one,Int.add_right_comm];rfl
 |k,b+1,a::c,h=>by
  show wtF z k (a::c.set b (c.getD b 0+1))=_
  rw[wt_cons,wt_cons,wt_set z (k+1) b c (Nat.lt_of_succ_lt_succ h),Int.add_assoc,Nat.add_assoc k 1 b,Nat.add_comm 1 b]
theorem pad_len (c:List Int)(b:Nat):(pad c b).length=max c.length (b+1):=by unfold pad;rw[List.length_append,List.length_replicate];omega
theorem wt_bump (z b:Nat)(c:List Int):wtF z 0 (bump c b)=wtF z 0 c+(b / z:Nat):=by
 unfold bump
 rw[wt_set z 0 b _ ((pad_len c b).symm▸Nat.le_max_right _ _),Nat.zero_add]
 unfold pad
 rw[wt_pad]
theorem wt_drop (z:Nat): ∀(j k:Nat) (c:List Int),k+j≤z→wtF z k c=wtF z (k+j) (c.drop j)
 |0,_,_,_=>rfl
 |j+1,_,[],_=>rfl
 |j+1,k,a::c,h=>by
  have h:k+1+j≤z:=(Nat.succ_add_eq_add_succ k j).symm▸h
  rw[wt_cons,Nat.div_eq_of_lt (Nat.lt_of_lt_of_le (Nat.lt_add_right j (Nat.lt_succ_self k)) h),wt_drop z j (k+1) c h]
  refine(congrArg (· +_) (Int.zero_mul a)).trans ((Int.zero_add _).trans ?_)
  rw[Nat.succ_add_eq_add_succ];rfl
noncomputable def cntOf (ls:List (List Nat)):List Int:=ls.foldl (fun c l=>bump c l.length) []
theorem cnt_from (z:Nat): ∀(ls:List (List Nat)) (c:List Int),wtF z 0 (ls.foldl (fun c l=>bump c l.length) c)=wtF z 0 c+(ls.map fun l=>((l.length / z:Nat):Int)).sum
 | [],_=>(Int.add_zero _).symm
 |l::ls,c=>by rw[List.foldl_cons,cnt_from z ls,wt_bump,List.map_cons,List.sum_cons,Int.add_assoc]
theorem cnt_wt (z:Nat)(ls:List (List Nat)):wtF z 0 (cntOf ls)=(ls.map fun l=>((l.length / z:Nat):Int)).sum:=(cnt_from z ls []).trans (Int.zero_add _)
noncomputable def Bd (N:Nat) (c:List Int):Prop:=c.length≤4∧ ∀x∈c,0≤x∧x≤(N:Int)
theorem bump_bd {c:List Int}{b N:Nat}(h:Bd N c)(hb:b≤3):Bd (N+1) (bump c b):=by
 have hl:(pad c b).length≤4:=(pad_len c b).symm▸Nat.max_le.mpr ⟨h.1,Nat.succ_le_succ hb⟩
 have hp: ∀x∈pad c b,0≤x∧x≤(N:Int):=fun x hx=>(List.mem_append.mp hx).elim (h.2 x) fun q=>(List.mem_replicate.mp q).2.symm▸⟨Int.le_refl 0,Int.natCast_nonneg N⟩
 refine⟨List.length_set.symm▸hl,fun x hx=>(List.mem_or_eq_of_mem_set hx).elim (fun q=> ?_) fun q=> ?_⟩
 ·have:=hp x q
  omega
 ·have hb:b<(pad c b).length:=(pad_len c b).symm▸Nat.le_max_right _ _
  have:=hp _ (List.getElem_mem hb)
  rw[List.getD_eq_getElem?_getD,List.getElem?_eq_getElem hb,Option.getD_some] at q
  omega
theorem cnt_bd: ∀(ls:List (List Nat)) (c:List Int) (N:Nat),(∀l∈ls,l.length≤3)→Bd N c→Bd (N+ls.length) (ls.foldl (fun c l=>bump c l.length) c)
 | [],_,_,_,h=>h
 |l::ls,c,N,hl,h=>by
  have:=cnt_bd ls _ (N+1) (fun x hx=>hl x (.tail _ hx)) (bump_bd h (hl l (.head _)))
  rw[Nat.succ_add_eq_add_succ] at this
  exact this
noncomputable def cntD (c:List Int):D:= .list (c.map .int)
noncomputable abbrev wsR (raw:Str) (c:List Int) (b n nt:Nat):Rho:=[("nt",.fr,.int (nt:Int)),("n",.fr,.int (n:Int)),("b",.fr,.int (b:Int)),("count",.o1,cntD c),("S",.fr,.str " "),("T",.fr,.str "\t"),("self",.oi,.inst 175 [("raw",.str raw)])]
noncomputable def wsB:List Stmt:=sB ((fnC 13 1).body.getD 4 (.Pass p0))
noncomputable def wsT:Expr:=sT ((fnC 13 1).body.getD 4 (.Pass p0))
noncomputable def Stops (Z:Rho) (o:Option Out):Prop:= ∃ρ',o=some (.next ρ')∧vals ρ' Z=vals Z Z
theorem for_on {C:Cfg}{n m:Nat}{nm:Names}{ρ E Z:Rho}{t:Expr}{bd:List Stmt}{ds:List D}(h:vals ρ E=vals E E)(k:Stops Z (exFor (sx C (ev C n) m) nm t bd (E++ρ) ds)):Stops Z (exFor (sx C (ev C n) m) nm t bd ρ ds):=by
 obtain⟨_,e,z⟩:=k
 obtain⟨_,e2,q2,e3,z2⟩:=exFor_e (sx_e m nm) t bd ds ρ (E++ρ) (Has.app h) _ e
 exact⟨q2,e3▸e2,Has.eqv z2 z⟩
theorem turn_brk {C:Cfg}{n m:Nat}{nm:Names}{ρ ρ₁ Z:Rho}{t:Expr}{bd:List Stmt}{x:D}{ds:List D}(h1:bindT nm ρ t x=some ρ₁)(h2:Runs C n m nm ρ₁ bd (.brk Z)):Stops Z (exFor (sx C (ev C n) m) nm t bd ρ (x::ds)):=by
 obtain⟨_,e,q,rfl,hk⟩:=h2.out
 refine⟨q,?_,hk⟩
 show(bindT nm ρ t x).bind _=_
 rw[h1]
 show(exList _ nm ρ₁ bd).bind _=_
 rw[e];rfl
noncomputable def outB (E:Rho):Out→Option (List (Option (Tag×D)))
 | .brk ρ=>some (vals ρ E)
 |_=>none
theorem Runs.blkB {C:Cfg}{n m:Nat}{nm:Names}{ρ E:Rho}{b:List Stmt}(h:((exList (sx C (ev C n) m) nm ρ b).bind (outB E))=some (vals E E)):Runs C n m nm ρ b (.brk E):=ob h fun q h1 h2=>by
 cases q with
 |brk ρ1=>exact⟨_,h1,ρ1,rfl,Option.some.inj h2⟩
 |_=>first|exact nf h2|exact ns h2|cases h2
section
variable {F:Addr→List D→Option D}{raw:Str}{Z:Rho}{ds:List D}{c:List Int}{b n nt:Nat}
noncomputable abbrev wsX (F:Addr→List D→Option D) (ρ:Rho) (ds:List D):Option Out:=exFor (sx (mkC F) (ev (mkC F) 40) 39) (fnC 13 1).names wsT wsB ρ ds
theorem ws_turn {s:Nat}{c':List Int}{b' n' nt':Nat}(h: ∀ρt,Runs (mkC F) 40 39 (fnC 13 1).names ((("ch",.fr,.str ⟨#[s]⟩)::wsR raw c b n nt:Rho)++ρt) wsB (.next (wsR raw c' b' n' nt')))(k: ∀ρt,Stops Z (wsX F (wsR raw c' b' n' nt'++ρt) ds))(ρt:Rho):Stops Z (wsX F (wsR raw c b n nt++ρt) (.str ⟨#[s]⟩::ds)):=
 turn_goP (ρ₁:=setV (wsR raw c b n nt++ρt) "ch" .fr (.str ⟨#[s]⟩)) rfl (.on _ (by kernel_rfl) h) fun ρ' q=>for_on q (k ρ')
theorem ws_space (k: ∀ρt,Stops Z (wsX F (wsR raw c (b+1) (n+1) nt++ρt) ds)): ∀ρt,Stops Z (wsX F (wsR raw c b n nt++ρt) (.str ⟨#[32]⟩::ds)):=ws_turn (fun ρt=> .blkN (by kernel_rfl)) k
theorem ws_tab (hc:c.length≤4)(hb:b≤3):(∀ρt,Stops Z (wsX F (wsR raw (bump c b) 0 (n+1) (nt+1)++ρt) ds))→ ∀ρt,Stops Z (wsX F (wsR raw c b n nt++ρt) (.str ⟨#[9]⟩::ds)):=ws_turn (nat3 (P:=fun b=> ∀ρt,Runs (mkC F) 40 39 (fnC 13 1).names ((("ch",.fr,.str ⟨#[9]⟩)::wsR raw c b n nt:Rho)++ρt) wsB (.next (wsR raw (bump c b) 0 (n+1) (nt+1))))
 (fun ρt=>list4 (P:=fun c=>Runs (mkC F) 40 39 (fnC 13 1).names ((("ch",.fr,.str ⟨#[9]⟩)::wsR raw c 0 n nt:Rho)++ρt) wsB (.next (wsR raw (bump c 0) 0 (n+1) (nt+1)))) (.blkN (by kernel_rfl)) (fun ω=> .blkN (by kernel_rfl)) (fun ω ω=> .blkN (by kernel_rfl)) (fun ω ω ω=> .blkN (by kernel_rfl)) (fun ω ω ω ω=> .blkN (by kernel_rfl)) hc)
 (fun ρt=>list4 (P:=fun c=>Runs (mkC F) 40 39 (fnC 13 1).names ((("ch",.fr,.str ⟨#[9]⟩)::wsR raw c 1 n nt:Rho)++ρt) wsB (.next (wsR raw (bump c 1) 0 (n+1) (nt+1)))) (.blkN (by kernel_rfl)) (fun ω=> .blkN (by kernel_rfl)) (fun ω ω=> .blkN (by kernel_rfl)) (fun ω ω ω=> .blkN (by kernel_rfl)) (fun ω ω ω ω=> .blkN (by kernel_rfl)) hc)
 (fun ρt=>list4 (P:=fun c=>Runs (mkC F) 40 39 (fnC 13 1).names ((("ch",.fr,.str ⟨#[9]⟩)::wsR raw c 2 n nt:Rho)++ρt) wsB (.next (wsR raw (bump c 2) 0 (n+1) (nt+1)))) (.blkN (by kernel_rfl)) (fun ω=> .blkN (by kernel_rfl)) (fun ω ω=> .blkN (by kernel_rfl)) (fun ω ω ω=> .blkN (by kernel_rfl)) (fun ω ω ω ω=> .blkN (by kernel_rfl)) hc)
 (fun ρt=>list4 (P:=fun c=>Runs (mkC F) 40 39 (fnC 13 1).names ((("ch",.fr,.str ⟨#[9]⟩)::wsR raw c 3 n nt:Rho)++ρt) wsB (.next (wsR raw (bump c 3) 0 (n+1) (nt+1)))) (.blkN (by kernel_rfl)) (fun ω=> .blkN (by kernel_rfl)) (fun ω ω=> .blkN (by kernel_rfl)) (fun ω ω ω=> .blkN (by kernel_rfl)) (fun ω ω ω ω=> .blkN (by kernel_rfl)) hc) hb)
theorem ws_spaces: ∀(k:Nat) {b n:Nat} (_: ∀ρt,Stops Z (wsX F (wsR raw c (b+k) (n+k) nt++ρt) ds)) (ρt:Rho),Stops Z (wsX F (wsR raw c b n nt++ρt) (List.replicate k (.str ⟨#[32]⟩)++ds))
 |0,_,_,h=>h
 |k+1,b,n,h=>ws_space (ws_spaces k (by rw[Nat.succ_add_eq_add_succ,Nat.succ_add_eq_add_succ];exact h))
theorem ws_labels: ∀(ls:List (List Nat)) {c:List Int} {N n nt:Nat} (_: ∀l∈ls,l.length≤3) (_:Bd N c) (_: ∀ρt,Stops Z (wsX F (wsR raw (ls.foldl (fun c l=>bump c l.length) c) 0 (n+(ls.map fun l=>l.length+1).sum) (nt+ls.length)++ρt) ds)) (ρt:Rho),
  Stops Z (wsX F (wsR raw c 0 n nt++ρt) ((ls.flatMap fun l=>List.replicate l.length (.str ⟨#[32]⟩)++[.str ⟨#[9]⟩])++ds))
 | [],_,_,_,_,_,_,h=>h
 |l::ls,c,N,n,nt,hl,hc,h=>by
  rw[List.flatMap_cons,List.append_assoc,List.append_assoc]
  have h3:=hl l (.head _)
  refine ws_spaces l.length ?_
  rw[Nat.zero_add]
  refine ws_tab hc.1 h3 (ws_labels ls (fun x hx=>hl x (.tail _ hx)) (bump_bd hc h3) ?_)
  rw[List.foldl_cons,List.map_cons,List.sum_cons,List.length_cons,←Nat.add_assoc n] at h
  rw[Nat.succ_add_eq_add_succ nt]
  exact h
end
noncomputable def tr (c:Nat):Nat:=if c=46 then 9 else 32
noncomputable def wsText (ls:List (List Nat)):List Nat:=(dots ls).map tr++[32,32,120,9]
noncomputable def wsF (raw:Str) (c:List Int) (n nt:Nat):D:= .inst 175 [("raw",.str raw),("n",.int (n:Int)),("nt",.int (nt:Int)),("norm",.tup [.tup (c.map .int),.int 2]),("is_simple",.bool (decide ((c.length:Int)≤1)))]
noncomputable def wsI (ls:List (List Nat)):D:=wsF (S (wsText ls)) (cntOf ls) ((ls.map fun l=>l.length+1).sum+2) ls.length
theorem ws_items: ∀{ls:List (List Nat)},(∀l∈ls,Lab l)→((dots ls).map tr).map (fun c=>D.str ⟨#[c]⟩)=ls.flatMap fun l=>List.replicate l.length (.str ⟨#[32]⟩)++[.str ⟨#[9]⟩]
 | [],_=>rfl
 |l::ls,h=>by
  show((l++46::dots ls).map tr).map _=_
  rw[List.map_append,List.map_append,List.map_cons,List.map_cons,ws_items fun x hx=>h x (.tail _ hx),List.flatMap_cons,List.append_assoc]
  have:(l.map tr).map (fun c=>D.str ⟨#[c]⟩)=List.replicate l.length (.str ⟨#[32]⟩):=by
   rw[List.map_map]
   refine List.eq_replicate_iff.mpr ⟨List.length_map _,fun x hx=> ?_⟩
   obtain⟨c,hc,rfl⟩:=List.mem_map.mp hx
   show D.str ⟨#[tr c]⟩=_
   unfold tr
   rw[if_neg fun(e:c=46)=>lab_no (h l (.head _)) (e▸hc)]
  rw[this];rfl
theorem runI_ret {C:Cfg}{n m:Nat}{c:Addr}{f:Fn}{ds:List D}{ps:List Str}{d:D}(hf:f.params=("self" :Str)::ps)(hl:ps.length=ds.length)(h:Runs C n m f.names ((("self",.oi,.inst c [])::argsR ps ds:Rho)) f.body (.next [("self",.oi,d)])):runI C n m c f ds=some d:=by
 obtain⟨ρ',e,k⟩:=h.goes
 unfold runI
 rw[hf]
 show iteO (ps.length=ds.length) ((exList (sx C (ev C n) m) f.names (("self",.oi,.inst c [])::argsR ps ds) f.body).bind (instD "self"))=_
 rw[ip hl,e]
 exact congrArg (Option.bind · tagOi) (List.cons.inj k).1
theorem bd_nil:Bd 0 []:=⟨Nat.zero_le _,fun ω h=>absurd h List.not_mem_nil⟩
theorem ws_end {F:Addr→List D→Option D}{raw:Str}{c:List Int}{n nt:Nat}(hc:c.length≤4)(ρt:Rho):Runs (mkC F) 40 40 (fnC 13 1).names (wsR raw c 2 n nt++ρt) ((fnC 13 1).body.drop 5) (.next [("self",.oi,wsF raw c n nt)]):=
 list4 (P:=fun c=>Runs (mkC F) 40 40 (fnC 13 1).names (wsR raw c 2 n nt++ρt) ((fnC 13 1).body.drop 5) (.next [("self",.oi,wsF raw c n nt)])) (.blkN (by kernel_rfl)) (fun ω=> .blkN (by kernel_rfl)) (fun ω ω=> .blkN (by kernel_rfl)) (fun ω ω ω=> .blkN (by kernel_rfl)) (fun ω ω ω ω=> .blkN (by kernel_rfl)) hc
theorem ws_loop (F:Addr→List D→Option D){ls:List (List Nat)}(hl:Labs ls)(ρt:Rho):Stops (wsR (S (wsText ls)) (cntOf ls) 2 ((ls.map fun l=>l.length+1).sum+2) ls.length) (wsX F (wsR (S (wsText ls)) [] 0 0 0++ρt) ((wsText ls).map fun c=> .str ⟨#[c]⟩)):=by
 unfold wsText
 rw[List.map_append,ws_items hl.1]
 refine ws_labels (N:=0) ls (fun l h=>(hl.1 l h).len) bd_nil ?_ ρt
 rw[Nat.zero_add,Nat.zero_add]
 refine ws_space (ws_space fun ρt=>turn_brk (ρ₁:=setV (wsR (S ((dots ls).map tr++[32,32,120,9])) (cntOf ls) 2 ((ls.map fun l=>l.length+1).sum+2) ls.length++ρt) "ch" .fr (.str ⟨#[120]⟩)) rfl (.blkB ?_))
 kernel_rfl
theorem ws_made (F:Addr→List D→Option D){ls:List (List Nat)}(hl:Labs ls):runI (mkC F) 40 40 175 (fnC 13 1) [.str (S (wsText ls))]=some (wsI ls):=by
 have hb:=(cnt_bd ls [] 0 (fun l h=>(hl.1 l h).len) bd_nil).1
 refine runI_ret (ps:=["ws"]) rfl rfl (.blk 4 (wsR (S (wsText ls)) [] 0 0 0) (by kernel_rfl) fun ρt=> ?_)
 obtain⟨ρ',e,hk⟩:=ws_loop F hl ρt
 exact forN0 rfl rfl (by kernel_rfl) e hk (ws_end hb)
noncomputable abbrev ilR (il:Int) (z:Nat) (c:List Int) (nt:Nat) (raw:Str) (n:Nat):Rho:=[("il",.fr,.int il),("count",.fr,.tup (c.map .int)),("trailing",.fr,.int 2),("self",.fr,wsF raw c n nt),("tabsize",.fr,.int (z:Int))]
noncomputable def ilB:List Stmt:=sB ((fnC 13 3).body.getD 2 (.Pass p0))
theorem en_get: ∀(k:Nat) (c:List Int) (e:Nat×Int),e∈en k c→ ∃j,e.1=k+j∧c[j]?=some e.2
 |k,a::c,e,h=>(List.mem_cons.mp h).elim (fun q=>⟨0,congrArg Prod.fst q,q▸rfl⟩) fun q=>by obtain⟨j,h1,h2⟩:=en_get (k+1) c e q;exact⟨j+1,h1.trans (Nat.succ_add_eq_add_succ k j),h2⟩
theorem seq_nat {l:List D}{b:Nat}{x:D}(h:l[b]?=some x)(hs:b≤1000):seqItem l (.int (b:Int))=some x:=by
 have hl:b<l.length:=(List.getElem?_eq_some_iff.mp h).1
 show iteO (small (b:Int)=true) ((seqIndex? (b:Int) l.length).bind (l[·]?))=_
 rw[ip (small_nat (Nat.le_trans hs (Nat.le_of_ble_eq_true rfl))),seq_idx hl]
 exact h
theorem map_nat {α:Type}{f:α→D}{l:List α}{b:Nat}{x:α}(h:l[b]?=some x):(l.map f)[b]?=some (f x):=by rw[List.getElem?_map,h];rfl
theorem tup_item {c:List Int}{b:Nat}{x:Int}(h:c[b]?=some x)(hs:b≤1000):itemD (.tup (c.map .int)) (.int (b:Int))=some (.int x):=seq_nat (map_nat h) hs
section
variable (F:Addr→List D→Option D){raw:Str}{c:List Int}{n nt y:Nat}
noncomputable def ilI:Expr:=sE ((fnC 13 3).body.getD 2 (.Pass p0))
noncomputable abbrev IlItems (F:Addr→List D→Option D) (raw:Str) (n nt y:Nat) (ρt:Rho) (c:List Int):Prop:=iterE (ev (mkC F) 40) (mkC F) (fnC 13 3).names (ilR 0 (y+1) c nt raw n++ρt) (.Name "i" p0) ilI=some ((en (y+1) (c.drop (y+1))).map fun e=> .int (e.1:Int))
theorem il_items (hc:c.length≤4)(hy:y≤3)(ρt:Rho):IlItems F raw n nt y ρt c:=nat3 (P:=fun y=>IlItems F raw n nt y ρt c)
 (list4 (P:=IlItems F raw n nt 0 ρt) (by kernel_rfl) (fun ω=>by kernel_rfl) (fun ω ω=>by kernel_rfl) (fun ω ω ω=>by kernel_rfl) (fun ω ω ω ω=>by kernel_rfl) hc)
 (list4 (P:=IlItems F raw n nt 1 ρt) (by kernel_rfl) (fun ω=>by kernel_rfl) (fun ω ω=>by kernel_rfl) (fun ω ω ω=>by kernel_rfl) (fun ω ω ω ω=>by kernel_rfl) hc)
 (list4 (P:=IlItems F raw n nt 2 ρt) (by kernel_rfl) (fun ω=>by kernel_rfl) (fun ω ω=>by kernel_rfl) (fun ω ω ω=>by kernel_rfl) (fun ω ω ω ω=>by kernel_rfl) hc)
 (list4 (P:=IlItems F raw n nt 3 ρt) (by kernel_rfl) (fun ω=>by kernel_rfl) (fun ω ω=>by kernel_rfl) (fun ω ω ω=>by kernel_rfl) (fun ω ω ω ω=>by kernel_rfl) hc) hy
theorem sumE_snoc (z:Nat)(l:List (Nat×Int))(e:Nat×Int):sumE z (l++[e])=sumE z l+((e.1 / z:Nat):Int)*e.2:=by
 unfold sumE
 rw[List.map_append,List.sum_append]
 exact congrArg (_+ ·) (Int.add_zero _)
theorem small_bd {i:Int}(h:0≤i∧i≤1000):small i=true:=small_of (by omega)
theorem mul_ints {a b:Int}(h1:small a=true)(h2:small b=true):binD .Mult (.int a) (.int b)=some (.int (a*b)):=ip (Bool.and_eq_true_iff.mpr ⟨h1,h2⟩)
theorem il_turn (hb:Bd 8 c)(hy:y≤3)(l:List (Nat×Int))(e:Nat×Int)(he:e∈en (y+1) (c.drop (y+1)))(ρt:Rho):Runs (mkC F) 40 39 (fnC 13 3).names ((("i",.fr,.int (e.1:Int))::ilR (sumE (y+1) l) (y+1) c nt raw n:Rho)++ρt) ilB (.next (ilR (sumE (y+1) (l++[e])) (y+1) c nt raw n)):=by
 obtain⟨j,h1,h2⟩:=en_get _ _ _ he
 rw[List.getElem?_drop,←h1] at h2
 have hl:e.1≤1000:=Nat.le_trans (Nat.le_of_lt (List.getElem?_eq_some_iff.mp h2).1) (Nat.le_trans hb.1 (Nat.le_of_ble_eq_true rfl))
 have hx:=hb.2 _ (List.mem_of_getElem? h2)
 rw[sumE_snoc]
 refine setN rfl rfl rfl rfl (ev_bin (a':= .int (sumE (y+1) l)) (b':= .int (((e.1 / (y+1):Nat):Int)*e.2)) (by kernel_rfl) (ev_bin (a':= .int ((e.1 / (y+1):Nat):Int)) (b':= .int e.2) (ev_bin (a':= .int (e.1:Int)) (b':= .int ((y+1:Nat):Int)) (by kernel_rfl) (by kernel_rfl) ?_) (ev_item_name (d:= .tup (c.map .int)) (i':= .int (e.1:Int)) rfl (by kernel_rfl) (by kernel_rfl) (tup_item h2 hl)) (mul_ints (small_nat (Nat.le_trans (Nat.div_le_self _ _) (Nat.le_trans hl (Nat.le_of_ble_eq_true rfl)))) (small_bd ⟨hx.1,by omega⟩))) rfl) (by kernel_rfl) fun ρt=> .fin
 exact(ip ⟨Int.ne_of_gt (Int.natCast_pos.mpr (Nat.succ_pos y)),small_nat (Nat.le_trans (Nat.succ_le_succ hy) (Nat.le_of_ble_eq_true rfl))⟩).trans (congrArg (fun i=>some (D.int i)) (Int.ofNat_fdiv _ _).symm)
noncomputable def wayS (z:Nat) (ls:List (List Nat)):Int:=(ls.map fun l=>((l.length / z:Nat):Int)+1).sum
theorem way_sum (z:Nat): ∀ls:List (List Nat),wayS z ls=(ls.map fun l=>((l.length / z:Nat):Int)).sum+(ls.length:Int)
 | []=>rfl
 |l::ls=>by
  have:=way_sum z ls
  unfold wayS at*
  rw[List.map_cons,List.sum_cons,this,List.map_cons,List.sum_cons,List.length_cons]
  omega
theorem way_bd (z:Nat): ∀ls:List (List Nat),(∀l∈ls,l.length≤3)→0≤wayS z ls∧wayS z ls≤4*(ls.length:Int)
 | [],_=>⟨Int.le_refl 0,Int.le_refl 0⟩
 |l::ls,h=>by
  have h1:=way_bd z ls fun x hx=>h x (.tail _ hx)
  have h2:l.length / z≤3:=Nat.le_trans (Nat.div_le_self _ _) (h l (.head _))
  unfold wayS at*
  rw[List.map_cons,List.sum_cons,List.length_cons]
  generalize l.length / z=q at*
  omega
theorem indent_ok {ls:List (List Nat)}(hl:Labs ls)(hy:y≤3):runX (mkC F) 40 40 (fnC 13 3) [wsI ls,.int ((y+1:Nat):Int)]=some (.int (2+((y+1:Nat):Int)*wayS (y+1) ls)):=by
 have h3: ∀l∈ls,l.length≤3:=fun l h=>(hl.1 l h).len
 have hb:=cnt_bd ls [] 0 h3 bd_nil
 have hb:Bd 8 (cntOf ls):=⟨hb.1,fun x hx=>⟨(hb.2 x hx).1,Int.le_trans (hb.2 x hx).2 (Int.ofNat_le.mpr (Nat.le_trans (Nat.le_of_eq (Nat.zero_add _)) hl.2))⟩⟩
 refine runX_ret rfl (.blk 2 (ilR 0 (y+1) (cntOf ls) ls.length (S (wsText ls)) ((ls.map fun l=>l.length+1).sum+2)) (by kernel_rfl) fun ρt=> ?_)
 refine forI (fun e:Nat×Int=> .int (e.1:Int)) (fun dn=>ilR (sumE (y+1) dn) (y+1) (cntOf ls) ls.length (S (wsText ls)) ((ls.map fun l=>l.length+1).sum+2)) (en (y+1) ((cntOf ls).drop (y+1))) rfl rfl (il_items F hb.1 hy ρt) rfl (by kernel_rfl) (fun dn e tl q ρt=>⟨_,rfl,.on _ (by kernel_rfl) (il_turn F hb hy dn e (q▸List.mem_append_right dn (.head _)))⟩) fun ρt=>ret0 rfl rfl ?_
 have hs:sumE (y+1) (en (y+1) ((cntOf ls).drop (y+1)))+(ls.length:Int)=wayS (y+1) ls:=by
  rw[way_sum,←cnt_wt,wt_drop (y+1) (y+1) 0 _ (Nat.le_of_eq (Nat.zero_add _)),Nat.zero_add];rfl
 have hw:=way_bd (y+1) ls h3
 have h8:=hl.2
 exact ev_bin (a':= .int 2) (b':= .int (((y+1:Nat):Int)*wayS (y+1) ls)) (by kernel_rfl) (ev_bin (a':= .int ((y+1:Nat):Int)) (b':= .int (wayS (y+1) ls)) (by kernel_rfl) (Eq.trans (by kernel_rfl) (congrArg (fun i=>some (D.int i)) hs)) (mul_ints (small_nat (Nat.le_trans (Nat.succ_le_succ hy) (Nat.le_of_ble_eq_true rfl))) (small_bd ⟨hw.1,by omega⟩))) rfl
end
end Mine
namespace Mine
open PySem
theorem strs_S (ls:List (List Nat)):strsOf (ls.map fun x=>D.str (S x))=some (ls.map S):=by
 rw[show(ls.map fun x=>D.str (S x))=(ls.map S).map .str from List.map_map.symm,strsOf_map]
theorem join_meth {sep:Str}{ls:List (List Nat)}(h: ∀y∈ls,y.length≤1000)(hl:ls.length≤1000)(hs:sep.length≤10):methS "join" sep [.list (ls.map fun x=> .str (S x))]=some (.str (S (sep.cps.toList.intercalate ls))):=by
 show(strsOf (ls.map fun x=>D.str (S x))).bind (fun l=>iteO (JoinOk sep l) (some (D.str (Txt.join sep l))))=_
 rw[strs_S]
 refine(ip ?_).trans (by rw[join_S])
 show(!(PySem.Builtin.Str.tooLong ((ls.map S).toArray.foldl (fun a p=>a+p.length+sep.length) 0)))=true
 have h1: ∀p∈ls.map S,p.length≤1000:=fun y hy=>by
  obtain⟨x,hx,rfl⟩:=List.mem_map.mp hy
  rw[S_len];exact h x hx
 have h2:=Nat.mul_le_mul hl hs
 rw[StrLaws.joinFits (B:=1000) h1 (by rw[List.length_map];omega)]
 rfl
theorem inter_nil: ∀ls:List (List Nat),([]:List Nat).intercalate ls=ls.flatten
 | []=>rfl
 | [a]=>rfl
 |a::b::l=>congrArg (a++ ·) (inter_nil (b::l))
theorem ones_flat (l:List Nat):(l.map fun c=>[c]).flatten=l:=(flat_one (fun c=>c) l).trans (List.map_id' l)
theorem join_ones {l:List Nat}(h:l.length≤1000):methS "join" ⟨#[]⟩ [.list (l.map fun c=> .str ⟨#[c]⟩)]=some (.str (S l)):=by
 have e:=join_meth (sep:=⟨#[]⟩) (ls:=l.map fun c=>[c]) (fun y hy=>by obtain⟨c,_,q⟩:=List.mem_map.mp hy;exact q▸Nat.le_of_ble_eq_true rfl) ((List.length_map _).symm▸h) (Nat.zero_le _)
 rw[List.map_map,inter_nil,ones_flat] at e
 exact e
noncomputable def hA (h:Nat):Addr:=193+7*h
noncomputable def wayV (z0 z1 h0 h1:Nat) (ls:List (List Nat)) (k:Nat):Int:=match k with
 |0=>2+z0*wayS z0 ls
 |1=>2+z1*wayS z1 ls
 |2=>((escL h0 (dots ls)).length:Int)
 |_=>((escL h1 (dots ls)).length:Int)
theorem dots_len: ∀{ls:List (List Nat)},(∀l∈ls,Lab l)→(dots ls).length≤4*ls.length
 | [],_=>Nat.le_refl _
 |l::r,hl=>by
  have h1:=dots_len fun x hx=>hl x (.tail _ hx)
  have h2:=(hl l (.head _)).len
  show(l++46::dots r).length≤4*(r.length+1)
  rw[List.length_append,List.length_cons]
  omega
theorem esc_tbl: ∀h,okTbl (tbl h) 0=true
 |0=>rfl
 |1=>rfl
 |2=>rfl
 |3=>rfl
 |_+4=>rfl
theorem esc_len (h:Nat)(x:List Nat)(hx:x.length≤1000):(escL h x).length≤6000:=Nat.le_trans (flat_len (f:=sp (tbl h)) (N:=6) x fun k ω=>sp_len (esc_tbl h) k) (Nat.mul_le_mul_right 6 hx)
noncomputable abbrev wayR (z0 z1 h0 h1:Nat) (ls:List (List Nat)):Rho:=[("text",.fr,.str (S (dots ls))),("sizes",.fr,.list [.int (z0:Int),.int (z1:Int)]),("hands",.fr,.list [.obj (hA h0),.obj (hA h1)])]
theorem mem_two {α:Type}{P:α→Prop}{a b x:α}(h:x∈ [a,b])(h1:P a)(h2:P b):P x:=(List.mem_cons.mp h).elim (fun e=>e▸h1) fun h=>(List.mem_singleton.mp h).symm▸h2
section
variable (F:Addr→List D→Option D){ls:List (List Nat)}(hl:Labs ls){z0 z1 h0 h1:Nat}
include hl
theorem dots_lim:(dots ls).length≤32:=Nat.le_trans (dots_len hl.1) (Nat.mul_le_mul_left 4 hl.2)
theorem way_lead (ρt:Rho):ev (mkC F) 39 (fn 26).names (wayR z0 z1 h0 h1 ls++ρt) (match (fn 26).body.getD 0 (.Pass p0) with
  | .Assign _ (.Call _ as _ _) _=>as.getD 0 (.Constant .none 0 p0)
  |_=> .Constant .none 0 p0)=some (.str (S (wsText ls))):=by
 have hz:((dots ls).map tr).length≤1000:=(List.length_map (as:=dots ls) tr).symm▸Nat.le_trans (dots_lim hl) (Nat.le_of_ble_eq_true rfl)
 refine ev_bin (a':= .str (S ((dots ls).map tr))) (b':= .str (S [32,32,120,9])) (ev_methS (y:=⟨#[]⟩) rfl (Nat.le_of_ble_eq_true rfl) rfl (by decide) (by kernel_rfl) (mO_cons (b:=D.list (((dots ls).map tr).map fun c=> .str ⟨#[c]⟩)) ?_ mO_nil) (join_ones hz)) (by kernel_rfl) ((ip (?_:(S ((dots ls).map tr)).length+(S [32,32,120,9]).length≤lim)).trans (congrArg (fun x=>some (D.str x)) (S_app _ _)))
 ·rw[List.map_map]
  refine ev_lcomp (its:=(dots ls).map fun c=> .str ⟨#[c]⟩) (iter_name (d:= .str (S (dots ls))) (by kernel_rfl) rfl) (by kernel_rfl) (comp1t (dots ls) _ _ rfl fun c hc=>⟨_,rfl,?_⟩) ((List.length_map (as:=dots ls) _).symm▸Nat.le_trans (dots_lim hl) (Nat.le_of_ble_eq_true rfl))
  refine ev_ifexp (c:=c==46) (tst_op (a':= .str ⟨#[c]⟩) (b':= .str ⟨#[46]⟩) rfl (by kernel_rfl) (by kernel_rfl) (congrArg some (one_eq c 46))) ?_
  show _=some (D.str ⟨#[tr c]⟩)
  unfold tr
  cases q:c==46 with
  |true=>rw[if_pos (beq_iff_eq.mp q)];kernel_rfl
  |false=>rw[if_neg fun h=>Bool.false_ne_true (q.symm.trans (beq_iff_eq.mpr h))];kernel_rfl
 ·rw[S_len]
  exact Nat.le_trans (Nat.add_le_add_right hz 4) (Nat.le_of_ble_eq_true rfl)
theorem way_ok (hw: ∀ls,Labs ls→F 175 [.str (S (wsText ls))]=some (wsI ls))(hi: ∀ls (z:Nat),Labs ls→1≤z∧z≤4→F 144 [wsI ls,.int (z:Int)]=some (.int (2+z*wayS z ls)))
  (he: ∀h x,h<5→x.length≤1000→F (hA h) [.str (S x)]=some (.str (S (escL h x)))) (hz0:1≤z0∧z0≤4) (hz1:1≤z1∧z1≤4) (hh0:h0<5) (hh1:h1<5):
  runX (mkC F) 40 40 (fn 26) [.str (S (dots ls)),.list [.int (z0:Int),.int (z1:Int)],.list [.obj (hA h0),.obj (hA h1)]]=some (V (wayV z0 z1 h0 h1 ls)):=by
 have hdl:(dots ls).length≤1000:=Nat.le_trans (dots_lim hl) (Nat.le_of_ble_eq_true rfl)
 refine runX_ret rfl (.on (wayR z0 z1 h0 h1 ls) (by kernel_rfl) fun ρt=>setN (d:=wsI ls) (E:=("lead",.fr,wsI ls)::wayR z0 z1 h0 h1 ls) rfl rfl rfl rfl (ev_obj (a:=175) (by kernel_rfl) rfl (mO_cons (b:=D.str (S (wsText ls))) (way_lead F hl ρt) mO_nil) (hw ls hl)) (by kernel_rfl) fun ρt=>ret0 rfl rfl ?_)
 refine ev_ty (n':= "tuple") (d:= .list (([z0,z1].map fun z=>D.int (2+z*wayS z ls))++([h0,h1].map fun h=>D.int ((escL h (dots ls)).length:Int)))) (by kernel_rfl) rfl (ev_bin (a':= .list ([z0,z1].map fun z=>D.int (2+z*wayS z ls))) (b':= .list ([h0,h1].map fun h=>D.int ((escL h (dots ls)).length:Int))) ?_ ?_ (by kernel_rfl)) (by kernel_rfl)
 ·exact ev_lcomp (its:=[z0,z1].map fun z:Nat=>D.int (z:Int)) (iter_name (d:= .list [.int (z0:Int),.int (z1:Int)]) (by kernel_rfl) rfl) (by kernel_rfl) (comp1t _ _ _ rfl fun z hz=>⟨_,rfl,ev_meth (c:=175) (f:=144) rfl (Nat.le_of_ble_eq_true rfl) (by kernel_rfl) (by kernel_rfl) (by kernel_rfl) (ds:=[.int (z:Int)]) (by kernel_rfl) (hi ls z hl (mem_two (P:=fun z=>1≤z∧z≤4) hz hz0 hz1))⟩) (Nat.le_of_ble_eq_true rfl)
 ·exact ev_lcomp (its:=[h0,h1].map fun h=>D.obj (hA h)) (iter_name (d:= .list [.obj (hA h0),.obj (hA h1)]) (by kernel_rfl) rfl) (by kernel_rfl) (comp1t _ _ _ rfl fun h hh=>⟨_,rfl,ev_bi (n':= "len") (d:= .str (S (escL h (dots ls)))) (by kernel_rfl) rfl (ev_obj (a:=hA h) (by kernel_rfl) rfl (mO_cons (b:=D.str (S (dots ls))) (by kernel_rfl) mO_nil) (he h _ (mem_two (P:=(· <5)) hh hh0 hh1) hdl)) (len_S (Nat.le_trans (esc_len h (dots ls) hdl) (Nat.le_of_ble_eq_true rfl)))⟩) (Nat.le_of_ble_eq_true rfl)
end
end Mine
namespace Mine
open PySem
theorem hasC (c:Nat)(x:List Nat):hasSub ⟨#[c]⟩ (S x)=x.contains c:=(hasSub_S c x).trans (List.contains_eq_mem c x).symm
theorem side_ok (F:Addr→List D→Option D)(g:Str):runX (mkC F) 40 40 (fn 27) [.str g]=some (.str (sideS g)):=by
 obtain⟨x,rfl⟩: ∃x,g=S x:=⟨g.cps.toList,(S_list g).symm⟩
 refine runX_ret rfl (.on [("group",.fr,.str (S x))] (by kernel_rfl) fun ρt=>ret0 rfl rfl (ev_ifexp (c:= !x.contains 103) ((by kernel_rfl:_=some (!hasSub ⟨#[103]⟩ (S x))).trans (by rw[hasC])) ?_))
 show _=some (D.str (if x.contains 103=true then S (([112,113,114,115]:List Nat).filter fun c=> !x.contains c) else S x))
 cases q:x.contains 103 with
 |false=>rw[if_neg Bool.false_ne_true];kernel_rfl
 |true=>
  rw[if_pos rfl]
  refine ev_methS (y:=⟨#[]⟩) rfl (Nat.le_of_ble_eq_true rfl) rfl (by decide) (by kernel_rfl) (mO_cons (b:=D.list ((([112,113,114,115]:List Nat).filter fun c=> !x.contains c).map fun c=> .str ⟨#[c]⟩)) ?_ mO_nil) (join_ones (Nat.le_trans (List.length_filter_le _ _) (Nat.le_of_ble_eq_true rfl)))
  exact ev_filter ([112,113,114,115]:List Nat) (fun c=> .str ⟨#[c]⟩) (fun c=> !x.contains c) (fun c=> .str ⟨#[c]⟩) (by kernel_rfl) rfl (by kernel_rfl) (fun c ω=>⟨_,rfl,ifs1 ((by kernel_rfl:_=some (!hasSub ⟨#[c]⟩ (S x))).trans (by rw[hasC])),fun ω=>by kernel_rfl⟩) (Nat.le_of_ble_eq_true rfl)
noncomputable def t0:List Str:=["p","q","r","s"]
noncomputable def step? (cr:List Str) (i:Nat):Option (Str×Str×Str):=((pairsOf cr)[i]?).bind fun e=>iteO ((e.1++e.2).length<64) ((jI e.1 e.2).map fun j=>(e.1,e.2,j))
noncomputable def nxt (cr:List Str) (e:Str×Str×Str):List Str:=leftL cr e.1 e.2.1++[e.2.2]
noncomputable def go? (i0 i1:Nat):Option (List Str):=(step? t0 i0).bind fun e=>(step? (nxt t0 e) i1).bind fun e'=>(step? (nxt (nxt t0 e) e') 0).map fun e2=>t0++[e.2.2]++[e'.2.2]++[e2.2.2]
theorem step_spec {cr:List Str}{i:Nat}{e:Str×Str×Str}(h:step? cr i=some e):(pairsOf cr)[i]?=some (e.1,e.2.1)∧(e.1++e.2.1).length<64∧joinOf e.1 e.2.1=some e.2.2:=
 ob h fun ω h1 h=>oi h fun h2 h=>om h fun ω h3 q=>q▸⟨h1,h2,(joinOf_jI h2).trans h3⟩
noncomputable def treeB:List Stmt:=sB ((fn 22).body.getD 2 (.Pass p0))
noncomputable def treeT:Expr:=sT ((fn 22).body.getD 2 (.Pass p0))
noncomputable abbrev treeR (t cr:List Str) (s:Int):Rho:=[("tree",.o1,strsD t),("crowds",.fr,strsD cr),("shape",.fr,.int s)]
noncomputable def prD (e:Str×Str):D:= .tup [.str e.1,.str e.2]
theorem pairs_len {cr:List Str}(h:cr.length≤8):(pairsOf cr).length≤64:=by
 have key: ∀l:List Str,((l.map fun x=>(cr.filter fun y=>decide (ltS x y)).map fun y=>(x,y)).flatten).length≤l.length*8:=fun l=>by
  induction l with
  |nil=>exact Nat.le_refl _
  |cons a l ih=>
   rw[List.map_cons,List.flatten_cons,List.length_append,List.length_map,List.length_cons,Nat.succ_mul,Nat.add_comm]
   exact Nat.add_le_add ih (Nat.le_trans (List.length_filter_le _ _) h)
 exact Nat.le_trans (key cr) (Nat.mul_le_mul_right 8 h)
theorem ev_list {C:Cfg}{nm:Names}{ρ:Rho}{n:Nat}{as:List Expr}{ds:List D}{p:Pos}(h:mapO (ev C n nm ρ) as=some ds)(hl:as.length≤lim):ev C (n+1) nm ρ (.List as p)=some (.list ds):=by
 show(if as.length≤lim then(mapO (ev C n nm ρ) as).map D.list else none)=_
 rw[if_pos hl,h];rfl
section
variable (F:Addr→List D→Option D){Z:Rho}{t cr:List Str}{s:Int}{z:Nat}(hz:1≤z∧z≤6)(hc:cr.length≤8)
noncomputable abbrev sizR (z:Nat) (t cr:List Str) (s:Int):Rho:=("size",.fr,.int (z:Int))::treeR t cr s
include hc
theorem tree_pairs (ρt:Rho):ev (mkC F) 40 (fn 22).names (sizR z t cr s++ρt) (sE (treeB.getD 0 (.Pass p0)))=some (.list ((pairsOf cr).map prD)):=by
 have hrows:(pairsOf cr).map prD=((cr.filter fun ω=>true).map fun x=>(cr.filter fun y=>decide (ltS x y)).map fun y=>prD (x,y)).flatten:=by
  unfold pairsOf
  rw[List.filter_eq_self.mpr fun ω ω=>rfl,List.map_flatten,List.map_map]
  exact congrArg List.flatten (List.map_congr_left fun x ω=>List.map_map)
 have hlen:((pairsOf cr).map prD).length≤lim:=(List.length_map (as:=pairsOf cr) prD).symm▸Nat.le_trans (pairs_len hc) (Nat.le_of_ble_eq_true rfl)
 rw[hrows] at hlen⊢
 exact ev_lcomp (iter_name (d:=strsD cr) (by kernel_rfl) rfl) (by kernel_rfl) (compG cr .str (fun ω=>true) (fun x=>(cr.filter fun y=>decide (ltS x y)).map fun y=>prD (x,y)) rfl fun x hx=>⟨_,rfl,rfl,fun ω=>ins_go (iter_name (d:=strsD cr) (by kernel_rfl) rfl) (comp1 cr .str (fun y=>decide (ltS x y)) (fun y=>prD (x,y)) rfl fun y ω=>⟨_,rfl,ifs1 (by kernel_rfl),fun ω=>by kernel_rfl⟩)⟩) hlen
noncomputable abbrev twoR (t cr:List Str) (s:Int) (a b:Str):Rho:=("first",.fr,.str a)::("second",.fr,.str b)::treeR t cr s
omit hc in
theorem nat_z (hz:1≤z∧z≤6):(z:Int)≠0∧small (z:Int)=true:=⟨Int.ne_of_gt (Int.natCast_pos.mpr hz.1),small_nat (Nat.le_trans hz.2 (Nat.le_of_ble_eq_true rfl))⟩
include hz
theorem tree_two {a b:Str}(hi:(pairsOf cr)[(s.fmod z).toNat]?=some (a,b)){po:Out}(k: ∀ρt,Runs (mkC F) 40 39 (fn 22).names (twoR t cr (s.fdiv z) a b++ρt) (treeB.drop 3) po)(ρt:Rho):Runs (mkC F) 40 39 (fn 22).names (sizR z t cr s++ρt) treeB po:=by
 have hz0:=(nat_z hz).1
 have hp:(0:Int)<z:=Int.natCast_pos.mpr hz.1
 have hm:(((s.fmod z).toNat:Nat):Int)=s.fmod z:=Int.toNat_of_nonneg (Int.fmod_nonneg_of_pos s hp)
 have hi2:(s.fmod z).toNat≤1000:=by
  have:=Int.fmod_lt_of_pos s hp
  have:=hz.2
  omega
 refine setN (d:= .list ((pairsOf cr).map prD)) (E:=("pairs",.fr,.list ((pairsOf cr).map prD))::sizR z t cr s) rfl rfl rfl rfl (tree_pairs F hc ρt) (by kernel_rfl) fun ρt=> ?_
 refine asg0 (E:=("size",.fr,.int (z:Int))::twoR t cr s a b) rfl rfl (asg_tup (d:=prD (a,b)) rfl rfl (ev_item_name (d:= .list ((pairsOf cr).map prD)) (i':= .int ((s.fmod z).toNat:Nat)) rfl (by kernel_rfl) (ev_bin (a':= .int s) (b':= .int (z:Int)) (by kernel_rfl) (by kernel_rfl) ((ip hz0).trans (congrArg (fun i=>some (D.int i)) hm.symm))) (seq_nat (map_nat hi) hi2)) rfl) (by kernel_rfl) fun ρt=> ?_
 exact setN rfl rfl rfl rfl (ev_bin (a':= .int s) (b':= .int (z:Int)) (by kernel_rfl) (by kernel_rfl) (ip (nat_z hz))) (by kernel_rfl) k
omit hz in
theorem tree_join {a b j:Str}(hab:(a++b).length<64)(hj:joinOf a b=some j)(ht:t.length≤100)(ρt:Rho):Runs (mkC F) 40 39 (fn 22).names (twoR t cr s a b++ρt) (treeB.drop 3) (.next (treeR (t++[j]) (leftL cr a b++[j]) s)):=by
 have hll:(leftL cr a b).length≤8:=Nat.le_trans (List.length_filter_le _ _) hc
 refine ob hj fun d hj hd=>ob hj fun sl hs1 hs2=>setN (d:=strsD (leftL cr a b++[j])) (E:=treeR t (leftL cr a b++[j]) s) rfl rfl rfl rfl ?_ (by kernel_rfl) fun ρt=> ?_
 ·cases asStr_inv hd
  refine ev_bin (a':=strsD (leftL cr a b)) (b':= .list [.str j]) ?_ (ev_list (mO_cons (ev_methS (y:=⟨#[]⟩) rfl (Nat.le_of_ble_eq_true rfl) rfl (by decide) (by kernel_rfl) (mO_cons (b:=sl) (ev_bi (n':= "sorted") (d:= .str (a++b)) (by kernel_rfl) rfl (ev_bin (a':= .str a) (b':= .str b) (by kernel_rfl) (by kernel_rfl) (ip ?_)) hs1) mO_nil) hs2) mO_nil) (Nat.le_of_ble_eq_true rfl)) ((add_lists ?_).trans (congrArg (fun l=>some (D.list l)) (List.map_append (l₂:=[j])).symm))
  ·exact ev_filter cr .str (fun z=> !(z==a)&& !(z==b)) D.str (iter_name (d:=strsD cr) (by kernel_rfl) rfl) rfl (by kernel_rfl) (fun z ω=>⟨_,rfl,ifs1 ((tst_b2 (x:= !(z==a)) (y:= !(z==b)) (by kernel_rfl) (by kernel_rfl)).trans (bool_and _ _)),fun ω=>by kernel_rfl⟩) (Nat.le_trans hc (Nat.le_of_ble_eq_true rfl))
  ·rw[←Str.length_append]
   exact Nat.le_trans (Nat.le_of_lt hab) (Nat.le_of_ble_eq_true rfl)
  ·rw[List.length_map]
   exact Nat.le_trans (Nat.succ_le_succ hll) (Nat.le_of_ble_eq_true rfl)
 ·refine app0 (ds:=t.map .str) (d:= .str j) rfl rfl rfl (by kernel_rfl) (ev_item_name (d:=strsD (leftL cr a b++[j])) (i':= .int (-1)) rfl (by kernel_rfl) (by kernel_rfl) (item_last (by rw[List.map_append];exact List.getLast?_concat))) ((List.length_map (as:=t) _).symm▸Nat.le_trans ht (Nat.le_of_ble_eq_true rfl)) ?_ fun ρt=> .fin
  rw[show t.map D.str++[D.str j]=(t++[j]).map D.str from(List.map_append (l₂:=[j])).symm]
  kernel_rfl
theorem tree_turn {e:Str×Str×Str}(ht:t.length≤100)(h:step? cr (s.fmod z).toNat=some e){ds:List D}(k: ∀ρt,Stops Z (exFor (sx (mkC F) (ev (mkC F) 40) 39) (fn 22).names treeT treeB (treeR (t++[e.2.2]) (nxt cr e) (s.fdiv z)++ρt) ds))(ρt:Rho):Stops Z (exFor (sx (mkC F) (ev (mkC F) 40) 39) (fn 22).names treeT treeB (treeR t cr s++ρt) (.int (z:Int)::ds)):=by
 obtain⟨h1,h2,h3⟩:=step_spec h
 exact turn_goP (ρ₁:=setV (treeR t cr s++ρt) "size" .fr (.int (z:Int))) rfl (.on (sizR z t cr s) (by kernel_rfl) (tree_two F hz hc h1 (tree_join F hc h2 h3 ht))) fun ρ' q=>for_on q (k ρ')
end
theorem nxt_len {cr:List Str}{e:Str×Str×Str}:(nxt cr e).length≤cr.length+1:=Nat.le_trans (Nat.le_of_eq List.length_append) (Nat.succ_le_succ (List.length_filter_le _ _))
theorem tree_ok (F:Addr→List D→Option D)(s:Int){T:List Str}(h:go? (s.fmod 6).toNat ((s.fdiv 6).fmod 3).toNat=some T):runX (mkC F) 40 40 (fn 22) [.int s]=some (.tup [strsD T,.int (((s.fdiv 6).fdiv 3).fdiv 1)]):=
 ob h fun e h1 h=>ob h fun e' h2 h=>om h fun e2 h3 q=>by
  subst q
  refine runX_ret rfl (.blk 2 (treeR t0 t0 s) (by kernel_rfl) fun ρt=> ?_)
  have l1:(nxt t0 e).length≤5:=nxt_len
  have l2:(nxt (nxt t0 e) e').length≤6:=Nat.le_trans nxt_len (Nat.succ_le_succ l1)
  have m1:(((s.fdiv 6).fdiv 3).fmod ((1:Nat):Int)).toNat=0:=congrArg Int.toNat (Int.fmod_one _)
  obtain⟨ρ',q1,q2⟩:Stops (treeR (t0++[e.2.2]++[e'.2.2]++[e2.2.2]) (nxt (nxt (nxt t0 e) e') e2) (((s.fdiv 6).fdiv 3).fdiv 1)) (exFor (sx (mkC F) (ev (mkC F) 40) 39) (fn 22).names treeT treeB (treeR t0 t0 s++ρt) [.int 6,.int 3,.int 1]):=
   tree_turn F (z:=6) ⟨by decide,by decide⟩ (by decide) (by decide) h1 (tree_turn F (z:=3) ⟨by decide,by decide⟩ (Nat.le_trans l1 (by decide)) (Nat.le_of_ble_eq_true rfl) h2 (tree_turn F (z:=1) ⟨by decide,by decide⟩ (Nat.le_trans l2 (by decide)) (Nat.le_of_ble_eq_true rfl) (m1.symm▸h3) fun ρt=>⟨_,rfl,vals_app _ ρt⟩)) ρt
  exact forN0 rfl rfl (by kernel_rfl) q1 q2 fun ρt=>retF [("tree",.fr,strsD (t0++[e.2.2]++[e'.2.2]++[e2.2.2])),("shape",.fr,.int (((s.fdiv 6).fdiv 3).fdiv 1))] rfl (by kernel_rfl) fun ρt=>(by kernel_rfl)
end Mine
namespace Mine
open PySem
noncomputable abbrev K7:List Nat:=[0,1,2,3,4,5,6]
noncomputable abbrev SG:List Nat:=[38,60,62,34,9,10,13,111]
noncomputable abbrev H4:List Nat:=[112,113,114,115]
noncomputable abbrev c1s (c:Nat):Str:=⟨#[c]⟩
noncomputable def gnd (i:Nat):List Nat:=[localL,ynetL,yxL].getD i localL
structure LJ (F:Addr→List D→Option D):Prop where
 tree: ∀(s:Int) (T:List Str),go? (s.fmod 6).toNat ((s.fdiv 6).fmod 3).toNat=some T→F 226 [.int s]=some (.tup [strsD T,.int (((s.fdiv 6).fdiv 3).fdiv 1)])
 refr: ∀c∈SG,∀h:Nat,h<5→F 231 [.str ⟨#[c]⟩,.int (h:Int)]=some (.str (S (sp (tbl h) c)))
 ladder: ∀g ls,Gd g→Labs ls→ls.length≤4→F 238 [.str (S (nmL g ls)),.str (S g)]=some (strL (lad g ls))
 part: ∀g l r ms,Gd g→Labs (l::r)→Labs ms→r.length≤4→F 245 [strL (lad g (l::r)),.str (S (nmL g ms))]=some (.str (S (dots (cut ms (l::r)))))
 way: ∀(ls:List (List Nat)) (z0 z1 h0 h1:Nat),Labs ls→1≤z0∧z0≤4→1≤z1∧z1≤4→h0<5→h1<5→F 250 [.str (S (dots ls)),.list [.int (z0:Int),.int (z1:Int)],.list [.obj (hA h0),.obj (hA h1)]]=some (V (wayV z0 z1 h0 h1 ls))
 joined: ∀(c:Nat) (u0 u1:Int) (outer ns:List Str) (inner:Str→List Str) (d:Str→Str→Nat→Int) (res:List (Str×D)),(u0=1∨u0= -1)→(u1=1∨u1= -1)→c<4→Path c u0 u1 3 outer ns inner d [] res→F 260 [farD outer inner d,.list [.int u0,.int u1],.int (c:Int)]=some (.dict res)
 esc: ∀h x,h<5→x.length≤1000→F (hA h) [.str (S x)]=some (.str (S (escL h x)))
 reach: ∀x,Fig x→F 113 [.str (S x)]=some (.str (S (reachL x)))
 udm: ∀(A B:Str) (a b:List Nat),Txt.lower A=S a→Txt.lower B=S b→Fig a→Fig b→F 106 [.str A,.str B]=some (.bool (dm a b))
structure LW where
 cs:Nat→Int
 tk:Nat→Str
 sg:Nat→Nat
 ct:Nat→Nat
 g:List Nat
 z0:Nat
 z1:Nat
 h0:Nat
 h1:Nat
 u0:Int
 u1:Int
 col:Nat
noncomputable def chain (tk:Nat→Str) (c:Nat):List Nat:=K7.filter fun k=>hasSub (c1s c) (tk k)
structure TK (tk:Nat→Str):Prop where
 nodup:(K7.map tk).Nodup
 four: ∀c∈H4,chain tk c≠ []∧(chain tk c).length≤4
 none:chain tk 103= []
structure LW.Ok (L:LW):Prop where
 sg: ∀k,L.sg k∈SG
 ct: ∀k,L.ct k<3
 g:Gd L.g
 z0:1≤L.z0∧L.z0≤4
 z1:1≤L.z1∧L.z1≤4
 h0:L.h0<5
 h1:L.h1<5
 u0:L.u0=1∨L.u0= -1
 u1:L.u1=1∨L.u1= -1
 col:L.col<4
 ez0:1+(L.cs 3).fmod 4=L.z0
 ez1:1+((L.cs 3).fdiv 4).fmod 4=L.z1
 eh0:((L.cs 3).fdiv 16).fmod 5=L.h0
 eh1:((L.cs 3).fdiv 80).fmod 5=L.h1
 eu0:1 - 2*((L.cs 3).fdiv 400).fmod 2=L.u0
 eu1:1 - 2*((L.cs 3).fdiv 800).fmod 2=L.u1
 ecol:((L.cs 3).fdiv 1600).fmod 4=L.col
theorem fmN (a:Int){n:Nat}(h:0<n):((a.fmod n).toNat:Int)=a.fmod n∧(a.fmod n).toNat<n:=by
 have h1:=Int.fmod_nonneg_of_pos a (Int.natCast_pos.mpr h)
 have h2:=Int.fmod_lt_of_pos a (Int.natCast_pos.mpr h)
 omega
noncomputable def sgAt (c:Int) (k:Nat):Nat:=SG.getD ((c.fdiv ((8^k:Nat):Int)).fmod 8).toNat 0
noncomputable def ctAt (c:Int) (k:Nat):Nat:=((c.fdiv ((3^k:Nat):Int)).fmod 3).toNat
noncomputable def rstI (c:Int):Int:=((c.fdiv 6).fdiv 3).fdiv 1
noncomputable def mkL (c:Nat→Int) (tk:Nat→Str):LW where
 cs:=c
 tk:=tk
 sg:=sgAt (c 2)
 ct:=ctAt (c 1)
 g:=gnd ((rstI (c 0)).fmod 3).toNat
 z0:=1+((c 3).fmod 4).toNat
 z1:=1+(((c 3).fdiv 4).fmod 4).toNat
 h0:=(((c 3).fdiv 16).fmod 5).toNat
 h1:=(((c 3).fdiv 80).fmod 5).toNat
 u0:=1 - 2*((c 3).fdiv 400).fmod 2
 u1:=1 - 2*((c 3).fdiv 800).fmod 2
 col:=(((c 3).fdiv 1600).fmod 4).toNat
theorem sg_at (c:Int)(k:Nat):SG[((c.fdiv ((8^k:Nat):Int)).fmod 8).toNat]?=some (sgAt c k):=by
 have h:((c.fdiv ((8^k:Nat):Int)).fmod 8).toNat<SG.length:=(fmN (c.fdiv ((8^k:Nat):Int)) (n:=8) (Nat.succ_pos 7)).2
 unfold sgAt
 rw[List.getD_eq_getElem?_getD,List.getElem?_eq_getElem h];rfl
theorem gnd_at: ∀{i:Nat},i<3→ [localL,ynetL,yxL][i]?=some (gnd i)∧Gd (gnd i)
 |0,_=>⟨rfl,.inl rfl⟩
 |1,_=>⟨rfl,.inr (.inl rfl)⟩
 |2,_=>⟨rfl,.inr (.inr rfl)⟩
theorem one_up {a:Int}(h:((a.fmod (4:Nat)).toNat:Int)=a.fmod (4:Nat)∧(a.fmod (4:Nat)).toNat<4):(1≤1+(a.fmod (4:Nat)).toNat∧1+(a.fmod (4:Nat)).toNat≤4)∧1+a.fmod (4:Nat)=((1+(a.fmod (4:Nat)).toNat:Nat):Int):=by omega
theorem two_up {a:Int}(h:((a.fmod (2:Nat)).toNat:Int)=a.fmod (2:Nat)∧(a.fmod (2:Nat)).toNat<2):1 - 2*a.fmod (2:Nat)=1∨1 - 2*a.fmod (2:Nat)= -1:=by omega
theorem mkL_ok (c:Nat→Int)(tk:Nat→Str):(mkL c tk).Ok:=by
 have a:=fmN (c 3) (n:=4) (Nat.succ_pos _)
 have b:=fmN ((c 3).fdiv 4) (n:=4) (Nat.succ_pos _)
 have d:=fmN ((c 3).fdiv 16) (n:=5) (Nat.succ_pos _)
 have e:=fmN ((c 3).fdiv 80) (n:=5) (Nat.succ_pos _)
 have f:=fmN ((c 3).fdiv 1600) (n:=4) (Nat.succ_pos _)
 exact⟨fun k=>List.mem_of_getElem? (sg_at _ k),fun k=>(fmN _ (n:=3) (Nat.succ_pos _)).2,(gnd_at (fmN (rstI (c 0)) (n:=3) (Nat.succ_pos _)).2).2,(one_up a).1,(one_up b).1,d.2,e.2,two_up (fmN _ (Nat.succ_pos _)),two_up (fmN _ (Nat.succ_pos _)),f.2,(one_up a).2,(one_up b).2,d.1.symm,e.1.symm,rfl,rfl,f.1.symm⟩
section
variable {C:Cfg}{nm:Names}{ρ:Rho}{n:Nat}
theorem ev_slice_list {v:Expr}{a b c:Option Expr}{q p:Pos}{l r:List D}{i j k:Option Int}(h1:ev C n nm ρ v=some (.list l))(ha:sliceE (ev C n nm ρ) a=some i)(hb:sliceE (ev C n nm ρ) b=some j)(hc:sliceE (ev C n nm ρ) c=some k)(h:sliceL l i j k=some r):ev C (n+1) nm ρ (.Subscript v (.Slice a b c q) p)=some (.list r):=by
 show((ev C n nm ρ v).bind fun d=>(sliceE (ev C n nm ρ) a).bind fun ia=>(sliceE (ev C n nm ρ) b).bind fun ib=>sliceD (ev C n nm ρ) c d ia ib)=_
 rw[h1,ha,hb]
 show((sliceE (ev C n nm ρ) c).bind fun ic=>(sliceL l i j ic).map D.list)=_
 rw[hc]
 show(sliceL l i j k).map D.list=_
 rw[h];rfl
noncomputable def slI (zs:List Int) (i:Int):List Int:=(sliceRange (sliceBounds (some i) none (some 4) zs.length).1 (sliceBounds (some i) none (some 4) zs.length).2.1 (sliceBounds (some i) none (some 4) zs.length).2.2).filterMap (zs[·]?)
theorem slice_ints (zs:List Int)(hz:zs.length≤63)(i:Int):sliceL (zs.map .int) (some i) none (some 4)=some ((slI zs i).map .int):=by
 unfold sliceL slI
 rw[List.length_map,if_neg fun h=>h.elim (fun q=>nomatch q) fun q=>Nat.not_lt_of_le (Nat.le_trans hz (Nat.le_of_ble_eq_true rfl)) q,List.map_filterMap]
 exact congrArg (fun f=>some (List.filterMap f _)) (funext fun x=>List.getElem?_map)
theorem str_item {x:List Nat}{b a:Nat}(h:x[b]?=some a)(hs:b≤1000):itemD (.str (S x)) (.int (b:Int))=some (.str ⟨#[a]⟩):=by
 have hl:b<(S x).length:=(S_len x).symm▸(List.getElem?_eq_some_iff.mp h).1
 show iteO (small (b:Int)=true) (((seqIndex? (b:Int) (S x).length).bind ((S x).cps[·]?)).map fun c=>D.str ⟨#[c]⟩)=_
 rw[ip (small_nat (Nat.le_trans hs (Nat.le_of_ble_eq_true rfl))),seq_idx hl]
 exact congrArg (Option.map fun c=>D.str ⟨#[c]⟩) (List.getElem?_toArray.trans h)
end
noncomputable def lab (sg ct:Nat→Nat) (k:Nat):List Nat:=(112+k)::List.replicate (ct k) (sg k)
noncomputable def toldD (sg ct:Nat→Nat) (k:Nat):D:= .tup [.str ⟨#[112+k]⟩,.str ⟨#[sg k]⟩,.int (ct k:Int)]
noncomputable def LW.cells (L:LW):D:= .list [.int (L.cs 0),.int (L.cs 1),.int (L.cs 2),.int (L.cs 3)]
noncomputable abbrev LW.told (L:LW):D:= .list (K7.map (toldD L.sg L.ct))
noncomputable abbrev LW.tree (L:LW):D:=strsD (K7.map L.tk)
noncomputable abbrev LW.e0 (L:LW):Rho:=[("told",.fr,L.told),("ground",.fr,.str (S L.g)),("tree",.fr,L.tree),("cells",.fr,L.cells)]
theorem bin_mod (a:Int){n:Nat}(h:0<n):binD .Mod (.int a) (.int (n:Int))=some (.int (a.fmod n)):=ip (Int.ne_of_gt (Int.natCast_pos.mpr h))
theorem bin_div (a:Int){n:Nat}(h:0<n)(hn:n≤1000000):binD .FloorDiv (.int a) (.int (n:Int))=some (.int (a.fdiv n)):=ip ⟨Int.ne_of_gt (Int.natCast_pos.mpr h),small_nat hn⟩
theorem bin_pow {b k:Nat}(hb:b≤64)(hk:k≤64):binD .Pow (.int (b:Int)) (.int (k:Int))=some (.int ((b^k:Nat):Int)):=(ip ⟨Int.natCast_nonneg k,Int.ofNat_le.mpr hk,hb⟩).trans (congrArg (fun i=>some (D.int i)) (Int.natCast_pow b k).symm)
noncomputable abbrev bases:List (Nat×Nat):=[(0,28),(1,1936),(2,1754760),(3,39545)]
noncomputable def csOf (zs:List Int) (k:Nat):Int:=((bases.lookup k).getD 0:Nat)+(slI zs k).sum
theorem pows: ∀k∈K7,(8^k≤1000000∧3^k≤1000000)∧(0<8^k∧0<3^k)∧k≤64∧([112,113,114,115,116,117,118]:List Nat)[k]?=some (112+k):=by decide
section
variable {F:Addr→List D→Option D}(J:LJ F){zs:List Int}(hz:zs.length≤63){L:LW}
include hz in
theorem cells_ev (ρt:Rho):ev (mkC F) 40 (fn 29).names (([("script",.fr,.list (zs.map .int))]:Rho)++ρt) (sE ((fn 29).body.getD 0 (.Pass p0)))=some (.list (bases.map fun e=> .int ((e.2:Int)+(slI zs e.1).sum))):=by
 refine ev_lcomp (its:=bases.map fun e=> .tup [.int (e.1:Int),.int (e.2:Int)]) (by kernel_rfl) (by kernel_rfl) (comp1t bases _ (fun e=>D.int ((e.2:Int)+(slI zs e.1).sum)) rfl fun e he=>⟨_,rfl,?_⟩) (Nat.le_of_ble_eq_true rfl)
 exact ev_bin (a':= .int (e.2:Int)) (b':= .int (slI zs e.1).sum) (by kernel_rfl) (ev_bi (n':= "sum") (d:= .list ((slI zs e.1).map .int)) (by kernel_rfl) rfl (ev_slice_list (l:=zs.map .int) (i:=some (e.1:Int)) (j:=none) (k:=some 4) (by kernel_rfl) (slO (by kernel_rfl) (small_nat ((by decide: ∀e∈bases,e.1≤1000000) e he))) rfl (by kernel_rfl) (slice_ints zs hz e.1)) (ints_sum _)) rfl
theorem told_ev (c:Nat→Int)(tk:Nat→Str)(ρt:Rho):ev (mkC F) 40 (fn 29).names (([("ground",.fr,.str (S (mkL c tk).g)),("tree",.fr,(mkL c tk).tree),("cells",.fr,(mkL c tk).cells)]:Rho)++ρt) (sE ((fn 29).body.getD 3 (.Pass p0)))=some (mkL c tk).told:=by
 refine ev_lcomp (its:=K7.map fun k:Nat=> .int (k:Int)) (by kernel_rfl) (by kernel_rfl) (comp1t K7 _ (toldD (sgAt (c 2)) (ctAt (c 1))) rfl fun k hk=>⟨_,rfl,?_⟩) (Nat.le_of_ble_eq_true rfl)
 obtain⟨h8,h0,hk6,hp⟩:=pows k hk
 have m8:=fmN ((c 2).fdiv ((8^k:Nat):Int)) (n:=8) (Nat.succ_pos _)
 have m3:=fmN ((c 1).fdiv ((3^k:Nat):Int)) (n:=3) (Nat.succ_pos _)
 refine ev_tuple (mO_cons (b:=D.str ⟨#[112+k]⟩) (ev_item (d:= .str (S [112,113,114,115,116,117,118])) (i':= .int (k:Int)) rfl rfl (by kernel_rfl) (by kernel_rfl) (str_item hp (Nat.le_trans hk6 (Nat.le_of_ble_eq_true rfl)))) (mO_cons (b:=D.str ⟨#[sgAt (c 2) k]⟩) (ev_item (d:= .str (S SG)) (i':= .int ((((c 2).fdiv ((8^k:Nat):Int)).fmod (8:Nat)).toNat:Nat)) rfl rfl (by kernel_rfl) ?_ (str_item (sg_at (c 2) k) (Nat.le_trans (Nat.le_of_lt m8.2) (Nat.le_of_ble_eq_true rfl)))) (mO_cons (b:=D.int (ctAt (c 1) k:Int)) ?_ mO_nil))) (Nat.le_of_ble_eq_true rfl)
 ·rw[m8.1]
  exact ev_bin (a':= .int ((c 2).fdiv ((8^k:Nat):Int))) (b':= .int ((8:Nat):Int)) (ev_bin (a':= .int (c 2)) (b':= .int ((8^k:Nat):Int)) (by kernel_rfl) (ev_bin (a':= .int ((8:Nat):Int)) (b':= .int (k:Int)) (by kernel_rfl) (by kernel_rfl) (bin_pow (by decide) hk6)) (bin_div _ h0.1 h8.1)) (by kernel_rfl) (bin_mod _ (Nat.succ_pos _))
 ·show _=some (D.int (((c 1).fdiv ((3^k:Nat):Int)).fmod (3:Nat)).toNat)
  rw[m3.1]
  exact ev_bin (a':= .int ((c 1).fdiv ((3^k:Nat):Int))) (b':= .int ((3:Nat):Int)) (ev_bin (a':= .int (c 1)) (b':= .int ((3^k:Nat):Int)) (by kernel_rfl) (ev_bin (a':= .int ((3:Nat):Int)) (b':= .int (k:Int)) (by kernel_rfl) (by kernel_rfl) (bin_pow (by decide) hk6)) (bin_div _ h0.2 h8.2)) (by kernel_rfl) (bin_mod _ (Nat.succ_pos _))
include J hz
theorem law_A (hT: ∀i0 i1,i0<6→i1<3→ ∃tk:Nat→Str,go? i0 i1=some (K7.map tk)∧ ∀c ρt,Runs (mkC F) 40 40 (fn 29).names ((mkL c tk).e0++ρt) ((fn 29).body.drop 4) (.ret (.bool true))):runX (mkC F) 40 40 (fn 29) [.list (zs.map .int)]=some (.bool true):=by
 obtain⟨tk,ht,hrun⟩:=hT _ _ (fmN (csOf zs 0) (n:=6) (Nat.succ_pos _)).2 (fmN ((csOf zs 0).fdiv 6) (n:=3) (Nat.succ_pos _)).2
 have m3:=fmN (rstI (csOf zs 0)) (n:=3) (Nat.succ_pos _)
 refine runX_ret rfl (.on [("script",.fr,.list (zs.map .int))] (by kernel_rfl) fun ρt=>setN (d:=(mkL (csOf zs) tk).cells) (E:=[("cells",.fr,(mkL (csOf zs) tk).cells)]) rfl rfl rfl rfl (cells_ev hz ρt) (by kernel_rfl) fun ρt=> ?_)
 refine asg0 (E:=[("tree",.fr,(mkL (csOf zs) tk).tree),("rest",.fr,.int (rstI (csOf zs 0))),("cells",.fr,(mkL (csOf zs) tk).cells)]) rfl rfl (asg_tup (d:= .tup [(mkL (csOf zs) tk).tree,.int (rstI (csOf zs 0))]) rfl rfl (ev_obj (a:=226) (by kernel_rfl) rfl (mO_cons (b:=D.int (csOf zs 0)) (by kernel_rfl) mO_nil) (J.tree _ _ ht)) rfl) (by kernel_rfl) fun ρt=> ?_
 refine setN (d:= .str (S (mkL (csOf zs) tk).g)) (E:=[("ground",.fr,.str (S (mkL (csOf zs) tk).g)),("tree",.fr,(mkL (csOf zs) tk).tree),("cells",.fr,(mkL (csOf zs) tk).cells)]) rfl rfl rfl rfl (ev_item (d:= .tup ([localL,ynetL,yxL].map fun x=> .str (S x))) (i':= .int (((rstI (csOf zs 0)).fmod (3:Nat)).toNat:Nat)) rfl rfl (by kernel_rfl) (Eq.trans (by kernel_rfl) (congrArg (fun i=>some (D.int i)) m3.1.symm)) (seq_nat (map_nat (gnd_at m3.2).1) (Nat.le_trans (Nat.le_of_lt m3.2) (Nat.le_of_ble_eq_true rfl)))) (by kernel_rfl) fun ρt=> ?_
 exact setN rfl rfl rfl rfl (told_ev (csOf zs) tk ρt) (by kernel_rfl) (hrun (csOf zs))
end
end Mine
namespace Mine
open PySem
theorem find_ix {tk:Nat→Str}{k:Nat}: ∀{l:List Nat},(l.map tk).Nodup→k∈l→l.find? (fun j=>decide (tk j=tk k))=some k
 |a::l,hn,h=>by
  have hn:=List.nodup_cons.mp hn
  rw[List.find?_cons]
  by_cases q:a=k
  ·rw[q,decide_eq_true rfl]
  ·have h:=(List.mem_cons.mp h).resolve_left fun e=>q e.symm
   rw[decide_eq_false fun(e:tk a=tk k)=>hn.1 (e▸List.mem_map.mpr ⟨k,h,rfl⟩)]
   exact find_ix hn.2 h
theorem getK_ix {tk:Nat→Str}{f:Nat→D}{k:Nat}{l:List Nat}(hn:(l.map tk).Nodup)(h:k∈l):getK (l.map fun k=>(tk k,f k)) (tk k)=some (f k):=by
 unfold getK
 rw[List.find?_map]
 exact congrArg (fun o=>(o.map fun k=>(tk k,f k)).map (·.2)) (find_ix hn h)
theorem ixK: ∀k∈K7,K7[k]?=some k∧k<7:=by decide
theorem k7_item {f:Nat→D}{k:Nat}(hk:k∈K7):seqItem (K7.map f) (.int (k:Int))=some (f k):=seq_nat (map_nat (ixK k hk).1) (Nat.le_trans (Nat.le_of_lt (ixK k hk).2) (Nat.le_of_ble_eq_true rfl))
theorem tree_item {tk:Nat→Str}{k:Nat}(hk:k∈K7):itemD (strsD (K7.map tk)) (.int (k:Int))=some (.str (tk k)):=k7_item (f:=fun k=> .str (tk k)) hk
noncomputable def chl (sg ct:Nat→Nat) (tk:Nat→Str) (c:Nat):List (List Nat):=(chain tk c).map (lab sg ct)
section
variable (L:LW)
noncomputable abbrev LW.lab (k:Nat):List Nat:=Mine.lab L.sg L.ct k
noncomputable abbrev LW.chl (c:Nat):List (List Nat):=Mine.chl L.sg L.ct L.tk c
noncomputable abbrev LW.nm (c:Nat):List Nat:=nmL L.g (L.chl c)
noncomputable def LW.labD:D:= .dict (K7.map fun k=>(L.tk k,.str (S (L.lab k))))
noncomputable def LW.fullD:D:= .dict (H4.map fun c=>(c1s c,.str (S (L.nm c))))
noncomputable def LW.rungsD:D:= .dict (H4.map fun c=>(c1s c,strL (lad L.g (L.chl c))))
noncomputable def LW.sizesD:D:= .list [.int (L.z0:Int),.int (L.z1:Int)]
noncomputable def LW.whichD:D:= .list [.int (L.h0:Int),.int (L.h1:Int)]
noncomputable def LW.handsD:D:= .list [.obj (hA L.h0),.obj (hA L.h1)]
noncomputable def everyD:D:= .list (([0,1,2,3,4]:List Nat).map fun k=> .obj (hA k))
noncomputable def LW.spD (h:Nat):D:= .list (K7.map fun k=> .str (S (sp (tbl h) (L.sg k))))
noncomputable def LW.spelledD:D:= .list [L.spD L.h0,L.spD L.h1]
noncomputable def LW.upsD:D:= .list [.int L.u0,.int L.u1]
noncomputable abbrev LW.e1:Rho:=("label",.fr,L.labD)::L.e0
noncomputable abbrev LW.e2:Rho:=("full",.fr,L.fullD)::L.e1
noncomputable abbrev LW.e3:Rho:=("rungs",.fr,L.rungsD)::L.e2
noncomputable abbrev LW.e4:Rho:=("sizes",.fr,L.sizesD)::L.e3
noncomputable abbrev LW.e5:Rho:=("every",.fr,everyD)::("which",.fr,L.whichD)::L.e4
noncomputable abbrev LW.e6:Rho:=("hands",.fr,L.handsD)::("which",.fr,L.whichD)::L.e4
noncomputable abbrev LW.e7:Rho:=("spelled",.fr,L.spelledD)::("hands",.fr,L.handsD)::L.e4
noncomputable abbrev LW.e8:Rho:=("ups",.fr,L.upsD)::L.e7
end
theorem mul_str {c n:Nat}(hn:n≤1000):binD .Mult (.str ⟨#[c]⟩) (.int (n:Int))=some (.str (S (List.replicate n c))):=by
 refine(ip (Bool.and_eq_true_iff.mpr ⟨decide_eq_true ?_,small_nat (Nat.le_trans hn (Nat.le_of_ble_eq_true rfl))⟩)).trans (by rw[mul_S])
 exact Nat.le_trans (Nat.le_of_eq (Nat.one_mul n)) (Nat.le_trans hn (Nat.le_of_ble_eq_true rfl))
theorem add_str {a b:List Nat}(h:a.length+b.length≤1000):binD .Add (.str (S a)) (.str (S b))=some (.str (S (a++b))):=by
 refine(ip (?_:(S a).length+(S b).length≤lim)).trans (congrArg (fun x=>some (D.str x)) (S_app a b))
 rw[S_len,S_len]
 exact Nat.le_trans h (Nat.le_of_ble_eq_true rfl)
theorem inter_nm (g:List Nat): ∀ls:List (List Nat),([46]:List Nat).intercalate (ls++[g])=nmL g ls
 | []=>List.append_nil g
 | [a]=>congrArg (fun x=>a++46::x) (List.append_nil g)
 |a::b::ls=>congrArg (fun x=>a++46::x) (inter_nm g (b::ls))
theorem H4_nodup:(H4.map c1s).Nodup:=by decide
section
variable {L:LW}(H:L.Ok)
include H
theorem LW.Ok.lab {k:Nat}(hk:k∈K7):Lab (L.lab k):=⟨(fun h=>nomatch h),fun c h=>(List.mem_cons.mp h).elim (fun e=>e▸(by decide: ∀k∈K7,okc (112+k)=true) k hk) fun h=>(List.mem_replicate.mp h).2▸(by decide: ∀c∈SG,okc c=true) _ (H.sg k),Nat.succ_le_of_lt (Nat.lt_of_le_of_lt (Nat.le_of_eq List.length_replicate) (H.ct k))⟩
theorem LW.Ok.chl (c:Nat):Labs (L.chl c):=⟨fun ω hl=>by obtain⟨_,hk,e⟩:=List.mem_map.mp hl;exact e▸H.lab (List.mem_filter.mp hk).1,Nat.le_trans (Nat.le_of_eq (List.length_map _)) (Nat.le_trans (List.length_filter_le _ _) (Nat.le_of_ble_eq_true rfl))⟩
end
theorem chl_len {L:LW}(T:TK L.tk){c:Nat}(hc:c∈H4):(L.chl c).length≤4:=Nat.le_trans (Nat.le_of_eq (List.length_map _)) (T.four c hc).2
section
variable {C:Cfg}{nm:Names}{ρ:Rho}{n k i:Nat}{xp q p kp p2:Pos}{kx:Nat}{d:D}{L:LW}{x y:Str}
theorem ev_told (h:lk ρ "told" =some (.fr,L.told))(hk:nameD C nm ρ "k" =some (.int (k:Int)))(hk7:k∈K7)(hd:itemD (toldD L.sg L.ct k) (.int (i:Int))=some d):
  ev C (n+3) nm ρ (.Subscript (.Subscript (.Name "told" xp) (.Name "k" kp) q) (.Constant (.int (i:Int)) kx p2) p)=some d:=
 ev_item_two (d:=toldD L.sg L.ct k) (i':= .int (i:Int)) rfl (congrArg (Option.bind · tagO2) h) (ev_item_name (d:=L.told) (i':= .int (k:Int)) rfl (congrArg (Option.bind · tagO1) h) hk (k7_item hk7)) rfl hd
theorem ev_key {kvs:List (Str×D)}(h:o1? ρ x=some (.dict kvs))(hk:nameD C nm ρ y=some (.str z))(hg:getK kvs z=some d):ev C (n+2) nm ρ (.Subscript (.Name x q) (.Name y kp) p)=some d:=ev_item_name (d:= .dict kvs) (i':= .str z) rfl h hk hg
end
theorem every_item {h:Nat}(hh:h<5):itemD everyD (.int (h:Int))=some (.obj (hA h)):=seq_nat (map_nat ((by decide: ∀k,k<5→([0,1,2,3,4]:List Nat)[k]?=some k) h hh)) (Nat.le_trans (Nat.le_of_lt hh) (Nat.le_of_ble_eq_true rfl))
section
variable {F:Addr→List D→Option D}(J:LJ F){L:LW}(H:L.Ok)(T:TK L.tk)
noncomputable abbrev rhsOf (k:Nat):Expr:=sE ((fn 29).body.getD k (.Pass p0))
noncomputable abbrev lawE (F:Addr→List D→Option D) (n:Nat) (E ρt:Rho) (k:Nat):Option D:=ev (mkC F) n (fn 29).names (E++ρt) (rhsOf k)
noncomputable abbrev LawR (F:Addr→List D→Option D) (E ρt:Rho) (k:Nat) (po:Out):Prop:=Runs (mkC F) 40 40 (fn 29).names (E++ρt) ((fn 29).body.drop k) po
include H T
theorem label_ev (ρt:Rho):lawE F 40 L.e0 ρt 4=some L.labD:=by
 refine ev_dcomp (its:=K7.map fun k:Nat=> .int (k:Int)) (by kernel_rfl) (by kernel_rfl) (comp1t K7 _ (fun k=>(L.tk k,D.str (S (L.lab k)))) rfl fun k hk=>⟨_,rfl,kv_eq ?_ ?_⟩) (Nat.le_of_ble_eq_true rfl) T.nodup
 ·exact ev_item_name (d:=L.tree) (i':= .int (k:Int)) rfl (by kernel_rfl) (by kernel_rfl) (tree_item hk)
 ·have hc:=H.ct k
  exact ev_bin (a':= .str (S [112+k])) (b':= .str (S (List.replicate (L.ct k) (L.sg k)))) (ev_told (L:=L) (k:=k) (i:=0) (by kernel_rfl) (by kernel_rfl) hk (by kernel_rfl)) (ev_bin (a':= .str ⟨#[L.sg k]⟩) (b':= .int (L.ct k:Int)) (ev_told (L:=L) (k:=k) (i:=1) (by kernel_rfl) (by kernel_rfl) hk (by kernel_rfl)) (ev_told (L:=L) (k:=k) (i:=2) (by kernel_rfl) (by kernel_rfl) hk (by kernel_rfl)) (mul_str (Nat.le_trans (Nat.le_of_lt hc) (Nat.le_of_ble_eq_true rfl))))
   (add_str (by rw[List.length_replicate];exact Nat.le_trans (Nat.add_le_add_left (Nat.le_of_lt hc) 1) (Nat.le_of_ble_eq_true rfl)))
theorem full_ev (ρt:Rho):lawE F 40 L.e1 ρt 5=some L.fullD:=by
 refine ev_dcomp (its:=H4.map fun c=> .str (c1s c)) (by kernel_rfl) (by kernel_rfl) (comp1t H4 _ (fun c=>(c1s c,D.str (S (L.nm c)))) rfl fun c hc4=>⟨_,rfl,kv_eq (by kernel_rfl) ?_⟩) (Nat.le_of_ble_eq_true rfl) H4_nodup
 have hL:=H.chl c
 have hJ:=join_meth (sep:=⟨#[46]⟩) (ls:=L.chl c++[L.g]) (fun y hy=>(List.mem_append.mp hy).elim (fun q=>Nat.le_trans (hL.1 y q).len (Nat.le_of_ble_eq_true rfl)) fun q=>(List.mem_singleton.mp q).symm▸(nm_fig H.g (ls:=[]) ⟨(fun l h=>nomatch h),Nat.zero_le _⟩).2) (Nat.le_trans (Nat.le_of_eq List.length_append) (Nat.le_trans (Nat.succ_le_succ hL.2) (Nat.le_of_ble_eq_true rfl))) (Nat.le_of_ble_eq_true rfl)
 rw[show(⟨#[46]⟩:Str).cps.toList= [46] from rfl,inter_nm] at hJ
 refine ev_methS (y:=⟨#[46]⟩) rfl (Nat.le_of_ble_eq_true rfl) rfl (by decide) (by kernel_rfl) (mO_cons (b:=D.list ((L.chl c++[L.g]).map fun x=> .str (S x))) (ev_bin (a':= .list ((chain L.tk c).map fun k=> .str (S (L.lab k)))) (b':= .list [.str (S L.g)]) ?_ (by kernel_rfl) ((add_lists ?_).trans ?_)) mO_nil) hJ
 ·exact ev_filter K7 (fun k=> .str (L.tk k)) (fun k=>hasSub (c1s c) (L.tk k)) (fun k=> .str (S (L.lab k))) (iter_name (d:=L.tree) (by kernel_rfl) rfl) rfl (by kernel_rfl) (fun k hk=>⟨_,rfl,ifs1 (by kernel_rfl),fun ω=>ev_key (kvs:=K7.map fun k=>(L.tk k,.str (S (L.lab k)))) (z:=L.tk k) (by kernel_rfl) (by kernel_rfl) (getK_ix T.nodup hk)⟩) (Nat.le_of_ble_eq_true rfl)
 ·rw[List.length_map]
  exact Nat.le_trans (Nat.succ_le_succ (T.four c hc4).2) (Nat.le_of_ble_eq_true rfl)
 ·rw[List.map_append]
  exact congrArg (fun l=>some (D.list (l++[D.str (S L.g)]))) (List.map_map (g:=fun x=>D.str (S x)) (f:=L.lab)).symm
include J in
theorem rungs_ev (ρt:Rho):lawE F 40 L.e2 ρt 6=some L.rungsD:=by
 refine ev_dcomp (its:=H4.map fun c=> .str (c1s c)) (by kernel_rfl) (by kernel_rfl) (comp1t H4 _ (fun c=>(c1s c,strL (lad L.g (L.chl c)))) rfl fun c hc4=>⟨_,rfl,kv_eq (by kernel_rfl) ?_⟩) (Nat.le_of_ble_eq_true rfl) H4_nodup
 exact ev_obj (a:=238) (by kernel_rfl) rfl (mO_cons (b:=D.str (S (L.nm c))) (ev_key (kvs:=H4.map fun c=>(c1s c,.str (S (L.nm c)))) (z:=c1s c) (by kernel_rfl) (by kernel_rfl) (getK_ix (tk:=c1s) H4_nodup hc4)) (mO_cons (b:=D.str (S L.g)) (by kernel_rfl) mO_nil)) (J.ladder _ _ H.g (H.chl c) (chl_len T hc4))
omit T
theorem sizes_ev (ρt:Rho):lawE F 40 L.e3 ρt 7=some L.sizesD:=by
 unfold LW.sizesD
 rw[←H.ez0,←H.ez1]
 kernel_rfl
theorem which_ev (ρt:Rho):lawE F 40 L.e4 ρt 8=some L.whichD:=by
 unfold LW.whichD
 rw[←H.eh0,←H.eh1]
 kernel_rfl
theorem hands_ev (ρt:Rho):lawE F 40 L.e5 ρt 10=some L.handsD:=ev_map [L.h0,L.h1] (fun h:Nat=> .int (h:Int)) (fun h=> .obj (hA h)) (iter_name (d:=L.whichD) (by kernel_rfl) rfl) rfl (by kernel_rfl) (fun h hh=>⟨_,rfl,ev_item_name (d:=everyD) (i':= .int (h:Int)) rfl (by kernel_rfl) (by kernel_rfl) (every_item (mem_two (P:=(· <5)) hh H.h0 H.h1))⟩) (Nat.le_of_ble_eq_true rfl)
include J in
theorem spelled_ev (ρt:Rho):lawE F 40 L.e6 ρt 11=some L.spelledD:=ev_map [L.h0,L.h1] (fun h:Nat=> .int (h:Int)) L.spD (iter_name (d:=L.whichD) (by kernel_rfl) rfl) rfl (by kernel_rfl) (fun h hh=>⟨_,rfl,ev_map K7 (toldD L.sg L.ct) (fun k=> .str (S (sp (tbl h) (L.sg k)))) (iter_name (d:=L.told) (by kernel_rfl) rfl) rfl (by kernel_rfl) (fun k hk=>⟨_,rfl,ev_obj (a:=231) (by kernel_rfl) rfl (mO_cons (b:=D.str ⟨#[L.sg k]⟩) (by kernel_rfl) (mO_cons (b:=D.int (h:Int)) (by kernel_rfl) mO_nil)) (J.refr _ (H.sg k) h (mem_two (P:=(· <5)) hh H.h0 H.h1))⟩) (Nat.le_of_ble_eq_true rfl)⟩) (Nat.le_of_ble_eq_true rfl)
omit H in
theorem small_two (a:Int):small (a.fmod 2)=true:=by
 have:=(fmN a (n:=2) (Nat.succ_pos _)).1
 have h2:=(fmN a (n:=2) (Nat.succ_pos _)).2
 exact small_bd (show 0≤a.fmod (2:Nat)∧a.fmod (2:Nat)≤1000 by omega)
theorem ups_ev (ρt:Rho):lawE F 40 L.e7 ρt 12=some L.upsD:=by
 unfold LW.upsD
 rw[←H.eu0,←H.eu1]
 exact ev_list (mO_cons (ev_bin (a':= .int 1) (b':= .int (2*((L.cs 3).fdiv 400).fmod 2)) (by kernel_rfl) (ev_bin (a':= .int 2) (b':= .int (((L.cs 3).fdiv 400).fmod 2)) (by kernel_rfl) (by kernel_rfl) (mul_ints rfl (small_two _))) rfl) (mO_cons (ev_bin (a':= .int 1) (b':= .int (2*((L.cs 3).fdiv 800).fmod 2)) (by kernel_rfl) (ev_bin (a':= .int 2) (b':= .int (((L.cs 3).fdiv 800).fmod 2)) (by kernel_rfl) (by kernel_rfl) (mul_ints rfl (small_two _))) rfl) mO_nil)) (Nat.le_of_ble_eq_true rfl)
include J T
theorem law_B {po:Out}(hrun: ∀ρt,LawR F L.e8 ρt 13 po)(ρt:Rho):LawR F L.e0 ρt 4 po:=
 setN (E:=L.e1) rfl rfl rfl rfl (label_ev H T ρt) (by kernel_rfl) fun ρt=>setN (E:=L.e2) rfl rfl rfl rfl (full_ev H T ρt) (by kernel_rfl) fun ρt=>setN (E:=L.e3) rfl rfl rfl rfl (rungs_ev J H T ρt) (by kernel_rfl) fun ρt=>setN (E:=L.e4) rfl rfl rfl rfl (sizes_ev H ρt) (by kernel_rfl) fun ρt=>
 setN (E:=("which",.fr,L.whichD)::L.e4) rfl rfl rfl rfl (which_ev H ρt) (by kernel_rfl) fun ρt=>setN (d:=everyD) (E:=L.e5) rfl rfl rfl rfl (by kernel_rfl) (by kernel_rfl) fun ρt=>setN (E:=L.e6) rfl rfl rfl rfl (hands_ev H ρt) (by kernel_rfl) fun ρt=>setN (E:=L.e7) rfl rfl rfl rfl (spelled_ev J H ρt) (by kernel_rfl) fun ρt=>setN (E:=L.e8) rfl rfl rfl rfl (ups_ev H ρt) (by kernel_rfl) hrun
end
end Mine
namespace Mine
open PySem
theorem ev_get {C:Cfg}{nm:Names}{ρ:Rho}{n:Nat}{o a b:Expr}{ap p:Pos}{kvs:List (Str×D)}{k:Str}{d:D}(hb:baseOk o=true)(hl:ap.endLine=p.line)(h1:ev C n nm ρ o=some (.dict kvs))(h2:ev C n nm ρ a=some (.str k))(h3:ev C n nm ρ b=some d):
  ev C (n+1) nm ρ (.Call (.Attribute o "get" ap) [a,b] [] p)=some ((getK kvs k).getD d):=ev_methV hl (Nat.le_of_ble_eq_true rfl) hb h1 (by
 show(if(Str.ofString "get" :Str)= "get" then(ev C n nm ρ a).bind (fun d=>(asStr d).bind fun k=>(ev C n nm ρ b).map fun d=>(getK kvs k).getD d) else none)=_
 rw[if_pos rfl,h2,h3];rfl)
theorem cut_mem {ms:List (List Nat)}: ∀{ls:List (List Nat)} {l:List Nat},l∈cut ms ls→l∈ls
 |x::r,l,h=>(List.mem_cons.mp h).elim (fun e=>e▸ .head _) fun h=> .tail _ (ite_or (P:=fun q:List (List Nat)=>l∈q→l∈r) (fun ω h=>absurd h List.not_mem_nil) (fun ω h=>cut_mem h) h)
theorem cut_len {ms:List (List Nat)}: ∀(ls:List (List Nat)),(cut ms ls).length≤ls.length
 | []=>Nat.le_refl _
 |x::r=>Nat.succ_le_succ (ite_or (P:=fun q:List (List Nat)=>q.length≤r.length) (fun ω=>Nat.zero_le _) fun ω=>cut_len r)
noncomputable abbrev prs:List (Nat×Nat):=[(103,112),(103,113),(103,114),(103,115),(112,113),(112,114),(112,115),(113,114),(113,115),(114,115)]
noncomputable def FT (n:Nat):List (Nat×List Nat):=([103,112,113,114,115]:List Nat).map fun x=>(x,(prs.take n).filterMap fun e=>if e.1=x then some e.2 else if e.2=x then some e.1 else none)
noncomputable abbrev X4:List Nat:=[103,112,113,114]
noncomputable def bs (i:Nat):Nat:=[0,4,7,9,10].getD i 10
noncomputable def ixOf (x i:Nat):Nat:=bs (X4.idxOf x)+((H4.take i).filter fun y=>decide (x<y)).length
theorem ix_ok: ∀i<4,∀j<4,ltS (c1s (X4.getD i 0)) (c1s (H4.getD j 0))∧prs[ixOf (X4.getD i 0) j]?=some (X4.getD i 0,H4.getD j 0)∧ixOf (X4.getD i 0) (j+1)=ixOf (X4.getD i 0) j+1∨ ¬ltS (c1s (X4.getD i 0)) (c1s (H4.getD j 0))∧ixOf (X4.getD i 0) (j+1)=ixOf (X4.getD i 0) j:=by decide+kernel
theorem bs_ok: ∀i<4,ixOf (X4.getD i 0) 0=bs i∧ixOf (X4.getD i 0) 4=bs (i+1):=by decide+kernel
theorem turn_ix {α:Type}{l dn tl:List α}{x d:α}(h:l=dn++x::tl):dn.length<l.length∧x=l.getD dn.length d:=by
 rw[h,List.length_append,List.getD_eq_getElem?_getD,List.getElem?_append_right (Nat.le_refl _),Nat.sub_self]
 exact⟨Nat.lt_add_of_pos_right (Nat.succ_pos _),rfl⟩
noncomputable def pathL (sg ct:Nat→Nat) (tk:Nat→Str) (x y:Nat):List (List Nat):=cut (chl sg ct tk y) (chl sg ct tk x)++cut (chl sg ct tk x) (chl sg ct tk y)
section
variable (L:LW)
noncomputable abbrev LW.path (x y:Nat):List (List Nat):=pathL L.sg L.ct L.tk x y
noncomputable def LW.vP (x y:Nat):D:=V (wayV L.z0 L.z1 L.h0 L.h1 (L.path x y))
noncomputable def LW.mkF (l:List (Nat×List Nat)):List (Str×D):=l.map fun e=>(c1s e.1,.dict (e.2.map fun y=>(c1s y,if e.1<y then L.vP e.1 y else L.vP y e.1)))
noncomputable abbrev LW.farR (n:Nat):Rho:=("far",.o2,.dict (L.mkF (FT n)))::L.e8
noncomputable abbrev LW.nmR (x n:Nat):Rho:=("name",.fr,.str (c1s x))::L.farR n
noncomputable abbrev LW.mtR (x y n:Nat):Rho:=("mate",.fr,.str (c1s y))::L.nmR x n
noncomputable abbrev LW.txR (x y n:Nat) (t:List Nat):Rho:=("text",.fr,.str (S t))::L.mtR x y n
end
noncomputable def stepO (t:List (Str×D)) (x y:Str) (v:D):Option (List (Str×D)):=(getK t x).bind fun d=>(asDict d).bind fun a=>iteO (a.length≤lim) ((getK (putK t x (.dict (putK a y v))) x).bind fun d=>(asDict d).bind fun i=>(getK i y).bind fun w=>
 (getK (putK t x (.dict (putK a y v))) y).bind fun d=>(asDict d).bind fun b=>iteO (b.length≤lim) (some (putK (putK t x (.dict (putK a y v))) y (.dict (putK b x w)))))
noncomputable def stepsOk (L:LW) (n x y:Nat):Prop:=stepO (L.mkF (FT n)) (c1s x) (c1s y) (L.vP x y)=some (L.mkF (FT (n+1)))
theorem steps (L:LW){e:Nat×Nat}: ∀{n},prs[n]?=some e→stepsOk L n e.1 e.2
 |0,h=>Option.some.inj h▸by unfold stepsOk;kernel_rfl
 |1,h=>Option.some.inj h▸by unfold stepsOk;kernel_rfl
 |2,h=>Option.some.inj h▸by unfold stepsOk;kernel_rfl
 |3,h=>Option.some.inj h▸by unfold stepsOk;kernel_rfl
 |4,h=>Option.some.inj h▸by unfold stepsOk;kernel_rfl
 |5,h=>Option.some.inj h▸by unfold stepsOk;kernel_rfl
 |6,h=>Option.some.inj h▸by unfold stepsOk;kernel_rfl
 |7,h=>Option.some.inj h▸by unfold stepsOk;kernel_rfl
 |8,h=>Option.some.inj h▸by unfold stepsOk;kernel_rfl
 |9,h=>Option.some.inj h▸by unfold stepsOk;kernel_rfl
noncomputable def farB:List Stmt:=sB ((fn 29).body.getD 14 (.Pass p0))
noncomputable def innB:List Stmt:=sB (farB.getD 0 (.Pass p0))
noncomputable def putB:List Stmt:=sB (innB.getD 0 (.Pass p0))
theorem X4_or {x:Nat}(h:x∈X4):x=103∨x∈H4:=by revert h x;decide
theorem H4_ne {x:Nat}(h:x∈H4):(!(c1s x==c1s 103))=true:=by revert h x;decide
section
variable {F:Addr→List D→Option D}(J:LJ F){L:LW}(H:L.Ok)(T:TK L.tk){x y:Nat}
include T in
theorem chl_g:L.chl 103= []:=congrArg (List.map L.lab) T.none
include H T in
theorem path_Labs (hx:x∈X4)(hy:y∈H4):Labs (L.path x y):=by
 have hl:(L.chl x).length≤4:=(X4_or hx).elim (fun e=>by rw[e,chl_g T];exact Nat.zero_le _) (chl_len T)
 refine⟨fun l hl=>(List.mem_append.mp hl).elim (fun q=>(H.chl x).1 l (cut_mem q)) fun q=>(H.chl y).1 l (cut_mem q),?_⟩
 refine Nat.le_trans (Nat.le_of_eq List.length_append) (Nat.add_le_add (Nat.le_trans (cut_len _) hl) (Nat.le_trans (cut_len _) (chl_len T hy)))
theorem full_get (hx:x∈H4):getK (H4.map fun c=>(c1s c,D.str (S (L.nm c)))) (c1s x)=some (.str (S (L.nm x))):=getK_ix (tk:=c1s) H4_nodup hx
include T in
theorem full_getD (hx:x∈X4):(getK (H4.map fun c=>(c1s c,D.str (S (L.nm c)))) (c1s x)).getD (.str (S L.g))= .str (S (L.nm x)):=(X4_or hx).elim (fun e=>by rw[e,LW.nm,chl_g T];rfl) fun h=>by rw[full_get h];rfl
theorem rungs_get (hx:x∈H4):getK (H4.map fun c=>(c1s c,strL (lad L.g (L.chl c)))) (c1s x)=some (strL (lad L.g (L.chl x))):=getK_ix (tk:=c1s) H4_nodup hx
include J H T
theorem part_at {ms:List (List Nat)}(hy:y∈H4)(hm:Labs ms):F 245 [strL (lad L.g (L.chl y)),.str (S (nmL L.g ms))]=some (.str (S (dots (cut ms (L.chl y))))):=by
 have h1:=H.chl y
 have h2:=chl_len T hy
 have h3:L.chl y≠ []:=fun h=>(T.four y hy).1 (List.map_eq_nil_iff.mp h)
 generalize L.chl y=q at*
 cases q with
 |nil=>exact absurd rfl h3
 |cons l r=>exact J.part _ l r ms H.g h1 hm (Nat.le_of_succ_le h2)
theorem far_text {n:Nat}(hx:x∈X4)(hy:y∈H4){po:Out}(k: ∀ρt,Runs (mkC F) 40 37 (fn 29).names (L.txR x y n (dots (L.path x y))++ρt) (putB.drop 2) po)(ρt:Rho):Runs (mkC F) 40 37 (fn 29).names (L.mtR x y n++ρt) putB po:=by
 have hdl: ∀{ms:List (List Nat)} (c:Nat),(dots (cut ms (L.chl c))).length≤32:=fun c=>Nat.le_trans (dots_len fun l hl=>(H.chl c).1 l (cut_mem hl)) (Nat.mul_le_mul_left 4 (Nat.le_trans (cut_len _) (H.chl c).2))
 refine setN (d:= .str (S (dots (cut (L.chl x) (L.chl y))))) (E:=L.txR x y n (dots (cut (L.chl x) (L.chl y)))) rfl rfl rfl rfl (ev_obj (a:=245) (by kernel_rfl) rfl (mO_cons (b:=strL (lad L.g (L.chl y))) (ev_key (kvs:=H4.map fun c=>(c1s c,strL (lad L.g (L.chl c)))) (z:=c1s y) (by kernel_rfl) (by kernel_rfl) (rungs_get hy)) (mO_cons (b:=D.str (S (L.nm x))) ((ev_get (kvs:=H4.map fun c=>(c1s c,D.str (S (L.nm c)))) (k:=c1s x) (d:= .str (S L.g)) rfl rfl (by kernel_rfl) (by kernel_rfl) (by kernel_rfl)).trans (congrArg some (full_getD T hx))) mO_nil)) (part_at J H T hy (H.chl x))) (by kernel_rfl) fun ρt=> ?_
 have e:dots (L.path x y)=dots (cut (L.chl y) (L.chl x))++dots (cut (L.chl x) (L.chl y)):=dots_app _ _
 refine if0 (c:= !(c1s x==c1s 103)) rfl rfl (by kernel_rfl) (fun hq=> ?_) (fun hq=> ?_) k
 ·have hx4:x∈H4:=(X4_or hx).resolve_left fun e=>by rw[e] at hq;cases hq
  exact setN (d:= .str (S (dots (L.path x y)))) rfl rfl rfl rfl (ev_bin (a':= .str (S (dots (cut (L.chl y) (L.chl x))))) (b':= .str (S (dots (cut (L.chl x) (L.chl y))))) (ev_obj (a:=245) (by kernel_rfl) rfl (mO_cons (b:=strL (lad L.g (L.chl x))) (ev_key (kvs:=H4.map fun c=>(c1s c,strL (lad L.g (L.chl c)))) (z:=c1s x) (by kernel_rfl) (by kernel_rfl) (rungs_get hx4)) (mO_cons (b:=D.str (S (L.nm y))) (ev_key (kvs:=H4.map fun c=>(c1s c,D.str (S (L.nm c)))) (z:=c1s y) (by kernel_rfl) (by kernel_rfl) (full_get hy)) mO_nil)) (part_at J H T hx4 (H.chl y))) (by kernel_rfl)
   ((add_str (Nat.le_trans (Nat.add_le_add (hdl x) (hdl y)) (Nat.le_of_ble_eq_true rfl))).trans (by rw[e]))) (by kernel_rfl) fun ρt=> .fin
 ·have hx:x=103:=(X4_or hx).resolve_right fun h=>Bool.false_ne_true (hq.symm.trans (H4_ne h))
  rw[e,hx,chl_g T]
  exact .fin
theorem far_put {n:Nat}(hx:x∈X4)(hy:y∈H4)(hs:stepsOk L n x y)(ρt:Rho):Runs (mkC F) 40 37 (fn 29).names (L.txR x y n (dots (L.path x y))++ρt) (putB.drop 2) (.next (L.nmR x (n+1))):=
 ob hs fun ω g1 h=>ob h fun a e1 h=>oi h fun l1 h=>ob h fun d g2 h=>ob h fun i e2 h=>ob h fun w g3 h=>ob h fun ω g4 h=>ob h fun b e4 h=>oi h fun l2 hf=>by
  cases asDict_inv e1
  cases asDict_inv e2
  cases asDict_inv e4
  have hf:=Option.some.inj hf
  unfold LW.nmR LW.farR
  generalize L.mkF (FT (n+1))=t2 at hf⊢
  subst hf
  refine asg0 (E:=("far",.o2,.dict (putK (L.mkF (FT n)) (c1s x) (.dict (putK a (c1s y) (L.vP x y)))))::("mate",.fr,.str (c1s y))::("name",.fr,.str (c1s x))::L.e8) rfl rfl (asg_two (kvs:=L.mkF (FT n)) (k:=c1s x) (l:=c1s y) (inn:=a) (d:=L.vP x y) rfl (by kernel_rfl) (by kernel_rfl) (by kernel_rfl) (ev_obj (a:=250) (by kernel_rfl) rfl (mO_cons (b:=D.str (S (dots (L.path x y)))) (by kernel_rfl) (mO_cons (b:=L.sizesD) (by kernel_rfl) (mO_cons (b:=L.handsD) (by kernel_rfl) mO_nil))) (J.way _ _ _ _ _ (path_Labs H T hx hy) H.z0 H.z1 H.h0 H.h1)) g1 l1) (by kernel_rfl) fun ρt=> ?_
  exact asg0 rfl rfl (asg_two (k:=c1s y) (l:=c1s x) (inn:=b) (d:=w) rfl (by kernel_rfl) (by kernel_rfl) (by kernel_rfl) (ev_item_o2 (d:= .dict i) (i':= .str (c1s y)) rfl (by kernel_rfl) (by kernel_rfl) (by kernel_rfl) g2 g3) g4 l2) (by kernel_rfl) fun ρt=> .fin
theorem far_turn {i j:Nat}(hi:i<4)(hj:j<4)(ρt:Rho):Runs (mkC F) 40 38 (fn 29).names (L.mtR (X4.getD i 0) (H4.getD j 0) (ixOf (X4.getD i 0) j)++ρt) innB (.next (L.nmR (X4.getD i 0) (ixOf (X4.getD i 0) (j+1)))):=by
 have hx: ∀i<4,X4.getD i 0∈X4:=by decide
 have hy: ∀j<4,H4.getD j 0∈H4:=by decide
 have hx:=hx i hi
 have hy:=hy j hj
 have h:=ix_ok i hi j hj
 generalize X4.getD i 0=x at*
 generalize H4.getD j 0=y at*
 obtain⟨h1,h2,h3⟩|⟨h1,h2⟩:=h
 ·rw[h3]
  exact if0 (c:=true) rfl rfl ((by kernel_rfl:_=some (decide (ltS (c1s x) (c1s y)))).trans (by rw[decide_eq_true h1])) (fun ω=>far_text J H T hx hy (far_put J H T hx hy (steps (e:=(x,y)) L h2)) ρt) (fun h=>nomatch h) fun ρt=> .fin
 ·rw[h2]
  exact ifF0 rfl rfl ((by kernel_rfl:_=some (decide (ltS (c1s x) (c1s y)))).trans (by rw[decide_eq_false h1])) (.nil (by kernel_rfl))
theorem far_row {i:Nat}(hi:i<4)(ρt:Rho):Runs (mkC F) 40 39 (fn 29).names (L.nmR (X4.getD i 0) (bs i)++ρt) farB (.next (L.farR (bs (i+1)))):=by
 obtain⟨h0,h4⟩:=bs_ok i hi
 refine forI (fun c=> .str (c1s c)) (fun dn=>L.nmR (X4.getD i 0) (ixOf (X4.getD i 0) dn.length)) H4 rfl rfl (by kernel_rfl) rfl ?_ (fun dn y tl e ρt=>⟨_,rfl,?_⟩) fun ρt=> .nil ?_
 ·exact(fun k e=>e▸vals_app _ ρt: ∀k,bs i=k→vals (L.nmR (X4.getD i 0) (bs i)++ρt) (L.nmR (X4.getD i 0) k)=vals (L.nmR (X4.getD i 0) k) (L.nmR (X4.getD i 0) k)) _ h0.symm
 ·obtain⟨h1,h2⟩:=turn_ix (d:=0) e
  rw[List.length_append,h2]
  exact .on _ (by kernel_rfl) (far_turn J H T hi h1)
 ·show vals (L.nmR (X4.getD i 0) (ixOf (X4.getD i 0) 4)++ρt) _=_
  rw[h4]
  kernel_rfl
theorem law_C {po:Out}(hrun: ∀ρt,LawR F (L.farR 10) ρt 15 po)(ρt:Rho):LawR F L.e8 ρt 13 po:=by
 refine .blk 1 (L.farR 0) (by kernel_rfl) fun ρt=> ?_
 refine forI (fun c=> .str (c1s c)) (fun dn=>L.farR (bs dn.length)) X4 rfl rfl (by kernel_rfl) rfl (by kernel_rfl) (fun dn x tl e ρt=>⟨_,rfl,?_⟩) hrun
 obtain⟨h1,h2⟩:=turn_ix (d:=0) e
 rw[List.length_append,h2]
 exact .on _ (by kernel_rfl) (far_row J H T h1)
end
end Mine
namespace Mine
open PySem
noncomputable abbrev G5:List Nat:=[103,112,113,114,115]
noncomputable abbrev N5:List Str:=G5.map c1s
noncomputable def cutN (ms:List Nat):List Nat→List Nat
 | []=>[]
 |x::r=>x::(if r<:+ms then [] else cutN ms r)
theorem suf_map {f:Nat→List Nat}(hf: ∀a b,f a=f b→a=b){r ms:List Nat}:(r.map f<:+ms.map f)↔r<:+ms:=⟨fun h=>by obtain⟨l,h1,h2⟩:=List.suffix_map_iff.mp h;exact(List.map_inj_right fun{a b}=>hf a b).mp h2▸h1,fun z0=>by obtain⟨t,h⟩:=z0;exact⟨t.map f,h▸List.map_append.symm⟩⟩
theorem cut_map {f:Nat→List Nat}(hf: ∀a b,f a=f b→a=b)(ms:List Nat): ∀ls:List Nat,cut (ms.map f) (ls.map f)=(cutN ms ls).map f
 | []=>rfl
 |x::r=>by
  rw[List.map_cons]
  unfold cut cutN
  rw[cut_map hf ms r]
  by_cases h:r<:+ms
  ·rw[if_pos h,if_pos ((suf_map hf).mpr h)];rfl
  ·rw[if_neg h,if_neg fun q=>h ((suf_map hf).mp q)];rfl
theorem lab_inj {sg ct:Nat→Nat}(a b:Nat)(h:lab sg ct a=lab sg ct b):a=b:=Nat.add_left_cancel (List.cons.inj h).1
noncomputable def pathN (tk:Nat→Str) (x y:Nat):List Nat:=cutN (chain tk y) (chain tk x)++cutN (chain tk x) (chain tk y)
theorem pathL_N (sg ct:Nat→Nat)(tk:Nat→Str)(x y:Nat):pathL sg ct tk x y=(pathN tk x y).map (lab sg ct):=by
 unfold pathL pathN chl
 rw[cut_map lab_inj,cut_map lab_inj,List.map_append]
noncomputable def fl (e:Str):Int:=if([1,4]:List Int).contains (e.length:Int) then 1 else 0
noncomputable def chT (T:List Str) (c:Nat):List Nat:=K7.filter fun k=>(T.getD k ⟨#[]⟩).cps.toList.contains c
noncomputable def pathT (T:List Str) (x y:Nat):List Nat:=cutN (chT T y) (chT T x)++cutN (chT T x) (chT T y)
noncomputable def okXY (T:List Str) (x y:Nat):Bool:=(pathT T x y).isPerm (K7.filter fun k=>sI (T.getD k ⟨#[]⟩) (c1s x) (c1s y)==1)&&((pathT T x y).map fun k=>fl (T.getD k ⟨#[]⟩)).sum==2
noncomputable def okP (T:List Str):Bool:=G5.all fun x=>H4.all fun y=> !decide (x<y)||okXY T x y
noncomputable def okT (T:List Str):Bool:=decide (T.length=7)&&(decide T.Nodup&&(K7.all (fun k=>decide ((T.getD k ⟨#[]⟩).length≤8))&&(H4.all (fun c=> !isNil (chT T c)&&decide ((chT T c).length≤4))&&(isNil (chT T 103)&&(decide (T.getD 0 ⟨#[]⟩=c1s 112)&&(okTree 3 N5 T [] T&&okP T))))))
theorem ok_all:((List.range 6).all fun i=>(List.range 3).all fun j=>someB okT (go? i j))=true:=by kernel_rfl
structure TQ (tk:Nat→Str):Prop where
 toTK:TK tk
 p:tk 0=c1s 112
 len: ∀k∈K7,(tk k).length≤8
 tree:okTree 3 N5 (K7.map tk) [] (K7.map tk)=true
 path: ∀x∈G5,∀y∈H4,x<y→(pathN tk x y).Perm (K7.filter fun k=>sI (tk k) (c1s x) (c1s y)==1)∧((pathN tk x y).map fun k=>fl (tk k)).sum=2
theorem seven: ∀{T:List Str},T.length=7→K7.map (fun k=>T.getD k ⟨#[]⟩)=T
 | [_,_,_,_,_,_,_],_=>rfl
theorem ch_T (T:List Str)(c:Nat):chain (fun k=>T.getD k ⟨#[]⟩) c=chT T c:=List.filter_congr fun k ω=>(congrArg (hasSub (c1s c)) (S_list _).symm).trans (hasC c _)
theorem path_T (T:List Str)(x y:Nat):pathN (fun k=>T.getD k ⟨#[]⟩) x y=pathT T x y:=by
 unfold pathN pathT
 rw[ch_T,ch_T]
theorem nil_of {α:Type}: ∀{l:List α},isNil l=true→l= []
 | [],_=>rfl
theorem tq_of {i0 i1:Nat}(h0:i0<6)(h1:i1<3): ∃tk:Nat→Str,go? i0 i1=some (K7.map tk)∧TQ tk:=
 sb (List.all_eq_true.mp (List.all_eq_true.mp ok_all i0 (List.mem_range.mpr h0)) i1 (List.mem_range.mpr h1)) fun T hT h=>ab h fun a1 h=>ab h fun a2 h=>ab h fun a8 h=>ab h fun a3 h=>ab h fun a4 h=>ab h fun a5 h=>ab h fun a6 a7=>by
  have e:=seven (of_decide_eq_true a1)
  refine⟨fun k=>T.getD k ⟨#[]⟩,e.symm▸hT,⟨e.symm▸of_decide_eq_true a2,fun c hc=> ?_,(ch_T T 103).trans (nil_of a4)⟩,of_decide_eq_true a5,fun k hk=>of_decide_eq_true (List.all_eq_true.mp a8 k hk),e.symm▸a6,fun x hx y hy hxy=> ?_⟩
  ·rw[ch_T]
   exact ab (List.all_eq_true.mp a3 c hc) fun q1 q2=>⟨(fun q=>by rw[q] at q1;exact nomatch q1),of_decide_eq_true q2⟩
  ·rw[path_T]
   have q:=(Bool.or_eq_true_iff.mp (List.all_eq_true.mp (List.all_eq_true.mp a7 x hx) y hy)).resolve_left fun q=>absurd hxy (of_decide_eq_false (not_t q))
   exact ab q fun q1 q2=>⟨List.isPerm_iff.mp q1,beq_iff_eq.mp q2⟩
noncomputable def tw (k:Nat) (x:Int):Int:=match k with
 |0=>x
 |1=>x
 |_=>0
noncomputable def mz (z c:Nat):Int:=(z:Int)*((((c+1) / z:Nat):Int)+1)
section
variable (L:LW)
noncomputable def LW.wv (i k:Nat):Int:=match k with
 |0=>mz L.z0 (L.ct i)
 |1=>mz L.z1 (L.ct i)
 |2=>((escL L.h0 (L.lab i)).length:Int)+1
 |_=>((escL L.h1 (L.lab i)).length:Int)+1
noncomputable def ixT (tk:Nat→Str) (e:Str):Nat:=(K7.find? fun i=>decide (tk i=e)).getD 0
noncomputable def LW.wE (e:Str) (k:Nat):Int:=L.wv (ixT L.tk e) k+tw k (fl e)
end
theorem ix_tk {tk:Nat→Str}(h:(K7.map tk).Nodup){i:Nat}(hi:i∈K7):ixT tk (tk i)=i:=congrArg (Option.getD · 0) (find_ix h hi)
theorem esc_app (h:Nat)(a b:List Nat):escL h (a++b)=escL h a++escL h b:=List.flatMap_append
theorem esc_dot: ∀h:Nat,escL h [46]= [46]
 |0=>rfl
 |1=>rfl
 |2=>rfl
 |3=>rfl
 |_+4=>rfl
theorem esc_dots (h:Nat): ∀ls:List (List Nat),((escL h (dots ls)).length:Int)=(ls.map fun l=>((escL h l).length:Int)+1).sum
 | []=>rfl
 |l::r=>by
  rw[show dots (l::r)=l++([46]++dots r) from rfl,esc_app,esc_app,esc_dot,List.length_append,List.length_append,List.map_cons,List.sum_cons,←esc_dots h r,List.length_singleton,Int.natCast_add,Int.natCast_add,Int.add_assoc];rfl
theorem sum_mul (z:Int){α:Type}(f:α→Int): ∀l:List α,z*(l.map f).sum=(l.map fun x=>z*f x).sum
 | []=>Int.mul_zero z
 |a::l=>by rw[List.map_cons,List.sum_cons,Int.mul_add,sum_mul z f l];rfl
theorem lab_len (sg ct:Nat→Nat)(i:Nat):(lab sg ct i).length=ct i+1:=congrArg (· +1) List.length_replicate
theorem way_lab (L:LW)(z:Nat)(P:List Nat):(z:Int)*wayS z (P.map L.lab)=(P.map fun i=>mz z (L.ct i)).sum:=by
 unfold wayS
 rw[sum_mul,List.map_map]
 exact congrArg List.sum (List.map_congr_left fun i ω=>by show(z:Int)*((((L.lab i).length / z:Nat):Int)+1)=_;rw[LW.lab,lab_len];rfl)
theorem esc_lab (L:LW)(h:Nat)(P:List Nat):((escL h (dots (P.map L.lab))).length:Int)=(P.map fun i=>((escL h (L.lab i)).length:Int)+1).sum+0:=by rw[esc_dots,List.map_map,Int.add_zero];rfl
theorem wayV_sum (L:LW)(P:List Nat): ∀k:Nat,wayV L.z0 L.z1 L.h0 L.h1 (P.map L.lab) k=(P.map fun i=>L.wv i k).sum+tw k 2
 |0=>(congrArg (2+ ·) (way_lab L L.z0 P)).trans (Int.add_comm _ _)
 |1=>(congrArg (2+ ·) (way_lab L L.z1 P)).trans (Int.add_comm _ _)
 |2=>esc_lab L L.h0 P
 |_+3=>esc_lab L L.h1 P
theorem sum_add {α:Type}(f g:α→Int): ∀l:List α,(l.map fun i=>f i+g i).sum=(l.map f).sum+(l.map g).sum
 | []=>rfl
 |a::l=>by
  rw[List.map_cons,List.sum_cons,sum_add f g l,List.map_cons,List.map_cons,List.sum_cons,List.sum_cons]
  omega
theorem sum_sel {α:Type}(s u:α→Int)(h: ∀i,s i=0∨s i=1): ∀l:List α,(l.map fun i=>s i*u i).sum=((l.filter fun i=>s i==1).map u).sum
 | []=>rfl
 |a::l=>by
  rw[List.map_cons,List.sum_cons,sum_sel s u h l,List.filter_cons]
  exact(h a).elim (fun e=>by rw[e,Int.zero_mul];exact Int.zero_add _) fun e=>by rw[e,Int.one_mul];exact List.sum_cons.symm
theorem sI_or (e x y:Str):sI e x y=0∨sI e x y=1:=ite_or (P:=fun z:Int=>z=0∨z=1) (fun ω=> .inr rfl) fun ω=> .inl rfl
theorem dT_way {L:LW}(Q:TQ L.tk){x y:Nat}(hx:x∈G5)(hy:y∈H4)(hxy:x<y)(k:Nat):dT (K7.map L.tk) L.wE (c1s x) (c1s y) k=wayV L.z0 L.z1 L.h0 L.h1 (L.path x y) k:=by
 obtain⟨q1,q2⟩:=Q.path x hx y hy hxy
 have e1:(K7.map L.tk).map (fun e=>sI e (c1s x) (c1s y)*L.wE e k)=K7.map fun i=>sI (L.tk i) (c1s x) (c1s y)*(L.wv i k+tw k (fl (L.tk i))):=List.map_map.trans (List.map_congr_left fun i hi=>by
  show _*(L.wv (ixT L.tk (L.tk i)) k+tw k (fl (L.tk i)))=_
  rw[ix_tk Q.toTK.nodup hi])
 unfold dT lin
 rw[e1,sum_sel _ _ fun i=>sI_or _ _ _,←perm_sum (f:=fun i=>L.wv i k+tw k (fl (L.tk i))) q1,sum_add,LW.path,pathL_N,wayV_sum]
 exact congrArg (_+ ·) (match k with
  |0=>q2
  |1=>q2
  |_+2=>sum_zero _)
theorem sp_le (h c:Nat):(sp (tbl h) c).length≤6:=sp_len (esc_tbl h) c
theorem mz_ok: ∀c<3,∀z<5,1≤z→0<mz z c∧mz z c≤1000:=by decide
theorem fl_ok (e:Str):0≤fl e∧fl e≤1:=ite_or (P:=fun z:Int=>0≤z∧z≤1) (fun ω=>by decide) fun ω=>by decide
theorem tw_ok {x:Int}(h:0≤x∧x≤1): ∀k,0≤tw k x∧tw k x≤1
 |0=>h
 |1=>h
 |_+2=>⟨Int.le_refl 0,(by decide:(0:Int)≤1)⟩
theorem esc_bd {L:LW}(H:L.Ok)(h i:Nat):0<((escL h (L.lab i)).length:Int)+1∧((escL h (L.lab i)).length:Int)+1≤1000:=by
 have h1:=flat_len (f:=sp (tbl h)) (N:=6) (L.lab i) fun c ω=>sp_le h c
 rw[LW.lab,lab_len] at h1
 have h2:=H.ct i
 show 0<(((lab L.sg L.ct i).flatMap (sp (tbl h))).length:Int)+1∧(((lab L.sg L.ct i).flatMap (sp (tbl h))).length:Int)+1≤1000
 omega
theorem wv_bd {L:LW}(H:L.Ok)(i:Nat): ∀k,0<L.wv i k∧L.wv i k≤1000
 |0=>mz_ok _ (H.ct i) _ (Nat.lt_succ_of_le H.z0.2) H.z0.1
 |1=>mz_ok _ (H.ct i) _ (Nat.lt_succ_of_le H.z1.2) H.z1.1
 |2=>esc_bd H _ _
 |_+3=>esc_bd H _ _
theorem wE_pos {L:LW}(H:L.Ok)(e:Str)(k:Nat):0<L.wE e k∧L.wE e k≤1000000:=by
 have h1:=wv_bd H (ixT L.tk e) k
 have h2:=tw_ok (fl_ok e) k
 unfold LW.wE
 omega
noncomputable def hcS (x:Str):Nat:=x.cps.toList.headD 0
noncomputable def LW.dS (L:LW) (x y:Str) (k:Nat):Int:=wayV L.z0 L.z1 L.h0 L.h1 (L.path (min (hcS x) (hcS y)) (max (hcS x) (hcS y))) k
theorem far_full (L:LW):D.dict (L.mkF (FT 10))=farD N5 (others N5) L.dS:=by kernel_rfl
theorem dS_symm (L:LW)(x y:Str)(k:Nat):L.dS x y k=L.dS y x k:=by unfold LW.dS;rw[Nat.min_comm,Nat.max_comm]
theorem dS_lt {L:LW}(Q:TQ L.tk){a b:Nat}(ha:a∈G5)(hb:b∈G5)(h:a<b)(k:Nat):L.dS (c1s a) (c1s b) k=dT (K7.map L.tk) L.wE (c1s a) (c1s b) k:=by
 have hb:b∈H4:=(List.mem_cons.mp hb).resolve_left fun e=>absurd (e▸h) ((by decide: ∀a∈G5,¬a<103) a ha)
 rw[dT_way Q ha hb h]
 show wayV _ _ _ _ (L.path (min a b) (max a b)) k=_
 rw[Nat.min_eq_left (Nat.le_of_lt h),Nat.max_eq_right (Nat.le_of_lt h)]
theorem dS_on {L:LW}(Q:TQ L.tk):OnT (K7.map L.tk) L.wE N5 L.dS:=fun x hx y hy hxy k=>by
 obtain⟨a,ha,rfl⟩:=List.mem_map.mp hx
 obtain⟨b,hb,rfl⟩:=List.mem_map.mp hy
 exact(Nat.lt_or_gt_of_ne fun q=>hxy (congrArg c1s q)).elim (fun q=>dS_lt Q ha hb q k) fun q=>(dS_symm L _ _ k).trans ((dS_lt Q hb ha q k).trans (lin_congr fun e ω=>sI_symm _ _ _))
theorem joined_is {F:Addr→List D→Option D}(J:LJ F){L:LW}(H:L.Ok)(Q:TQ L.tk): ∃K:List Str,F 260 [.dict (L.mkF (FT 10)),L.upsD,.int (L.col:Int)]=some (.dict (kvV K L.wE))∧K.Nodup∧ ∀e,e∈K↔e∈K7.map L.tk:=by
 obtain⟨K,hP,h1,h2⟩:=path_of (w:=L.wE) (c:=L.col) H.u0 H.u1 (T0:=K7.map L.tk) (fun e ω k=>wE_pos H e k) 3 N5 (K7.map L.tk) [] Q.tree (fun ω h=>h) (Nat.le_of_ble_eq_true rfl) N5 (others N5) L.dS (by rw[sortS_is];kernel_rfl) (.refl _) (fun ω ω=> .refl _) (dS_on Q) (dS_symm L)
 exact⟨K,far_full L▸J.joined _ _ _ N5 N5 (others N5) _ _ H.u0 H.u1 H.col hP,h1,h2⟩
end Mine
namespace Mine
open PySem
section
variable {C:Cfg}{nm:Names}{ρ:Rho}{n m:Nat}{l r t:Expr}{p:Pos}{a' b':D}{c:Bool}{bd b rs:List Stmt}{po:Out}
theorem ev_in {op:CmpOp}(hn:nameOf r=none)(h1:ev C n nm ρ l=some a')(h2:ev C n nm ρ r=some b')(h3:cmpD op a' b'=some c):ev C (n+1) nm ρ (.Compare l [op] [r] p)=some (.bool c):=by
 show((ev C n nm ρ l).bind fun a=>(rhsN (mkV C (ev C n) nm ρ) op r (nameOf r)).bind fun b=>(cmpD op a b).map D.bool)=_
 rw[hn,h1]
 show((ev C n nm ρ r).bind fun b=>(cmpD op a' b).map D.bool)=_
 rw[h2]
 show(cmpD op a' b').map D.bool=_
 rw[h3];rfl
theorem ifFz (Ef:Rho)(hb:b= .If t bd [] p::rs)(h:vals (frzR ρ (C.frz p.line)) Ef=vals Ef Ef)(ht: ∀ρt,tstE (ev C n nm (Ef++ρt)) 8 t=some false)(k: ∀ρt,Runs C n (m+1) nm (Ef++ρt) rs po):Runs C n (m+1) nm ρ b po:= .frz Ef hb h (fun ρt=>⟨Ef++ρt,by
 show(tstE (ev C n nm (Ef++ρt)) 8 t).bind _=_
 rw[ht];rfl,vals_app Ef ρt⟩) k
end
theorem sp_low: ∀h<5,∀i∈K7,sp (tbl h) (112+i)= [112+i]:=by decide
theorem esc_lab_at (L:LW){h i:Nat}(hh:h<5)(hi:i∈K7):escL h (L.lab i)=(112+i)::(List.replicate (L.ct i) (sp (tbl h) (L.sg i))).flatten:=by
 show((112+i)::List.replicate (L.ct i) (L.sg i)).flatMap (sp (tbl h))=_
 rw[List.flatMap_cons,sp_low h hh i hi,List.flatMap_replicate]
 rfl
noncomputable abbrev LW.spl (L:LW) (h i:Nat):List Nat:=sp (tbl h) (L.sg i)
theorem esc_lab_len (L:LW){h i:Nat}(hh:h<5)(hi:i∈K7):((escL h (L.lab i)).length:Int)+1=2+(L.ct i:Int)*((L.spl h i).length:Int):=by
 rw[esc_lab_at L hh hi,List.length_cons,List.length_flatten,List.map_replicate,List.sum_replicate_nat,Int.natCast_add,Int.natCast_mul,Int.add_assoc,Int.add_comm];rfl
section
variable (L:LW)
noncomputable abbrev LW.dueR (dn:List Nat):Rho:=("due",.o1,.dict (kvV (dn.map L.tk) L.wE))::L.farR 10
noncomputable abbrev LW.kR (y:Nat) (dn:List Nat):Rho:=("k",.fr,.int (y:Int))::L.dueR dn
noncomputable abbrev LW.cntR (y:Nat) (dn:List Nat):Rho:=("count",.fr,.int (L.ct y:Int))::L.kR y dn
noncomputable def LW.mzD (y:Nat):D:= .list [.int (mz L.z0 (L.ct y)),.int (mz L.z1 (L.ct y))]
noncomputable def LW.edD (y:Nat):D:= .list [.int (mz L.z0 (L.ct y)+fl (L.tk y)),.int (mz L.z1 (L.ct y)+fl (L.tk y))]
noncomputable abbrev LW.edR (y:Nat) (dn:List Nat) (d:D):Rho:=("edge",.fr,d)::L.cntR y dn
end
noncomputable def dueB:List Stmt:=sB ((fn 29).body.getD 16 (.Pass p0))
noncomputable abbrev dueX (k:Nat):Expr:=sE (dueB.getD k (.Pass p0))
noncomputable abbrev dueE (F:Addr→List D→Option D) (E ρt:Rho) (k:Nat):Option D:=ev (mkC F) 40 (fn 29).names (E++ρt) (dueX k)
section
variable {F:Addr→List D→Option D}(J:LJ F){L:LW}(H:L.Ok)(Q:TQ L.tk){y:Nat}{dn:List Nat}(hy:y∈K7)
include H in
theorem edge_ev (ρt:Rho):dueE F (L.cntR y dn) ρt 1=some (L.mzD y):=by
 refine ev_map [L.z0,L.z1] (fun z:Nat=> .int (z:Int)) (fun z=> .int (mz z (L.ct y))) (iter_name (d:=L.sizesD) (by kernel_rfl) rfl) rfl (by kernel_rfl) (fun z hz=>⟨_,rfl,?_⟩) (Nat.le_of_ble_eq_true rfl)
 obtain⟨q1,q2⟩:=mem_two (P:=fun z=>1≤z∧z≤4) hz H.z0 H.z1
 obtain⟨w,rfl⟩: ∃w,z=w+1:=⟨z - 1,(Nat.sub_add_cancel q1).symm⟩
 have hw:w≤3:=Nat.le_of_succ_le_succ q2
 have hc:L.ct y≤3:=Nat.le_of_lt (H.ct y)
 clear hz q1 q2
 unfold LW.cntR
 generalize L.ct y=c at hc⊢
 exact nat3 (nat3 (by kernel_rfl) (by kernel_rfl) (by kernel_rfl) (by kernel_rfl) hc) (nat3 (by kernel_rfl) (by kernel_rfl) (by kernel_rfl) (by kernel_rfl) hc) (nat3 (by kernel_rfl) (by kernel_rfl) (by kernel_rfl) (by kernel_rfl) hc) (nat3 (by kernel_rfl) (by kernel_rfl) (by kernel_rfl) (by kernel_rfl) hc) hw
include H hy Q
theorem row_ev (ρt:Rho):dueE F (L.edR y dn (L.edD y)) ρt 3=some (V (L.wE (L.tk y))):=by
 have e: ∀k,L.wE (L.tk y) k=L.wv y k+tw k (fl (L.tk y)):=fun k=>by rw[LW.wE,ix_tk Q.toTK.nodup hy]
 have hv:V (L.wE (L.tk y))= .tup [.int (mz L.z0 (L.ct y)+fl (L.tk y)),.int (mz L.z1 (L.ct y)+fl (L.tk y)),.int (2+(L.ct y:Int)*((L.spl L.h0 y).length:Int)),.int (2+(L.ct y:Int)*((L.spl L.h1 y).length:Int))]:=by
  rw[←esc_lab_len L H.h0 hy,←esc_lab_len L H.h1 hy,V,e,e,e,e,←Int.add_zero (_+1),←Int.add_zero (((escL L.h1 (L.lab y)).length:Int)+1)];rfl
 rw[hv]
 refine ev_ty (n':= "tuple") (d:= .list [.int (mz L.z0 (L.ct y)+fl (L.tk y)),.int (mz L.z1 (L.ct y)+fl (L.tk y)),.int (2+(L.ct y:Int)*((L.spl L.h0 y).length:Int)),.int (2+(L.ct y:Int)*((L.spl L.h1 y).length:Int))]) (by kernel_rfl) rfl (ev_bin (a':=L.edD y) (b':= .list ([L.h0,L.h1].map fun h=>D.int (2+(L.ct y:Int)*((L.spl h y).length:Int)))) (by kernel_rfl) ?_ (by kernel_rfl)) (by kernel_rfl)
 refine ev_map [L.h0,L.h1] L.spD _ (iter_name (d:=L.spelledD) (by kernel_rfl) rfl) rfl (by kernel_rfl) (fun h hh=>⟨_,rfl,?_⟩) (Nat.le_of_ble_eq_true rfl)
 have h6:(L.spl h y).length≤6:=sp_le h (L.sg y)
 exact ev_bin (a':= .int 2) (b':= .int ((L.ct y:Int)*((L.spl h y).length:Int))) (by kernel_rfl) (ev_bin (a':= .int (L.ct y:Int)) (b':= .int ((L.spl h y).length:Int)) (by kernel_rfl) (ev_bi (n':= "len") (d:= .str (S (L.spl h y))) (by kernel_rfl) rfl (ev_item_name (d:=L.spD h) (i':= .int (y:Int)) rfl (by kernel_rfl) (by kernel_rfl) (k7_item (f:=fun k=> .str (S (L.spl h k))) hy)) (len_S (Nat.le_trans h6 (Nat.le_of_ble_eq_true rfl)))) (mul_ints (small_nat (Nat.le_trans (Nat.le_of_lt (H.ct y)) (Nat.le_of_ble_eq_true rfl))) (small_nat (Nat.le_trans h6 (Nat.le_of_ble_eq_true rfl))))) rfl
theorem due_turn (hdn:dn.length≤7)(hn:L.tk y∉dn.map L.tk)(ρt:Rho):Runs (mkC F) 40 39 (fn 29).names (L.kR y dn++ρt) dueB (.next (L.dueR (dn++[y]))):=by
 refine setN (d:= .int (L.ct y:Int)) (E:=L.cntR y dn) rfl rfl rfl rfl (ev_told (L:=L) (k:=y) (i:=2) (by kernel_rfl) (by kernel_rfl) hy (by kernel_rfl)) (by kernel_rfl) fun ρt=>setN (E:=L.edR y dn (L.mzD y)) rfl rfl rfl rfl (edge_ev H ρt) (by kernel_rfl) fun ρt=> ?_
 refine if0 (c:=([1,4]:List Int).contains ((L.tk y).length:Int)) (E:=L.edR y dn (L.edD y)) rfl rfl (tst_cmp (ev_in (a':= .int ((L.tk y).length:Int)) (b':= .tup [.int 1,.int 4]) rfl (ev_bi (n':= "len") (d:= .str (L.tk y)) (by kernel_rfl) rfl (ev_item_name (d:=L.tree) (i':= .int (y:Int)) rfl (by kernel_rfl) (by kernel_rfl) (tree_item hy)) (ip (Nat.le_trans (Q.len y hy) (Nat.le_of_ble_eq_true rfl)))) (by kernel_rfl) rfl)) (fun q=> ?_) (fun q=> ?_) fun ρt=> ?_
 ·refine setN (d:=L.edD y) rfl rfl rfl rfl ?_ (by kernel_rfl) fun ρt=> .fin
  rw[LW.edD,show fl (L.tk y)=1 from if_pos q]
  kernel_rfl
 ·rw[LW.edD,show fl (L.tk y)=0 from if_neg fun h=>Bool.false_ne_true (q.symm.trans h),Int.add_zero,Int.add_zero]
  exact .fin
 ·refine asgP (q:= .dict (kvV (dn.map L.tk) L.wE)) (i':= .str (L.tk y)) (d:=V (L.wE (L.tk y))) (d':= .dict (kvV ((dn++[y]).map L.tk) L.wE)) rfl rfl rfl (by kernel_rfl) (ev_item_name (d:=L.tree) (i':= .int (y:Int)) rfl (by kernel_rfl) (by kernel_rfl) (tree_item hy)) (row_ev H Q hy ρt) (put_ok ?_ ?_) (by kernel_rfl) fun ρt=> .fin
  ·rw[kvV_len,List.length_map]
   exact Nat.le_trans hdn (Nat.le_of_ble_eq_true rfl)
  ·rw[kvV_put hn,List.map_append];rfl
omit hy
include J
theorem law_D {po:Out}(hrun: ∀ρt,LawR F (("due",.fr,.dict (kvV (K7.map L.tk) L.wE))::("far",.fr,.dict (L.mkF (FT 10)))::L.e8) ρt 18 po)(ρt:Rho):LawR F (L.farR 10) ρt 15 po:=by
 refine setO (d:= .dict []) (E:=L.dueR []) rfl rfl rfl rfl (by kernel_rfl) (by kernel_rfl) (by kernel_rfl) fun ρt=> ?_
 refine forI (fun k:Nat=> .int (k:Int)) (fun dn=>L.dueR dn) K7 rfl rfl (by kernel_rfl) rfl (by kernel_rfl) (fun dn y tl e ρt=>⟨_,rfl,?_⟩) fun ρt=> ?_
 ·have hnd:=Q.toTK.nodup
  have hy:y∈K7:=e▸List.mem_append_right dn (.head _)
  have hl:dn.length≤7:=Nat.le_of_lt (turn_ix (d:=0) e).1
  rw[e,List.map_append] at hnd
  exact .on _ (by kernel_rfl) (due_turn H Q hy hl fun q=>(List.nodup_append.mp hnd).2.2 _ q _ (.head _) rfl)
 ·obtain⟨K,hF,h1,h2⟩:=joined_is J H Q
  have hp:K.Perm (K7.map L.tk):=(List.perm_ext_iff_of_nodup h1 Q.toTK.nodup).mpr h2
  refine ifFz (("due",.fr,.dict (kvV (K7.map L.tk) L.wE))::("far",.fr,.dict (L.mkF (FT 10)))::L.e8) rfl (by kernel_rfl) (fun ρt=> ?_) hrun
  refine tst_op (a':=DV K L.wE) (b':=DV (K7.map L.tk) L.wE) rfl (ev_obj (a:=260) (by kernel_rfl) rfl (mO_cons (b:=D.dict (L.mkF (FT 10))) (by kernel_rfl) (mO_cons (b:=L.upsD) (by kernel_rfl) (mO_cons (b:=D.int (L.col:Int)) ?_ mO_nil))) hF) (by kernel_rfl) (neq_of (eqDV 5 hp.length_eq fun y hy=>⟨hp.mem_iff.mp hy,rfl⟩))
  rw[←H.ecol]
  kernel_rfl
end
end Mine
namespace Mine
open PySem
noncomputable abbrev ltL:List Nat:=[108,116,59]
noncomputable def dotI (ls:List (List Nat)):List Nat:=([46]:List Nat).intercalate ls
theorem dotI_cons (a b:List Nat)(ls:List (List Nat)):dotI (a::b::ls)=a++([46]++dotI (b::ls)):=rfl
noncomputable def LW.text (L:LW):List Nat:=dotI (K7.map L.lab)++K7.reverse.map L.sg
noncomputable def LW.spk (L:LW) (h k:Nat):List Nat:=(112+k)::(List.replicate (L.ct k) (L.spl h k)).flatten
noncomputable def LW.wrt (L:LW) (h:Nat):List Nat:=dotI (K7.map (L.spk h))++(K7.reverse.map (L.spl h)).flatten++ltL
theorem esc_inter (h:Nat): ∀ls:List (List Nat),escL h (dotI ls)=dotI (ls.map (escL h))
 | []=>rfl
 | [a]=>(congrArg (escL h) (List.append_nil a)).trans (List.append_nil _).symm
 |a::b::ls=>by
  rw[dotI_cons,esc_app,esc_app,esc_dot,esc_inter h (b::ls)]
  exact(dotI_cons (escL h a) (escL h b) (ls.map (escL h))).symm
theorem esc_lt: ∀h:Nat,escL h ltL=ltL
 |0=>rfl
 |1=>rfl
 |2=>rfl
 |3=>rfl
 |_+4=>rfl
theorem esc_text (L:LW){h:Nat}(hh:h<5):escL h (L.text++ltL)=L.wrt h:=by
 unfold LW.text LW.wrt
 rw[esc_app,esc_app,esc_inter,esc_lt,List.map_map]
 exact congrArg (fun l=>dotI l++_++ltL) (List.map_congr_left fun k hk=>esc_lab_at L hh hk)
theorem inter_len {N:Nat}: ∀ls:List (List Nat),(∀l∈ls,l.length≤N)→(dotI ls).length≤ls.length*(N+1)
 | [],_=>Nat.zero_le _
 | [a],h=>by
   have:=h a (.head _)
   rw[show dotI [a]=a from List.append_nil a,List.length_singleton,Nat.one_mul]
   exact Nat.le_succ_of_le this
 |a::b::ls,h=>by
  have ih:=inter_len (b::ls) fun l hl=>h l (.tail _ hl)
  have ha:=h a (.head _)
  rw[dotI_cons,List.length_append,List.length_append,List.length_singleton,show(a::b::ls).length*(N+1)=(b::ls).length*(N+1)+(N+1) from Nat.succ_mul _ _]
  omega
theorem mul_strL {x:List Nat}{c:Nat}(hx:x.length≤6)(hc:c<3):binD .Mult (.str (S x)) (.int (c:Int))=some (.str (S (List.replicate c x).flatten)):=by
 have hm:Txt.mul (S x) (c:Int)=S (List.replicate c x).flatten:=by
  match c,hc with
  |0,_=>rfl
  |1,_=>apply Str.ext';simp[Txt.mul,S]
  |2,_=>
   cases x with
   |nil=>rfl
   |cons a x=>apply Str.ext';simp[Txt.mul,Str.length]
 refine(ip (Bool.and_eq_true_iff.mpr ⟨decide_eq_true ?_,small_nat (Nat.le_trans (Nat.le_of_lt hc) (Nat.le_of_ble_eq_true rfl))⟩)).trans (by rw[hm])
 rw[S_len]
 exact Nat.le_trans (Nat.mul_le_mul hx (Nat.le_of_lt hc)) (Nat.le_of_ble_eq_true rfl)
theorem eq_strs (k:Nat): ∀l:List Str,eqL (eqFlat (k+1)) (l.map .str) (l.map .str)=some true
 | []=>rfl
 |a::l=>by
  show andO (some (a==a)) (eqL (eqFlat (k+1)) (l.map .str) (l.map .str))=_
  rw[eq_strs k l,beq_self_eq_true];rfl
theorem eq_list_strs (l:List Str):eqD 8 (strsD l) (strsD l)=some true:=(if_pos rfl).trans (eq_strs 6 l)
section
variable {F:Addr→List D→Option D}(J:LJ F){L:LW}(H:L.Ok)(Q:TQ L.tk)
noncomputable abbrev LW.e9 (L:LW):Rho:=("text",.fr,.str (S L.text))::L.e8
noncomputable abbrev LW.e10 (L:LW):Rho:=("written",.fr,strsD [S (L.wrt L.h0),S (L.wrt L.h1)])::L.e9
include H
theorem lab_le: ∀l∈K7.map L.lab,l.length≤3:=fun ω hl=>by obtain⟨_,hk,e⟩:=List.mem_map.mp hl;exact e▸(H.lab hk).len
theorem text_le:(dotI (K7.map L.lab)).length≤28∧L.text.length≤35:=by
 have h:(dotI (K7.map L.lab)).length≤28:=inter_len (N:=3) _ (lab_le H)
 refine⟨h,Nat.le_trans (Nat.le_of_eq List.length_append) (Nat.add_le_add_right h 7)⟩
include Q in
theorem text_ev (ρt:Rho):lawE F 40 L.e8 ρt 18=some (.str (S L.text)):=by
 refine ev_bin (a':= .str (S (dotI (K7.map L.lab)))) (b':= .str (S (K7.reverse.map L.sg))) (ev_methS (y:=⟨#[46]⟩) rfl (Nat.le_of_ble_eq_true rfl) rfl (by decide) (by kernel_rfl) (mO_cons (b:=D.list ((K7.map L.lab).map fun x=> .str (S x))) ?_ mO_nil) (join_meth (fun y hy=>Nat.le_trans (lab_le H y hy) (Nat.le_of_ble_eq_true rfl)) (Nat.le_of_ble_eq_true rfl) (Nat.le_of_ble_eq_true rfl)))
  (ev_methS (y:=⟨#[]⟩) (ds:=[.list ((K7.reverse.map L.sg).map fun c=> .str ⟨#[c]⟩)]) rfl (Nat.le_of_ble_eq_true rfl) rfl (by decide) (by kernel_rfl) (by kernel_rfl) (join_ones (Nat.le_of_ble_eq_true rfl))) (add_str (Nat.le_trans (Nat.add_le_add_right (text_le H).1 7) (Nat.le_of_ble_eq_true rfl)))
 exact ev_map K7 (fun k=> .str (L.tk k)) (fun k=> .str (S (L.lab k))) (iter_name (d:=L.tree) (by kernel_rfl) rfl) rfl (by kernel_rfl) (fun k hk=>⟨_,rfl,ev_key (kvs:=K7.map fun k=>(L.tk k,.str (S (L.lab k)))) (z:=L.tk k) (by kernel_rfl) (by kernel_rfl) (getK_ix Q.toTK.nodup hk)⟩) (Nat.le_of_ble_eq_true rfl)
theorem spk_le (h k:Nat):(List.replicate (L.ct k) (L.spl h k)).flatten.length≤12:=by
 rw[List.length_flatten,List.map_replicate,List.sum_replicate_nat]
 exact Nat.mul_le_mul (Nat.le_of_lt_succ (H.ct k)) (sp_le h (L.sg k))
theorem wrt_le (h:Nat):(dotI (K7.map (L.spk h))).length≤98∧(K7.reverse.map (L.spl h)).flatten.length≤42:=⟨inter_len (N:=13) _ fun ω hl=>by obtain⟨k,_,e⟩:=List.mem_map.mp hl;exact e▸Nat.succ_le_succ (spk_le H h k),flat_len (f:=L.spl h) (N:=6) K7.reverse fun k ω=>sp_le h (L.sg k)⟩
theorem written_ev (ρt:Rho):lawE F 40 L.e9 ρt 19=some (strsD [S (L.wrt L.h0),S (L.wrt L.h1)]):=by
 refine ev_map [L.h0,L.h1] L.spD (fun h=> .str (S (L.wrt h))) (iter_name (d:=L.spelledD) (by kernel_rfl) rfl) rfl (by kernel_rfl) (fun h hh=>⟨_,rfl,?_⟩) (Nat.le_of_ble_eq_true rfl)
 obtain⟨w1,w2⟩:=wrt_le H h
 have hj:=join_meth (sep:=⟨#[]⟩) (ls:=K7.reverse.map (L.spl h)) (fun y hy=>by obtain⟨k,_,e⟩:=List.mem_map.mp hy;exact e▸Nat.le_trans (sp_le h (L.sg k)) (Nat.le_of_ble_eq_true rfl)) (Nat.le_of_ble_eq_true rfl) (Nat.le_of_ble_eq_true rfl)
 rw[show(⟨#[]⟩:Str).cps.toList= [] from rfl,inter_nil] at hj
 refine ev_bin (a':= .str (S (dotI (K7.map (L.spk h))++(K7.reverse.map (L.spl h)).flatten))) (b':= .str (S ltL)) (ev_bin (a':= .str (S (dotI (K7.map (L.spk h))))) (b':= .str (S (K7.reverse.map (L.spl h)).flatten)) (ev_methS (y:=⟨#[46]⟩) rfl (Nat.le_of_ble_eq_true rfl) rfl (by decide) (by kernel_rfl) (mO_cons (b:=D.list ((K7.map (L.spk h)).map fun x=> .str (S x))) ?_ mO_nil) (join_meth (fun y hy=> ?_) (Nat.le_of_ble_eq_true rfl) (Nat.le_of_ble_eq_true rfl)))
  (ev_methS (y:=⟨#[]⟩) (ds:=[.list ((K7.reverse.map (L.spl h)).map fun x=> .str (S x))]) rfl (Nat.le_of_ble_eq_true rfl) rfl (by decide) (by kernel_rfl) (by kernel_rfl) hj) (add_str (Nat.le_trans (Nat.add_le_add w1 w2) (Nat.le_of_ble_eq_true rfl)))) (by kernel_rfl) (add_str ?_)
 ·refine ev_map K7 (fun k:Nat=> .int (k:Int)) (fun k=> .str (S (L.spk h k))) (by kernel_rfl) rfl (by kernel_rfl) (fun k hk=>⟨_,rfl,?_⟩) (Nat.le_of_ble_eq_true rfl)
  exact ev_bin (a':= .str (S [112+k])) (b':= .str (S (List.replicate (L.ct k) (L.spl h k)).flatten)) (ev_told (L:=L) (k:=k) (i:=0) (by kernel_rfl) (by kernel_rfl) hk (by kernel_rfl)) (ev_bin (a':= .str (S (L.spl h k))) (b':= .int (L.ct k:Int)) (ev_item_name (d:=L.spD h) (i':= .int (k:Int)) rfl (by kernel_rfl) (by kernel_rfl) (k7_item (f:=fun k=> .str (S (L.spl h k))) hk)) (ev_told (L:=L) (k:=k) (i:=2) (by kernel_rfl) (by kernel_rfl) hk (by kernel_rfl)) (mul_strL (sp_le h (L.sg k)) (H.ct k))) (add_str (Nat.le_trans (Nat.add_le_add_left (spk_le H h k) 1) (Nat.le_of_ble_eq_true rfl)))
 ·obtain⟨k,_,e⟩:=List.mem_map.mp hy
  exact e▸Nat.le_trans (Nat.succ_le_succ (spk_le H h k)) (Nat.le_of_ble_eq_true rfl)
 ·rw[List.length_append]
  exact Nat.le_trans (Nat.add_le_add_right (Nat.add_le_add w1 w2) 3) (Nat.le_of_ble_eq_true rfl)
include J in
theorem hand_ev (ρt:Rho):ev (mkC F) 39 (fn 29).names (L.e10++ρt) ((cLR (sE ((fn 29).body.getD 20 (.Pass p0)))).1)=some (strsD [S (L.wrt L.h0),S (L.wrt L.h1)]):=by
 refine ev_map [L.h0,L.h1] (fun h=> .obj (hA h)) (fun h=> .str (S (L.wrt h))) (iter_name (d:=L.handsD) (by kernel_rfl) rfl) rfl (by kernel_rfl) (fun h hh=>⟨_,rfl,?_⟩) (Nat.le_of_ble_eq_true rfl)
 have h5:=mem_two (P:=(· <5)) hh H.h0 H.h1
 have hl:(L.text++ltL).length≤38:=Nat.le_trans (Nat.le_of_eq List.length_append) (Nat.add_le_add_right (text_le H).2 3)
 rw[←esc_text L h5]
 exact ev_obj (a:=hA h) (by kernel_rfl) rfl (mO_cons (b:=D.str (S (L.text++ltL))) (ev_bin (a':= .str (S L.text)) (b':= .str (S ltL)) (by kernel_rfl) (by kernel_rfl) (add_str (Nat.le_trans (Nat.add_le_add_right (text_le H).2 3) (Nat.le_of_ble_eq_true rfl)))) mO_nil) (J.esc h _ h5 (Nat.le_trans hl (Nat.le_of_ble_eq_true rfl)))
include J Q
theorem law_E {po:Out}(hrun: ∀ρt,LawR F L.e2 ρt 21 po)(ρt:Rho):LawR F (("due",.fr,.dict (kvV (K7.map L.tk) L.wE))::("far",.fr,.dict (L.mkF (FT 10)))::L.e8) ρt 18 po:=
 .on L.e8 (by kernel_rfl) fun ρt=>setN (E:=L.e9) rfl rfl rfl rfl (text_ev H Q ρt) (by kernel_rfl) fun ρt=>setN (E:=L.e10) rfl rfl rfl rfl (written_ev H ρt) (by kernel_rfl) fun ρt=>
   ifF0 rfl rfl (tst_op rfl (hand_ev J H ρt) (by kernel_rfl) (neq_of (eq_list_strs _))) (.on L.e2 (by kernel_rfl) hrun)
end
end Mine
namespace Mine
open PySem
theorem headFig_app {x y:List Nat}(hx: ∀c∈x,PySem.Sre.isDigit c=false):Ip.headFig (x++46::y)=false:=by
 cases x with
 |nil=>rfl
 |cons a x=>exact hx a (.head _)
theorem endFig_app {b:Nat}{d:List Nat}(hdd:(b::d).all PySem.Sre.isDigit=true): ∀{x:List Nat},(∀c∈x,PySem.Sre.isDigit c=false)→Ip.endFigL (x++46::b::d)=true
 | [],_=>Bool.or_eq_true_iff.mpr (.inl hdd)
 |a::x,h=>by
  show(_||(!(a==46&&Ip.headFig (x++46::b::d))&&Ip.endFigL (x++46::b::d)))=true
  rw[headFig_app fun c hc=>h c (.tail _ hc),endFig_app hdd fun c hc=>h c (.tail _ hc),Bool.and_false]
  exact Bool.or_true _
theorem nofig_cons {a:Nat}: ∀{y:List Nat},nofig (a::y)=(!(a==46&&Ip.headFig y)&&nofig y)
 | []=>by rw[show Ip.headFig []=false from rfl,Bool.and_false];rfl
 |_::_=>rfl
theorem nofig_app {y:List Nat}: ∀{x:List Nat},(∀c∈x,PySem.Sre.isDigit c=false)→nofig (x++46::y)=nofig (46::y)
 | [],_=>rfl
 |a::x,h=>by
  rw[List.cons_append,nofig_cons,headFig_app fun c hc=>h c (.tail _ hc),nofig_app fun c hc=>h c (.tail _ hc),Bool.and_false]
  exact Bool.true_and _
theorem reach_same {x:List Nat}(h:hdn x=false):reachL x=x:=by
 unfold reachL reachC
 rw[h]
 cases tail46 x with
 |none=>rfl
 |some b=>rfl
theorem dm_eq {a b:List Nat}(h:dm a b=true)(k:hd46 b=false∨nofig a=false):a=b:=by
 unfold dm at h
 by_cases q:(nofig a&&nofig b)=true
 ·rw[if_pos q] at h
  have k:=k.resolve_right fun e=>ab q fun q ω=>Bool.false_ne_true (e.symm.trans q)
  rw[k,if_neg Bool.false_ne_true] at h
  exact of_decide_eq_true h
 ·rw[if_neg q] at h
  exact of_decide_eq_true h
theorem dm_suf {a b:List Nat}(h:dm a b=true):b<:+a:=by
 by_cases k:hd46 b=false∨nofig a=false
 ·rw[dm_eq h k]
  exact List.suffix_refl _
 ·have h1:hd46 b=true:=by
   cases e:hd46 b with
   |false=>exact absurd (.inl e) k
   |true=>rfl
  unfold dm at h
  by_cases q:(nofig a&&nofig b)=true
  ·rw[if_pos q,if_pos h1] at h
   exact of_decide_eq_true h
  ·rw[if_neg q] at h
   exact of_decide_eq_true h▸List.suffix_refl _
theorem dm_refl {x:List Nat}(h:hd46 x=false):dm x x=true:=ite_or (P:=(· =true)) (fun ω=>(if_neg (fun q=>Bool.false_ne_true (h.symm.trans q))).trans (decide_eq_true rfl)) fun ω=>decide_eq_true rfl
noncomputable def Pl (x:List Nat):Prop:=(∀c∈x,okd c=true)∧x.length≤60
section
variable {x:List Nat}(h:Pl x)
include h
theorem Pl.dig: ∀c∈x,PySem.Sre.isDigit c=false:=fun c hc=>okd_fig (h.1 c hc)
theorem Pl.nofig:Mine.nofig x=true:=okd_nofig h.1
theorem Pl.fig:Fig x:=⟨.inl h.nofig,Nat.le_trans h.2 (Nat.le_of_ble_eq_true rfl)⟩
theorem Pl.low:Low x:=okd_low h.1
theorem Pl.lower:Txt.lower (S x)=S x:=h.low.lower
theorem Pl.up:Txt.lower (S (x.map PyProof.Rows.up1))=S x:=h.low.upper_lower
theorem Pl.upm:methS "upper" (S x) []=some (.str (S (x.map PyProof.Rows.up1))):=meth_upper (upper_S fun c hc=>(h.low c hc).1) ((List.length_map _).symm▸h.fig.2)
theorem Pl.cat {y:List Nat}(hy:y.length≤3):binD .Add (.str (S x)) (.str (S y))=some (.str (S (x++y))):=add_str (Nat.le_trans (Nat.add_le_add h.2 hy) (Nat.le_of_ble_eq_true rfl))
theorem Pl.figD {b:Nat}{d:List Nat}(hd:(b::d).all PySem.Sre.isDigit=true)(hl:d.length≤1):Fig (x++46::b::d)∧Mine.nofig (x++46::b::d)=false:=by
 refine⟨⟨.inr (endFig_app hd h.dig),?_⟩,?_⟩
 ·rw[List.length_append]
  exact Nat.le_trans (Nat.add_le_add h.2 (Nat.succ_le_succ (Nat.succ_le_succ hl))) (Nat.le_of_ble_eq_true rfl)
 ·rw[nofig_app h.dig]
  show(!PySem.Sre.isDigit b&&_)=false
  rw[(Bool.and_eq_true_iff.mp hd).1];rfl
theorem Pl.figX {y:List Nat}(hy:Mine.nofig (46::y)=true)(hl:y.length≤2):Fig (x++46::y):=⟨.inl ((nofig_app h.dig).trans hy),by
 rw[List.length_append]
 exact Nat.le_trans (Nat.add_le_add h.2 (Nat.succ_le_succ hl)) (Nat.le_of_ble_eq_true rfl)⟩
theorem Pl.lows {y:List Nat}(hy: ∀c∈y,c<128∧(c<65∨90<c)):Txt.lower (S (x++y))=S (x++y):=(Low.app h.low hy).lower
end
section
variable {C:Cfg}{nm:Names}{ρ:Rho}{n:Nat}{e1 e2:Expr}{A B:Str}{a b:List Nat}{r:Bool}{F:Addr→List D→Option D}{p q:Pos}
theorem udm_at (J:LJ F)(h1:ev (mkC F) (n+1) nm ρ e1=some (.str A))(h2:ev (mkC F) (n+1) nm ρ e2=some (.str B))(hA:Txt.lower A=S a)(hB:Txt.lower B=S b)(fa:Fig a)(fb:Fig b)(hr:dm a b=r)(hn:nameD (mkC F) nm ρ "user_domain_match" =some (.obj 106)):
  ev (mkC F) (n+2) nm ρ (.Call (.Name "user_domain_match" q) [e1,e2] [] p)=some (.bool r):=ev_obj hn rfl (mO_cons h1 (mO_cons h2 mO_nil)) ((J.udm _ _ a b hA hB fa fb).trans (by rw[hr]))
end
theorem app_ne {a:Nat}: ∀{x:List Nat},(x++[a]).isEmpty=false
 | []=>rfl
 |_::_=>rfl
structure Nme (g l M N:List Nat):Prop where
 gd:Gd g
 lb:46∉l∧l≠ []
 e:N=l++46::M
 n:Pl N
 m:Pl M
 hn:hd46 N=false
 hm:hd46 M=false
 r:reachL N=46::M
 ln:N.length≤40
 last: ∃c,M.getLast?=some c∧c≠120
section
variable {g l M N:List Nat}(K:Nme g l M N)
include K
theorem Nme.d:Pl (46::M):=⟨fun c hc=>(List.mem_cons.mp hc).elim (fun e=>e▸rfl) (K.m.1 c),Nat.le_trans (Nat.le_trans (Nat.le_add_left _ l.length) (Nat.le_of_eq (List.length_append.symm.trans (congrArg List.length K.e.symm)))) K.n.2⟩
theorem Nme.hd (y:List Nat):hd46 (N++y)=false:=by
 have h1:=K.hn
 have h2:=K.e
 have h3:=K.lb
 subst h2
 cases l with
 |nil=>exact absurd rfl h3.2
 |cons a l=>exact h1
theorem Nme.len:N.length=l.length+(M.length+1)∧0<l.length:=by
 refine⟨by rw[K.e,List.length_append];rfl,?_⟩
 have:=K.lb.2
 cases l with
 |nil=>exact absurd rfl this
 |cons a l=>exact Nat.succ_pos _
theorem Nme.rdot:reachL (N++[46])=N++[46]:=reach_same (by
 unfold hdn
 rw[List.getLast?_concat,K.hd]
 show(_&&(_&&false))=false
 rw[Bool.and_false,Bool.and_false])
theorem Nme.rfig {b:Nat}{d:List Nat}(hd:(b::d).all PySem.Sre.isDigit=true)(hl:d.length≤1):reachL (N++46::b::d)=N++46::b::d:=reach_same (by
 unfold hdn
 rw[(K.n.figD hd hl).2];rfl)
theorem Nme.rx:reachL (N++[46,120,55])=46::M++[46,120,55]:=by
 have h:hdn (N++[46,120,55])=true:=by
  unfold hdn
  rw[nofig_app K.n.dig,K.hd,show N++[46,120,55]=(N++[46,120])++[55] from(List.append_assoc N [46,120] [55]).symm,List.getLast?_concat]
  show(!((N++[46,120])++[55]).isEmpty&&true)=true
  rw[app_ne];rfl
 have e:tail46 (N++[46,120,55])=some (M++[46,120,55]):=by
  rw[K.e,List.append_assoc]
  exact tail46_app K.lb.1
 unfold reachL reachC
 rw[e,h]
 exact if_pos (Bool.or_eq_true_iff.mpr (.inl (decide_eq_true (List.mem_append_right M (.head _)))))
theorem Nme.y1:dm N (46::M)=true:=by
 unfold dm
 rw[K.n.nofig,K.d.nofig]
 exact decide_eq_true ⟨l,K.e.symm⟩
theorem Nme.n0:dm N M=false:=Bool.eq_false_iff.mpr fun h=>by
 have:=congrArg List.length (dm_eq h (.inl K.hm))
 have:=K.len
 omega
theorem Nme.n1:dm (N++[46,55]) (46::M++[46,55])=false:=Bool.eq_false_iff.mpr fun h=>by
 have:=congrArg List.length (List.append_cancel_right (dm_eq h (.inr (K.n.figD rfl (Nat.zero_le _)).2)))
 rw[List.length_cons] at this
 have:=K.len
 omega
theorem Nme.n2:dm (N++[46,120]) (46::M)=false:=Bool.eq_false_iff.mpr fun h=>by
 obtain⟨t,h⟩:=dm_suf h
 obtain⟨c,h1,h2⟩:=K.last
 have h:=congrArg List.getLast? h
 rw[List.getLast?_append,List.getLast?_cons,h1,show N++[46,120]=(N++[46])++[120] from(List.append_assoc N [46] [120]).symm,List.getLast?_concat] at h
 exact h2 (Option.some.inj h)
theorem Nme.n3:dm N (46::N)=false:=Bool.eq_false_iff.mpr fun h=>absurd (dm_suf h).length_le (Nat.not_succ_le_self _)
end
end Mine
namespace Mine
open PySem
theorem nm_Pl {g:List Nat}{ls:List (List Nat)}(hg:Gd g)(hl:Labs ls):Pl (nmL g ls):=⟨nm_okd hg hl.1,Nat.le_trans (nm_short hg hl) (Nat.le_of_ble_eq_true rfl)⟩
theorem nme_of {g l:List Nat}{ls:List (List Nat)}(hg:Gd g)(hl:Labs (l::ls)):Nme g l (nmL g ls) (nmL g (l::ls)) where
 gd:=hg
 lb:=⟨lab_no (hl.1 l (.head _)),(hl.1 l (.head _)).ne⟩
 e:=rfl
 n:=nm_Pl hg hl
 m:=nm_Pl hg hl.tail
 hn:=nm_head hg hl
 hm:=nm_head hg hl.tail
 r:=nm_reach hg hl
 ln:=nm_short hg hl
 last:=by obtain⟨c,h1,h2⟩:=nm_last hg (ls:=ls);exact⟨c,h1,h2.2⟩
section
variable {C:Cfg}{nm:Names}{ρ:Rho}{n:Nat}{t:Expr}{d:D}{ds:List D}{a b:Expr}{op:Operator}{p:Pos}
theorem iter_bin (h:ev C n nm ρ (.BinOp a op b p)=some d)(h2:itemsD d=some ds):iterE (ev C n) C nm ρ t (.BinOp a op b p)=some ds:=by
 show(ev C n nm ρ (.BinOp a op b p)).bind itemsD=_
 rw[h];exact h2
end
theorem list_app (a b:List (List Nat))(h:a.length+b.length≤1000):binD .Add (strL a) (strL b)=some (strL (a++b)):=by
 refine(add_lists ?_).trans (congrArg (fun l=>some (D.list l)) List.map_append.symm)
 rw[List.length_map,List.length_map]
 exact Nat.le_trans h (Nat.le_of_ble_eq_true rfl)
section
variable {F:Addr→List D→Option D}(J:LJ F){L:LW}(H:L.Ok)(Q:TQ L.tk){M N:List Nat}(K:Nme L.g (L.lab 0) M N)
noncomputable def stL (g N:List Nat):List (List Nat):=[g,N++[46],N++[46,55],N++[46,55,48]]
noncomputable abbrev f0 (N:List Nat) (L:LW):Rho:=("name",.fr,.str (S N))::L.e2
noncomputable abbrev f1 (M N:List Nat):Rho:=[("domain",.fr,.str (S (46::M))),("name",.fr,.str (S N))]
noncomputable abbrev f3 (M N:List Nat):Rho:=("yes",.fr,.list [.bool true,.bool true,.bool true])::f1 M N
noncomputable abbrev f2 (g M N:List Nat):Rho:=("stay",.fr,strL (stL g N))::f1 M N
include K
include Q in
theorem domain_ev (ρt:Rho):lawE F 40 (f0 N L) ρt 22=some (.str (S (46::M))):=by
 have hl:(L.lab 0).length≤1000:=Nat.le_trans (Nat.le_trans (Nat.le_add_right _ _) (Nat.le_of_eq K.len.1.symm)) K.n.fig.2
 refine Eq.trans (ev_slice (x:=S N) (i:=some ((L.lab 0).length:Int)) (j:=none) (by kernel_rfl) (slO (ev_bi (n':= "len") (d:= .str (S (L.lab 0))) (by kernel_rfl) rfl (ev_item_name (d:=L.labD) (i':= .str (L.tk 0)) rfl (by kernel_rfl) (by rw[Q.p];kernel_rfl) (getK_ix (f:=fun k=> .str (S (L.lab k))) Q.toTK.nodup (.head _))) (len_S (Nat.le_trans hl (Nat.le_of_ble_eq_true rfl)))) (small_nat (Nat.le_trans hl (Nat.le_of_ble_eq_true rfl)))) rfl (S_lim K.n.fig)) ?_
 rw[slice_from N (Nat.le_trans (Nat.le_add_right _ _) (Nat.le_of_eq K.len.1.symm)),K.e,List.drop_left]
theorem stay_ev (ρt:Rho):lawE F 40 (("ground",.fr,.str (S L.g))::f1 M N) ρt 23=some (strL (stL L.g N)):=ev_list (mO_cons (b:=D.str (S L.g)) (by kernel_rfl) (mO_cons (b:=D.str (S (N++[46]))) (ev_bin (a':= .str (S N)) (b':= .str (S [46])) (by kernel_rfl) (by kernel_rfl) (K.n.cat (by decide))) (mO_cons (b:=D.str (S (N++[46,55]))) (ev_bin (a':= .str (S N)) (b':= .str (S [46,55])) (by kernel_rfl) (by kernel_rfl) (K.n.cat (by decide))) (mO_cons (b:=D.str (S (N++[46,55,48]))) (ev_bin (a':= .str (S N)) (b':= .str (S [46,55,48])) (by kernel_rfl) (by kernel_rfl) (K.n.cat (by decide))) mO_nil)))) (Nat.le_of_ble_eq_true rfl)
theorem r_g:reachL L.g=L.g:=K.gd.all (P:=fun g=>reachL g=g) (by decide) (by decide) (by decide)
theorem g_fig:Fig L.g:=(nm_Pl K.gd (ls:=[]) ⟨(fun l h=>nomatch h),Nat.zero_le _⟩).fig
theorem fig_all: ∀x∈stL L.g N++[N,N++[46,120,55]],Fig x:=by
 have c: ∀{a:List Nat} {l:List (List Nat)},Fig a→(∀x∈l,Fig x)→ ∀x∈a::l,Fig x:=fun h1 h2 x hx=>(List.mem_cons.mp hx).elim (fun e=>e▸h1) (h2 x)
 exact c (g_fig K) (c (K.n.figX (y:=[]) rfl (Nat.zero_le _)) (c (K.n.figD (b:=55) (d:=[]) rfl (Nat.zero_le _)).1 (c (K.n.figD (b:=55) (d:=[48]) rfl (Nat.le_refl _)).1 (c K.n.fig (c (K.n.figX (y:=[120,55]) rfl (Nat.le_refl _)) fun x h=>absurd h List.not_mem_nil)))))
theorem reach_all:(stL L.g N++[N,N++[46,120,55]]).map reachL=stL L.g N++[46::M,46::M++[46,120,55]]:=by
 show [reachL L.g,reachL (N++[46]),reachL (N++[46,55]),reachL (N++[46,55,48]),reachL N,reachL (N++[46,120,55])]=_
 rw[r_g K,K.rdot,K.rfig (b:=55) (d:=[]) rfl (Nat.zero_le _),K.rfig (b:=55) (d:=[48]) rfl (Nat.le_refl _),K.r,K.rx]
 rfl
include J in
theorem reach_ev (ρt:Rho):ev (mkC F) 39 (fn 29).names (f2 L.g M N++ρt) ((cLR (sE ((fn 29).body.getD 24 (.Pass p0)))).1)=some (strL (stL L.g N++[46::M,46::M++[46,120,55]])):=by
 rw[←reach_all K,strL,List.map_map]
 exact ev_map (stL L.g N++[N,N++[46,120,55]]) (fun x=> .str (S x)) _ (iter_bin (d:=strL (stL L.g N++[N,N++[46,120,55]])) (ev_bin (a':=strL (stL L.g N)) (b':=strL [N,N++[46,120,55]]) (by kernel_rfl) (ev_list (mO_cons (b:=D.str (S N)) (by kernel_rfl) (mO_cons (b:=D.str (S (N++[46,120,55]))) (ev_bin (a':= .str (S N)) (b':= .str (S [46,120,55])) (by kernel_rfl) (by kernel_rfl) (K.n.cat (by decide))) mO_nil)) (Nat.le_of_ble_eq_true rfl)) (list_app _ _ (Nat.le_of_ble_eq_true rfl))) rfl) rfl (by kernel_rfl) (fun x hx=>⟨_,rfl,ev_obj (a:=113) (by kernel_rfl) rfl (mO_cons (b:=D.str (S x)) (by kernel_rfl) mO_nil) (J.reach x (fig_all K x hx))⟩) (Nat.le_of_ble_eq_true rfl)
theorem reach_rhs (ρt:Rho):ev (mkC F) 39 (fn 29).names (f2 L.g M N++ρt) ((cLR (sE ((fn 29).body.getD 24 (.Pass p0)))).2.getD 0 (.Constant .none 0 p0))=some (strL (stL L.g N++[46::M,46::M++[46,120,55]])):=
 ev_bin (a':=strL (stL L.g N)) (b':=strL [46::M,46::M++[46,120,55]]) (by kernel_rfl) (ev_list (mO_cons (b:=D.str (S (46::M))) (by kernel_rfl) (mO_cons (b:=D.str (S (46::M++[46,120,55]))) (ev_bin (a':= .str (S (46::M))) (b':= .str (S [46,120,55])) (by kernel_rfl) (by kernel_rfl) (K.d.cat (by decide))) mO_nil)) (Nat.le_of_ble_eq_true rfl)) (list_app _ _ (Nat.le_of_ble_eq_true rfl))
theorem low7: ∀c∈([46,55]:List Nat),c<128∧(c<65∨90<c):=by decide
theorem lowx: ∀c∈([46,120]:List Nat),c<128∧(c<65∨90<c):=by decide
include J
theorem yes_ev (ρt:Rho):lawE F 40 (f1 M N) ρt 25=some (.list [.bool true,.bool true,.bool true]):=by
 have f7:=(K.n.figD (b:=55) (d:=[]) rfl (Nat.zero_le _)).1
 refine ev_list (mO_cons (b:=D.bool true) (udm_at (A:=S (N.map PyProof.Rows.up1)) (B:=S N) J (ev_methS (y:=S N) (ds:=[]) rfl (Nat.le_of_ble_eq_true rfl) rfl (by decide) (by kernel_rfl) mO_nil K.n.upm) (by kernel_rfl) K.n.up K.n.lower K.n.fig K.n.fig (dm_refl K.hn) (by kernel_rfl))
  (mO_cons (b:=D.bool true) (udm_at (A:=S N) (B:=S ((46::M).map PyProof.Rows.up1)) J (by kernel_rfl) (ev_methS (y:=S (46::M)) (ds:=[]) rfl (Nat.le_of_ble_eq_true rfl) rfl (by decide) (by kernel_rfl) mO_nil K.d.upm) K.n.lower K.d.up K.n.fig K.d.fig K.y1 (by kernel_rfl))
  (mO_cons (b:=D.bool true) (udm_at (A:=S ((N++[46,55]).map PyProof.Rows.up1)) (B:=S (N++[46,55])) J (ev_bin (a':= .str (S (N.map PyProof.Rows.up1))) (b':= .str (S [46,55])) (ev_methS (y:=S N) (ds:=[]) rfl (Nat.le_of_ble_eq_true rfl) rfl (by decide) (by kernel_rfl) mO_nil K.n.upm) (by kernel_rfl) ((add_str ?_).trans (by rw[List.map_append];rfl))) (ev_bin (a':= .str (S N)) (b':= .str (S [46,55])) (by kernel_rfl) (by kernel_rfl) (K.n.cat (by decide))) (Low.app K.n.low (low7 K)).upper_lower (K.n.lows (low7 K)) f7 f7 (dm_refl (K.hd _)) (by kernel_rfl)) mO_nil))) (Nat.le_of_ble_eq_true rfl)
 rw[List.length_map]
 exact Nat.le_trans (Nat.add_le_add_right K.n.2 2) (Nat.le_of_ble_eq_true rfl)
theorem no_ev (ρt:Rho):lawE F 40 (f3 M N) ρt 26=some (.list [.bool false,.bool false,.bool false,.bool false]):=by
 have f7:=(K.n.figD (b:=55) (d:=[]) rfl (Nat.zero_le _)).1
 have f72:=(K.d.figD (b:=55) (d:=[]) rfl (Nat.zero_le _)).1
 have fN:Pl (46::N):=⟨fun c hc=>(List.mem_cons.mp hc).elim (fun e=>e▸rfl) (K.n.1 c),Nat.le_trans (Nat.succ_le_succ K.ln) (Nat.le_of_ble_eq_true rfl)⟩
 exact ev_list (mO_cons (b:=D.bool false) (udm_at (A:=S N) (B:=S M) J (by kernel_rfl) ((ev_slice (x:=S (46::M)) (i:=some ((1:Nat):Int)) (j:=none) (by kernel_rfl) (by kernel_rfl) rfl (S_lim K.d.fig)).trans (by rw[slice_from (46::M) (i:=1) (Nat.succ_le_succ (Nat.zero_le _))];rfl)) K.n.lower K.m.lower K.n.fig K.m.fig K.n0 (by kernel_rfl))
  (mO_cons (b:=D.bool false) (udm_at (A:=S (N++[46,55])) (B:=S (46::M++[46,55])) J (ev_bin (a':= .str (S N)) (b':= .str (S [46,55])) (by kernel_rfl) (by kernel_rfl) (K.n.cat (by decide))) (ev_bin (a':= .str (S (46::M))) (b':= .str (S [46,55])) (by kernel_rfl) (by kernel_rfl) (K.d.cat (by decide))) (K.n.lows (low7 K)) (K.d.lows (low7 K)) f7 f72 K.n1 (by kernel_rfl))
  (mO_cons (b:=D.bool false) (udm_at (A:=S (N++[46,120])) (B:=S (46::M)) J (ev_bin (a':= .str (S N)) (b':= .str (S [46,120])) (by kernel_rfl) (by kernel_rfl) (K.n.cat (by decide))) (by kernel_rfl) (K.n.lows (lowx K)) K.d.lower (K.n.figX (y:=[120]) rfl (Nat.le_succ _)) K.d.fig K.n2 (by kernel_rfl))
  (mO_cons (b:=D.bool false) (udm_at (A:=S N) (B:=S (46::N)) J (by kernel_rfl) (ev_bin (a':= .str (S [46])) (b':= .str (S N)) (by kernel_rfl) (by kernel_rfl) (add_str (Nat.le_trans (Nat.add_le_add_left K.n.2 1) (Nat.le_of_ble_eq_true rfl)))) K.n.lower fN.lower K.n.fig fN.fig (K.n3) (by kernel_rfl)) mO_nil)))) (Nat.le_of_ble_eq_true rfl)
end
section
variable {F:Addr→List D→Option D}(J:LJ F){L:LW}(H:L.Ok)(Q:TQ L.tk)
include J H Q
theorem chl_p: ∃ls,L.chl 112=L.lab 0::ls:=by
 have:chain L.tk 112=0::([1,2,3,4,5,6]:List Nat).filter fun k=>hasSub (c1s 112) (L.tk k):=by
  unfold chain
  rw[show K7=0::[1,2,3,4,5,6] from rfl,List.filter_cons_of_pos]
  rw[Q.p];decide+kernel
 exact⟨_,congrArg (List.map L.lab) this⟩
theorem law_F (ρt:Rho):LawR F L.e2 ρt 21 (.ret (.bool true)):=by
 obtain⟨ls,hls⟩:=chl_p J H Q
 have hl:Labs (L.lab 0::ls):=hls▸H.chl 112
 have K:=nme_of H.g hl
 have hp:getK (H4.map fun c=>(c1s c,D.str (S (L.nm c)))) (c1s 112)=some (.str (S (nmL L.g (L.lab 0::ls)))):=hls▸full_get (.head _)
 generalize nmL L.g (L.lab 0::ls)=N at*
 generalize nmL L.g ls=M at*
 refine setN (E:=f0 N L) rfl rfl rfl rfl (ev_item_name (d:=L.fullD) (i':= .str (c1s 112)) rfl (by kernel_rfl) (by kernel_rfl) hp) (by kernel_rfl) fun ρt=>setN (E:=("ground",.fr,.str (S L.g))::f1 M N) rfl rfl rfl rfl (domain_ev Q K ρt) (by kernel_rfl) fun ρt=>setN (E:=f2 L.g M N) rfl rfl rfl rfl (stay_ev K ρt) (by kernel_rfl) fun ρt=> ?_
 refine ifF0 rfl rfl (tst_op rfl (reach_ev J K ρt) (reach_rhs K ρt) (neq_of ?_)) (.on (f1 M N) (by kernel_rfl) fun ρt=>setN (E:=f3 M N) rfl rfl rfl rfl (yes_ev J K ρt) (by kernel_rfl) fun ρt=>setN (E:=[("no",.fr,.list [.bool false,.bool false,.bool false,.bool false]),("yes",.fr,.list [.bool true,.bool true,.bool true])]) rfl rfl rfl rfl (no_ev J K ρt) (by kernel_rfl) fun ρt=>ret0 rfl rfl (by kernel_rfl))
 have:=eq_list_strs ((stL L.g N++[46::M,46::M++[46,120,55]]).map S)
 unfold strsD at this
 rw[List.map_map] at this
 exact this
end
end Mine
namespace Mine
open PySem
section
variable {n:Nat}{a:Addr}{f:Fn}{ds:List D}{r:Option D}
theorem cF (h:defAt a=some f)(hn:a≠62∧a≠175)(hr:runX (cfg n) 40 40 f ds=r):(cfg (n+1)).F a ds=r:=by
 show(if a=62 then runI (cfg n) 40 40 62 (fnC 3 0) ds else if a=175 then runI (cfg n) 40 40 175 (fnC 13 1) ds else(defAt a).bind fun f=>runX (cfg n) 40 40 f ds)=_
 rw[if_neg hn.1,if_neg hn.2,h]
 exact hr
theorem cW (hr:runI (cfg n) 40 40 175 (fnC 13 1) ds=r):(cfg (n+1)).F 175 ds=r:=(show(if 175=62 then runI (cfg n) 40 40 62 (fnC 3 0) ds else if 175=175 then runI (cfg n) 40 40 175 (fnC 13 1) ds else(defAt 175).bind fun f=>runX (cfg n) 40 40 f ds)=r from(if_neg (by decide)).trans ((if_pos rfl).trans hr))
end
section
variable (n:Nat)
theorem c_lib {x:List Nat}(h:Fig x):(cfg (n+2)).F 99 [.str (S x)]=some (.bool (nofig x)):=cF (f:=fn 9) (by kernel_rfl) (by decide) (liberal_ok (cfg (n+1)).F h)
theorem c_hdn {x:List Nat}(h:Fig x):(cfg (n+2)).F 92 [.str (S x)]=some (.bool (hdn x)):=cF (f:=fn 8) (by kernel_rfl) (by decide) (is_HDN_ok (cfg (n+1)).F h)
theorem c_udm (A B:Str)(a b:List Nat)(hA:Txt.lower A=S a)(hB:Txt.lower B=S b)(fa:Fig a)(fb:Fig b):(cfg (n+3)).F 106 [.str A,.str B]=some (.bool (dm a b)):=cF (f:=fn 10) (by kernel_rfl) (by decide) (domain_ok (cfg (n+2)).F (fun ω h=>c_lib n h) hA hB fa fb)
theorem c_reach (x:List Nat)(h:Fig x):(cfg (n+3)).F 113 [.str (S x)]=some (.str (S (reachL x))):=cF (f:=fn 11) (by kernel_rfl) (by decide) (reach_ok (cfg (n+2)).F h (c_hdn n h))
theorem c_esc: ∀h x,h<5→x.length≤1000→(cfg (n+2)).F (hA h) [.str (S x)]=some (.str (S (escL h x)))
 |0,x,_,hx=>cF (f:=fn 16) (by kernel_rfl) (by decide) (esc0_ok (cfg (n+1)).F x hx)
 |1,x,_,hx=>cF (f:=fn 17) (by kernel_rfl) (by decide) (esc1_ok (cfg (n+1)).F x hx)
 |2,x,_,hx=>cF (f:=fn 18) (by kernel_rfl) (by decide) (esc2_ok (cfg (n+1)).F x hx)
 |3,x,_,hx=>cF (f:=fn 19) (by kernel_rfl) (by decide) (esc3_ok (cfg (n+1)).F x hx)
 |4,x,_,hx=>cF (f:=fn 20) (by kernel_rfl) (by decide) (esc4_ok (cfg (n+1)).F x hx)
theorem c_fj:FJ (cfg (n+3)).F where
 stats l m f g v u hl hm zl zm:=cF (f:=fn 4) (by kernel_rfl) (by decide) (add_func_stats_ok (cfg (n+2)).F v u _ _ _ (cF (f:=fn 5) (by kernel_rfl) (by decide) (add_callers_ok hl hm zl zm)))
 comp u0 u1:=comp_made (cfg (n+2)).F u0 u1
 cmp u0 u1 l r:=cF (f:=fnC 3 1) (by kernel_rfl) (by decide) (compare_ok (cfg (n+2)).F u0 u1 l r)
 side g _:=cF (f:=fn 27) (by kernel_rfl) (by decide) (side_ok (cfg (n+2)).F g)
theorem map_eq_at {α β:Type}{f g:α→β}: ∀{l:List α},l.map f=l.map g→ ∀a∈l,f a=g a
 |_::_,h,a,ha=>(List.mem_cons.mp ha).elim (fun e=>e▸(List.cons.inj h).1) (map_eq_at (List.cons.inj h).2 a)
theorem c_refr (c:Nat)(hc:c∈SG)(h:Nat)(hh:h<5):(cfg (n+2)).F 231 [.str ⟨#[c]⟩,.int (h:Int)]=some (.str (S (sp (tbl h) c))):=
 cF (f:=fn 23) (by kernel_rfl) (by decide) (map_eq_at (map_eq_at (reference_ok (cfg (n+1)).F) c hc) h ((by decide: ∀h<5,h∈([0,1,2,3,4]:List Nat)) h hh))
theorem c_in (ls:List (List Nat)): ∀(z:Nat),Labs ls→1≤z∧z≤4→(cfg (n+2)).F 144 [wsI ls,.int (z:Int)]=some (.int (2+z*wayS z ls))
 |y+1,h,hz=>cF (f:=fnC 13 3) (by kernel_rfl) (by decide) (indent_ok (cfg (n+1)).F h (Nat.le_of_succ_le_succ hz.2))
theorem c_way (ls:List (List Nat))(z0 z1 h0 h1:Nat)(hl:Labs ls)(hz0:1≤z0∧z0≤4)(hz1:1≤z1∧z1≤4)(hh0:h0<5)(hh1:h1<5):
  (cfg (n+3)).F 250 [.str (S (dots ls)),.list [.int (z0:Int),.int (z1:Int)],.list [.obj (hA h0),.obj (hA h1)]]=some (V (wayV z0 z1 h0 h1 ls)):=
 cF (f:=fn 26) (by kernel_rfl) (by decide) (way_ok (cfg (n+2)).F hl (fun ω h=>cW (ws_made (cfg (n+1)).F h)) (c_in n) (c_esc n) hz0 hz1 hh0 hh1)
end
theorem c_lj:LJ (cfg 5).F where
 tree s T h:=cF (f:=fn 22) (by kernel_rfl) (by decide) (tree_ok (cfg 4).F s h)
 refr:=c_refr 3
 ladder g ls hg hl h4:=cF (f:=fn 24) (by kernel_rfl) (by decide) (ladder_ok (c_reach 1) hg hl h4)
 part g l r ms hg hl hm h4:=cF (f:=fn 25) (by kernel_rfl) (by decide) (part_ok (c_udm 1) hg hl hm rfl h4)
 way:=c_way 2
 joined c u0 u1 outer ns inner d res q0 q1 qc h:=cF (f:=fn 28) (by kernel_rfl) (by decide) (joined_ok (c_fj 1) q0 q1 qc h)
 esc:=c_esc 3
 reach:=c_reach 2
 udm:=c_udm 2
theorem law_true (zs:List Int)(hz:zs.length≤63):runX (cfg 5) 40 40 (fn 29) [.list (zs.map .int)]=some (.bool true):=
 law_A c_lj hz fun i0 i1 q0 q1=>by
  obtain⟨tk,h1,Q⟩:=tq_of q0 q1
  exact⟨tk,h1,fun c=>
   let H:=mkL_ok c tk
   law_B c_lj H Q.toTK (law_C c_lj H Q.toTK (law_D c_lj H Q (law_E c_lj H Q (law_F c_lj H Q))))⟩
end Mine
set_option maxHeartbeats 0
namespace Mine
open PySem PySem.W PyProof.Rows
noncomputable def HK:Hook where
 α:=Bool×List (Option ((Arguments×FuncBody×Scope)×Bool))
 obs:=fun s=>(chkH s.heap,defS.map (obsD s.heap))
 val:=fun _=>(true,defS.map expD)
 says:=fun _ h=> ∃h0,Facts h0∧ ∀b o,h0.get? b=some o→h.get? b=some o
 of:=fun _ s e=>⟨s.heap,⟨congrArg Prod.fst e,congrArg Prod.snd e⟩,fun _ _ q=>q⟩
 keeps:=fun _ _ _ z0 q=>by obtain⟨h0,f,k⟩:=z0;exact⟨h0,f,fun b o e=>q b o (k b o e)⟩
noncomputable def LS:List Str:=["_wall","TupleComp","add_func_stats","IPV4_RE","is_HDN","liberal_is_HDN","user_domain_match","reach","Whitespace","_raise_serialization_error","_escape_cdata","_escape_attrib","_escape_attrib_html","_escape_cdata_c14n","_escape_attrib_c14n","_law_tree","_law_reference","_law_ladder","_law_part","_law_way","_law_side","_law_joined"]
theorem sd_lo:looksOpen PW=true:=by
 unfold looksOpen
 refine look_both (look_both (look_both (look_both (look_both ?_ ?_) ?_) ?_) ?_) ?_
 ·rw[PySem.W.Fast.te11788848310118352699];decide+kernel
 ·rw[PySem.W.Fast.te12862048085361865435,PySem.W.Fast.te9807087744658564304];decide+kernel
 ·rw[PySem.W.Fast.te8377067652309620493];decide+kernel
 ·rw[PySem.W.Fast.te18344453789297297638,PySem.W.Fast.te14412699480532031325];decide+kernel
 ·rw[PySem.W.Fast.te8326940854005059898,PySem.W.Fast.te13343964577679436407,PySem.W.Fast.te5923862056798008813];decide+kernel
 ·rw[PySem.W.Fast.te17119622794617984870,PySem.W.Fast.te17868728402115742887];decide+kernel
theorem sd_ps:(PySem.Challenge.rw_xt0016_01).row.partSaid=true:=by
 unfold OpenRow.partSaid
 rw[show looksOpen (PySem.Challenge.rw_xt0016_01).row.toRowW.prog=true from sd_lo,Bool.true_and]
 decide+kernel
theorem sd_rs:(PySem.Challenge.rw_xt0016_01).row.wellSaid=true:=by
 unfold OpenRow.wellSaid
 rw[sd_ps,Bool.true_and,PySem.W.Fast.te18344453789297297638,PySem.W.Fast.te12749700546528644094]
 decide+kernel
theorem said:OpenLaw.wellSaid PySem.Challenge.rw_xt0016_01=true:=by
 unfold OpenLaw.wellSaid
 rw[PySem.W.Fast.te17119622794617984870,PySem.W.Fast.te8326940854005059898,PySem.W.Fast.te8179353310426384613,PySem.W.Fast.te9558739934217749035,PySem.W.Fast.te16286561074155671207,PySem.W.Fast.te10501279942588096481]
 refine look_both (look_both (look_both (look_both (look_both (look_both (look_both (look_both (look_both (look_both (look_both (look_both (look_both (look_both (look_both (look_both (look_both (look_both sd_rs ?_) ?_) ?_) ?_) ?_) ?_) ?_) ?_) ?_) ?_) ?_) ?_) ?_) ?_) ?_) ?_) ?_) ?_
 all_goals decide+kernel
noncomputable abbrev RX:RowW:=OpenRow.toRowW PySem.Challenge.rw_xt0016_01.row
noncomputable def Ends (w:World):Prop:=(openEnds treeTable PW w 3086).map (fun s=>(openSeen VW LS (importedModules PW.main.body) (fun s=>xlAt VW [] s&&recOk (RowW.records RX) s) true s,Hook.obs HK s))=some (openGood VW LS,Hook.val HK w)
theorem ends_f (w:World):Ends (w.withFollow "special-get-raises" false):=by
 unfold Ends openEnds fencedOpening
 delta topFrom
 rw[PySem.W.Fast.te10274390034422433532,PySem.W.Fast.te1435165496053646825,PySem.W.Fast.te14289696077712309145,PySem.W.Fast.te14364793385576792824,PySem.W.Fast.te14082659384304107361,PySem.W.Fast.te4187177175401517315,PySem.W.Fast.te5923862056798008813]
 kernel_rfl
theorem ends_t (w:World):Ends (w.withFollow "special-get-raises" true):=by
 unfold Ends openEnds fencedOpening
 delta topFrom
 rw[PySem.W.Fast.te10274390034422433532,PySem.W.Fast.te1435165496053646825,PySem.W.Fast.te14289696077712309145,PySem.W.Fast.te14364793385576792824,PySem.W.Fast.te14082659384304107361,PySem.W.Fast.te4187177175401517315,PySem.W.Fast.te5923862056798008813]
 kernel_rfl
theorem lefto:LeftO PW VW LS (fun s=>xlAt VW [] s&&recOk (RowW.records RX) s) (Hook.obs HK) (Hook.val HK) 3086:=fun w=>byRow2 "special-get-raises" (P:=Ends) ends_f ends_t w
set_option tactic.hygienic true in
theorem hx:PySem.Challenge.rw_xt0016_01.Holds:=by
 w_on
 refine holds_law said fun said=> ?_
 refine holds_open (r:=PySem.Challenge.rw_xt0016_01.row) (q:=VW) (loose:=LS) (Xt:=fun s=>xlAt VW [] s&&recOk (RowW.records RX) s) (XP:=XL VW []) (Yf:=Hook.obs HK) (Ya:=Hook.val HK) (YP:=Hook.says HK) (N:=3086) lefto (Hook.of HK) (Hook.keeps HK) (fun s e=>xl_of s (Bool.and_eq_true_iff.mp e).1) XL.keeps (by rfl) (by rfl) (by rfl) (fun s e=>recFacts_of (Bool.and_eq_true_iff.mp e).2) (by rfl) (by first|assumption|decide+kernel) (by decide+kernel) ⟨rfl,rfl,rfl,rfl,rfl,by decide+kernel⟩ ?hw ?hc
 case hw=>w_witness2
 case hc=>
  intro w s₀ s₁ mg mb G Y fa o pm cd doc dV kV ho hd hcd hD hmg hg args vals as hpre hlay hrd hwl hlo
  obtain⟨h0,Fk,X⟩:=Y
  refine Ground.open G ?_
  intro T B D TE TW
  wrow_args hpre hlay hrd hwl hlo
  all_goals (first|refine callC_kw (enter_call ?_)|refine enter_call ?_)
  rename_i zs _ _ hlay1 _ _ _ _ l vs _ hl _ _ _ hi _ hlen _
  refine codeAny_mono (law_call Fk X (zs:=zs) T hg hmg hl hi (law_true zs (by omega))) fun r s' z=> ?_
  obtain⟨rfl,z2,z3,z4⟩:=z
  refine⟨.inl ⟨_,.bool true,[],rfl,fun cls=>by rfl,.bool true,by kernel_rfl,fun _=>⟨List.nodup_nil,fun a q=>nomatch q⟩⟩,z2,z3,z4⟩
end Mine
theorem PySem.Challenge.cw_xt0016_01_holds : PySem.Challenge.rw_xt0016_01.Holds :=
 Mine.hx
