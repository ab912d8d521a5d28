import PyProof.Rows.All
import Wide.All
import OpenK.AllK
import Wide.FinOn
import PySem.Challenge.RW_aa0061_02
set_option maxRecDepth 100000
set_option Elab.async false
set_option maxHeartbeats 0
set_option linter.unusedSimpArgs false
set_option linter.unusedVariables false
section S1
open PySem PySem.W PySem.Calls PyProof.Rows
namespace Mine
inductive KK where
 | i (n:Int)
 | s (x:Str)
 deriving DecidableEq
noncomputable def KK.py:KK->PyData
 | .i n=>.int n
 | .s x=>.str x
noncomputable def sQ:KK->Value->Bool
 | .i n,v=>Value.isInt n v
 | .s x,v=>Value.isStrOf x v
theorem eU {k:KK} {v:Value} (h:sQ k v=true):(∃ n t,k=.i n/\v=.int n t)\/(∃ x t,k=.s x/\v=.str x t):=by
 cases k with
 | i n=>obtain ⟨t,rfl⟩:=Value.isInt_shape h; exact .inl ⟨n,t,rfl,rfl⟩
 | s x=>obtain ⟨t,rfl⟩:=Value.isStrOf_shape h; exact .inr ⟨x,t,rfl,rfl⟩
noncomputable def mix (prog:Program) (w:World):KeyKind prog w KK where
 is:=sQ
 hash:=fun k=>match k with | .i n=>hashInt n | .s x=>hashStr w x
 inj:=fun v a b ha hb=>by
  rcases eU ha with ⟨n,t,rfl,rfl⟩ | ⟨x,t,rfl,rfl⟩ <;> rcases eU hb with ⟨m,u,rfl,h⟩ | ⟨y,u,rfl,h⟩ <;> first | (injection h with h1; rw [h1]) | cases h
 byValue:=fun k v h=>by
  rcases eU h with ⟨n,t,rfl,rfl⟩ | ⟨x,t,rfl,rfl⟩ <;> rfl
 pyHash:=fun hv h=>by
  rcases eU hv with ⟨n,t,rfl,rfl⟩ | ⟨x,t,rfl,rfl⟩
  .exact wpAny_pyHash_int h
  .exact wpAny_pyHash_str h
 eqBool:=fun hu hv h=>by
  rcases eU hu with ⟨n,t,rfl,rfl⟩ | ⟨x,t,rfl,rfl⟩ <;> rcases eU hv with ⟨m,u,rfl,rfl⟩ | ⟨y,u,rfl,rfl⟩
  .refine wpAny_eqBool_int ?_
   have:(n==m)=decide (KK.i n=KK.i m):=by
    by_cases e:n=m <;> simp [e]
   rw [this]; exact h
  .rw [decide_eq_false (by intro h; cases h)] at h;unfold eqBool;refine wpAny_holding ?_;dsimp only;rw [if_neg (by simp)];refine wpAny_bind (EqMixed.eq_int_str ?_);exact wpAny_truthy_bool h
  .rw [decide_eq_false (by intro h; cases h)] at h;unfold eqBool;refine wpAny_holding ?_;dsimp only;rw [if_neg (by simp)];refine wpAny_bind (EqMixed.eq_str_int ?_);exact wpAny_truthy_bool h
  .refine wpAny_eqBool_str ?_
   have:decide (x=y)=decide (KK.s x=KK.s y):=by
    by_cases e:x=y <;> simp [e]
   rw [this]; exact h
 «strs»:=fun k x t v h=>by
  rcases eU h with ⟨n,u,rfl,h1⟩ | ⟨y,u,rfl,h1⟩
  .cases h1
  .injection h1 with h2; subst h2
   cases v <;> rfl
inductive D where
 | py (p:PyData)
 | obj (n:Nat)
 | val (v:Value)
 | tup (ds:List D)
inductive O where
 | list (ds:List D)
 | dict (ep:Nat) (kvs:List (KK×D))
 | set (ks:List KK)
 | iter (src:Nat) (k:Nat)
 | inst (C:Addr) (fs:List (String×D))
 | slots (C:Addr) (fs:List (Option D))
 | bound (id:String) (self:Nat)
 | meth (f:Addr) (self:Nat)
 | plain
 | dead
 | froz (p:PyData)
noncomputable def O.live:O->Bool
 | .froz _=>false
 | _=>true
noncomputable abbrev Str.o (x:String):Str:=PySem.Str.ofString x
theorem fV {a b:String} (h:PySem.Str.ofString a=PySem.Str.ofString b):a=b:=by
 rw [PySem.Str.ofString_eq_toList,PySem.Str.ofString_eq_toList] at h;have h1:a.toList.map Char.toNat=b.toList.map Char.toNat:=by simpa using h
 have h2:a.toList=b.toList:=by
  refine (List.map_inj_right ?_).mp h1;intro x y e;exact Char.ext (UInt32.toNat_inj.mp e)
 exact String.toList_inj.mp h2
mutual
inductive Rp (h:Heap) (F:Addr->Prop):Value->PyData->Prop
 | none:Rp h F .none .none
 | bool (b):Rp h F (.bool b) (.bool b)
 | int (i t):Rp h F (.int i t) (.int i)
 | str (x t):Rp h F (.str x t) (.str x)
 | list {a vs n xs}:F a->h.get? a=some {cls:=.type "list",data:=.seq vs n}->bA h F vs.toList xs->Rp h F (.ref a) (.list xs)
 | tuple {a o vs n xs}:F a->h.get? a=some o->o.cls=.type "tuple" ->o.data=.seq vs n->bA h F vs.toList xs->Rp h F (.ref a) (.tuple xs)
inductive bA (h:Heap) (F:Addr->Prop):List Value->List PyData->Prop
 | nil:bA h F [] []
 | cons {v vs d ds}:Rp h F v d->bA h F vs ds->bA h F (v::vs) (d::ds)
end
theorem bA.ind {h:Heap} {F:Addr->Prop} {C:List Value->List PyData->Prop} (c0:C [] []) (c1:∀ {v vs d ds},Rp h F v d->bA h F vs ds->C vs ds->C (v::vs) (d::ds)):∀ {vs ds},bA h F vs ds->C vs ds:=fun r=>
 bA.rec (motive_1:=fun _ _ _=>True) (motive_2:=fun vs ds _=>C vs ds) trivial (fun _=>trivial) (fun _ _=>trivial) (fun _ _=>trivial) (fun _ _ _ _=>trivial) (fun _ _ _ _ _ _=>trivial) c0 (fun r rs _ ih=>c1 r rs ih) r
theorem Rp.mono {h h':Heap} {F F':Addr->Prop} (hF:∀ a,F a->F' a) (hh:∀ a o,F a->h.get? a=some o->h'.get? a=some o):∀ {v d},Rp h F v d->Rp h' F' v d:=fun r=>
 Rp.rec (motive_1:=fun v d _=>Rp h' F' v d) (motive_2:=fun vs ds _=>bA h' F' vs ds) .none .bool .int .str (fun f o _ ih=>.list (hF _ f) (hh _ _ f o) ih) (fun f o c d _ ih=>.tuple (hF _ f) (hh _ _ f o) c d ih) .nil (fun _ _ i1 i2=>.cons i1 i2) r
theorem bA.mono {h h':Heap} {F F':Addr->Prop} (hF:∀ a,F a->F' a) (hh:∀ a o,F a->h.get? a=some o->h'.get? a=some o):∀ {vs ds},bA h F vs ds->bA h' F' vs ds:=
 bA.ind .nil fun r _ ih=>.cons (r.mono hF hh) ih
theorem Rp.reads {h:Heap} {F:Addr->Prop}:∀ {v d},Rp h F v d->∃ as,Reads h v d as:=fun r=>
 Rp.rec (motive_1:=fun v d _=>∃ as,Reads h v d as) (motive_2:=fun vs ds _=>∃ as,ReadsAll h vs ds as) ⟨_,.none⟩ (fun b=>⟨_,.bool b⟩) (fun i t=>⟨_,.int i t⟩) (fun x t=>⟨_,.str x t⟩) (fun _ o _ ih=>ih.elim fun _ q=>⟨_,.list o rfl rfl q⟩) (fun _ o c d _ ih=>ih.elim fun _ q=>⟨_,.tuple o c d q⟩) ⟨_,.nil⟩ (fun _ _ i1 i2=>i1.elim fun _ q=>i2.elim fun _ qs=>⟨_,.cons q qs⟩) r
theorem bA.reads {h:Heap} {F:Addr->Prop}:∀ {vs ds},bA h F vs ds->∃ as,ReadsAll h vs ds as:=
 bA.ind (C:=fun vs ds=>∃ as,ReadsAll h vs ds as) ⟨_,.nil⟩ fun r _ ih=>r.reads.elim fun _ q=>ih.elim fun _ qs=>⟨_,.cons q qs⟩
structure Lay where
 mu:List (Addr×Addr)
 F:Addr->Prop
noncomputable def ES:Value->Bool
 | .ref _=>true
 | .builtin _=>true
 | .type _=>true
 | _=>false
mutual
inductive Rep (h:Heap) (l:Lay):Value->D->Prop
 | py {v p}:Rp h l.F v p->Rep h l v (.py p)
 | obj {n p}:l.mu[n]?=some p->Rep h l (.ref p.1) (.obj n)
 | val {v}:ES v=true->Rep h l v (.val v)
 | tup {a o vs n ds}:l.F a->h.get? a=some o->o.cls=.type "tuple" ->o.data=.seq vs n->au h l vs.toList ds->Rep h l (.ref a) (.tup ds)
inductive au (h:Heap) (l:Lay):List Value->List D->Prop
 | nil:au h l [] []
 | cons {v vs d ds}:Rep h l v d->au h l vs ds->au h l (v::vs) (d::ds)
end
structure cg (h:Heap) (l:Lay) (h':Heap) (l':Lay):Prop where
 mu:∀ (n:Nat) (p:Addr×Addr),l.mu[n]?=some p->l'.mu[n]?=some p
 F:∀ a,l.F a->l'.F a
 same:∀ a o,l.F a->h.get? a=some o->h'.get? a=some o
theorem cg.refl (h:Heap) (l:Lay):cg h l h l:=⟨fun _ _ e=>e,fun _ e=>e,fun _ _ _ e=>e⟩
theorem cg.trans {h h' h'':Heap} {l l' l'':Lay} (x:cg h l h' l') (y:cg h' l' h'' l''):cg h l h'' l'':=
 ⟨fun n p e=>y.mu n p (x.mu n p e),fun a e=>y.F a (x.F a e),fun a o e q=>y.same a o (x.F a e) (x.same a o e q)⟩
theorem au.ind {h:Heap} {l:Lay} {C:List Value->List D->Prop} (c0:C [] []) (c1:∀ {v vs d ds},Rep h l v d->au h l vs ds->C vs ds->C (v::vs) (d::ds)):∀ {vs ds},au h l vs ds->C vs ds:=fun r=>
 au.rec (motive_1:=fun _ _ _=>True) (motive_2:=fun vs ds _=>C vs ds) (fun _=>trivial) (fun _=>trivial) (fun _=>trivial) (fun _ _ _ _ _ _=>trivial) c0 (fun r rs _ ih=>c1 r rs ih) r
theorem Rep.later {h h':Heap} {l l':Lay} (x:cg h l h' l'):∀ {v d},Rep h l v d->Rep h' l' v d:=fun r=>
 Rep.rec (motive_1:=fun v d _=>Rep h' l' v d) (motive_2:=fun vs ds _=>au h' l' vs ds) (fun r=>.py (r.mono x.F x.same)) (fun e=>.obj (x.mu _ _ e)) .val (fun f o c d _ ih=>.tup (x.F _ f) (x.same _ _ f o) c d ih) .nil (fun _ _ i1 i2=>.cons i1 i2) r
theorem au.later {h h':Heap} {l l':Lay} (x:cg h l h' l'):∀ {vs ds},au h l vs ds->au h' l' vs ds:=
 au.ind .nil fun r _ ih=>.cons (r.later x) ih
theorem au.cons_inv {h:Heap} {l:Lay} {vs:List Value} {d:D} {ds:List D} (r:au h l vs (d::ds)):∃ v ws,vs=v::ws/\Rep h l v d/\au h l ws ds:=by
 cases r with | cons r rs=>exact ⟨_,_,rfl,r,rs⟩
theorem au.nil_inv {h:Heap} {l:Lay} {vs:List Value} (r:au h l vs []):vs=[]:=by cases r; rfl
theorem au.one {h:Heap} {l:Lay} {vs:List Value} {d:D} (r:au h l vs [d]):∃ v,vs=[v]/\Rep h l v d:=by
 obtain ⟨v,ws,rfl,r1,rs⟩:=r.cons_inv;exact ⟨v,by rw [rs.nil_inv],r1⟩
theorem au.two {h:Heap} {l:Lay} {vs:List Value} {d e:D} (r:au h l vs [d,e]):∃ v u,vs=[v,u]/\Rep h l v d/\Rep h l u e:=by
 obtain ⟨v,ws,rfl,r1,rs⟩:=r.cons_inv;obtain ⟨u,rfl,r2⟩:=rs.one;exact ⟨v,u,rfl,r1,r2⟩
theorem Rep.py_inv {h:Heap} {l:Lay} {v:Value} {p:PyData} (r:Rep h l v (.py p)):Rp h l.F v p:=by cases r; assumption
theorem Rep.str_inv {h:Heap} {l:Lay} {v:Value} {y:Str} (r:Rep h l v (.py (.str y))):∃ t,v=.str y t:=by cases r.py_inv; exact ⟨_,rfl⟩
theorem Rep.obj_inv {h:Heap} {l:Lay} {v:Value} {n:Nat} (r:Rep h l v (.obj n)):∃ p:Addr×Addr,v=.ref p.1/\l.mu[n]?=some p:=by cases r with | obj e=>exact ⟨_,rfl,e⟩
theorem Rp.list_inv {h:Heap} {F:Addr->Prop} {v:Value} {xs:List PyData} (r:Rp h F v (.list xs)):∃ a vs n,v=.ref a/\F a/\h.get? a=some {cls:=.type "list",data:=.seq vs n}/\bA h F vs.toList xs:=by
 cases r with | list f o r=>exact ⟨_,_,_,rfl,f,o,r⟩
theorem bA.rep {h:Heap} {l:Lay}:∀ {vs:List Value} {ps:List PyData},bA h l.F vs ps->au h l vs (ps.map .py):=
 bA.ind (C:=fun vs ps=>au h l vs (ps.map .py)) .nil fun r _ ih=>.cons (.py r) ih
noncomputable def dk:List D->Option (List PyData)
 | []=>some []
 | .py p::r=>(dk r).map (p::·)
 | _::_=>none
theorem qI {d:D} {ds:List D} {ps:List PyData} (e:dk (d::ds)=some ps):∃ p qs,d=.py p/\dk ds=some qs/\ps=p::qs:=by
 cases d with
 | py p=>
  obtain ⟨qs,e1,e2⟩:=Option.map_eq_some_iff.mp (show (dk ds).map (p::·)=some ps from e);exact ⟨p,qs,rfl,e1,e2.symm⟩
 | _=>cases e
theorem au.rp {h:Heap} {l:Lay} {vs:List Value} {ds:List D} {ps:List PyData} (r:au h l vs ds) (e:dk ds=some ps):bA h l.F vs ps:=by
 refine r.ind (C:=fun vs ds=>∀ ps,dk ds=some ps->bA h l.F vs ps) (fun ps e=>by cases e; exact .nil) (fun r _ ih ps e=>?_) ps e;obtain ⟨p,qs,rfl,e1,rfl⟩:=qI e;exact .cons r.py_inv (ih qs e1)
theorem lh (ps:List PyData):dk (ps.map .py)=some ps:=by
 induction ps with
 | nil=>rfl
 | cons p ps ih=>
  show (dk (ps.map .py)).map (p::·)=_;rw [ih];rfl
theorem au.length {h:Heap} {l:Lay}:∀ {vs:List Value} {ds:List D},au h l vs ds->vs.length=ds.length:=
 au.ind (C:=fun vs ds=>vs.length=ds.length) rfl fun _ _ ih=>congrArg (·+1) ih
theorem au.get {h:Heap} {l:Lay} {vs:List Value} {ds:List D} {k:Nat} {d:D} (r:au h l vs ds) (e:ds[k]?=some d):∃ v,vs[k]?=some v/\Rep h l v d:=by
 refine r.ind (C:=fun vs ds=>∀ k:Nat,ds[k]?=some d->∃ v,vs[k]?=some v/\Rep h l v d) (fun k e=>by cases e) (fun r _ ih k e=>?_) k e;cases k with
 | zero=>cases e; exact ⟨_,rfl,r⟩
 | succ k=>exact ih k e
theorem au.append {h:Heap} {l:Lay} {us:List Value} {es:List D} (q:au h l us es):∀ {vs:List Value} {ds:List D},au h l vs ds->au h l (vs++us) (ds++es):=
 au.ind (C:=fun vs ds=>au h l (vs++us) (ds++es)) q fun r _ ih=>.cons r ih
theorem au.take {h:Heap} {l:Lay} {vs:List Value} {ds:List D} (k:Nat) (r:au h l vs ds):au h l (vs.take k) (ds.take k):=by
 refine r.ind (C:=fun vs ds=>∀ k,au h l (vs.take k) (ds.take k)) (fun k=>by cases k <;> exact .nil) (fun r _ ih k=>?_) k;cases k with
 | zero=>exact .nil
 | succ k=>exact .cons r (ih k)
theorem au.drop {h:Heap} {l:Lay} {vs:List Value} {ds:List D} (k:Nat) (r:au h l vs ds):au h l (vs.drop k) (ds.drop k):=by
 refine r.ind (C:=fun vs ds=>∀ k,au h l (vs.drop k) (ds.drop k)) (fun k=>by cases k <;> exact .nil) (fun r rs ih k=>?_) k;cases k with
 | zero=>exact .cons r rs
 | succ k=>exact ih k
theorem au.set {h:Heap} {l:Lay} {v:Value} {d:D} (q:Rep h l v d) {vs:List Value} {ds:List D} (k:Nat) (r:au h l vs ds):au h l (vs.set k v) (ds.set k d):=by
 refine r.ind (C:=fun vs ds=>∀ k,au h l (vs.set k v) (ds.set k d)) (fun k=>.nil) (fun r rs ih k=>?_) k;cases k with
 | zero=>exact .cons q rs
 | succ k=>exact .cons r (ih k)
structure Cx where
 prog:Program
 w:World
 K:Frag
 base:Heap
 gens:Array GenState
 os:OsState
 loose:List Str
 mg:Str->Option Value
 mb:Str->Option Value
 view:Program
 top:TopRead view loose mg mb base
 inK:K.In base
 nolim:base.NoLimit
 big:∃ o,base.get? sysModules=some o
noncomputable abbrev Cx.M (c:Cx):Model:=model c.prog c.w
inductive fO (h:Heap) (l:Lay):List (KK×Value)->List (KK×D)->Prop
 | nil:fO h l [] []
 | cons {k v d vs ds}:Rep h l v d->fO h l vs ds->fO h l ((k,v)::vs) ((k,d)::ds)
theorem fO.later {h h':Heap} {l l':Lay} (x:cg h l h' l') {vs ds} (r:fO h l vs ds):fO h' l' vs ds:=by
 induction r with
 | nil=>exact .nil
 | cons r _ ih=>exact .cons (r.later x) ih
inductive Slots (h:Heap) (l:Lay):List (Option Value)->List (Option D)->Prop
 | nil:Slots h l [] []
 | none {vs ds}:Slots h l vs ds->Slots h l (none::vs) (none::ds)
 | some {v d vs ds}:Rep h l v d->Slots h l vs ds->Slots h l (some v::vs) (some d::ds)
theorem Slots.later {h h':Heap} {l l':Lay} (x:cg h l h' l') {vs ds} (r:Slots h l vs ds):Slots h' l' vs ds:=by
 induction r with
 | nil=>exact .nil
 | none _ ih=>exact .none ih
 | some r _ ih=>exact .some (r.later x) ih
inductive Ez (h:Heap) (l:Lay) (p:Addr×Addr) (src k:Nat):Prop
 | mk (q:Addr×Addr) (o:Obj):l.mu[src]?=some q->h.get? p.1=some o->o.cls=.type "list_iterator" ->o.dict=none->o.data=.fields #[.ref q.1,.int k 0]->Ez h l p src k
structure jX (h:Heap) (p:Addr×Addr) (C:Addr) (ox:Obj):Prop where
 at_:h.get? p.1=some ox
 cls:ox.cls=.ref C
 data:ox.data=.plain
 dict:ox.dict=some p.2
 ne:p.1≠p.2
inductive EC (h:Heap) (l:Lay) (p:Addr×Addr) (C:Addr) (fs:List (String×D)):Prop
 | mk (ox:Obj) (m:Str->Option Value):jX h p C ox->h.Ns1 p.2 m->Within m (fs.map fun q=>Str.o q.1)->(∀ x d,fs.lookup x=some d->∃ v,m (Str.o x)=some v/\Rep h l v d)->EC h l p C fs
inductive Cf (h:Heap) (l:Lay) (p:Addr×Addr) (C:Addr) (fs:List (Option D)):Prop
 | mk (ox od:Obj) (n:Nat):jX h p C ox->h.get? p.2=some od->od.cls=.type "dict" ->od.data=.dict #[] n->Slots h l ox.slots.toList fs->Cf h l p C fs
inductive CO (h:Heap) (l:Lay) (p:Addr×Addr) (id:String) (n:Nat):Prop
 | mk (ox:Obj) (q:Addr×Addr) (rest:Array Value):l.mu[n]?=some q->h.get? p.1=some ox->(ox.cls=.type "builtin_function_or_method" \/ox.cls=.type "method-wrapper")->ox.data=.fields (#[.builtin id,.ref q.1]++rest)->CO h l p id n
noncomputable def kx (c:Cx) (h:Heap) (l:Lay) (p:Addr×Addr):O->Prop
 | .list ds=>∃ vs,h.PlainList p.1 vs/\au h l vs.toList ds
 | .dict ep kvs=>∃ vs,h.DictAt (mix c.prog c.w) p.1 vs ep/\fO h l vs kvs
 | .set ks=>∃ S,h.SetOf (mix c.prog c.w) p.1 S ks.length/\ks.Nodup/\∀ k,S k=decide (k∈ks)
 | .iter src k=>Ez h l p src k
 | .inst C fs=>EC h l p C fs
 | .slots C fs=>Cf h l p C fs
 | .bound id n=>CO h l p id n
 | .meth f n=>∃ q,l.mu[n]?=some q/\h.get? p.1=some (methodObj (.ref f) (.ref q.1))
 | .plain=>∃ ox,h.get? p.1=some ox
 | .dead=>∃ ox,h.get? p.1=some ox
 | .froz x=>l.F p.1/\Rp h l.F (.ref p.1) x
theorem jX.later {h h':Heap} {p:Addr×Addr} {C:Addr} {ox:Obj} (r:jX h p C ox) (s1:∀ ob,h.get? p.1=some ob->h'.get? p.1=some ob):jX h' p C ox:=⟨s1 _ r.at_,r.cls,r.data,r.dict,r.ne⟩
theorem kx.later {c:Cx} {h h':Heap} {l l':Lay} {p:Addr×Addr} {o:O} (x:cg h l h' l') (r:kx c h l p o) (s1:∀ ob,h.get? p.1=some ob->h'.get? p.1=some ob) (s2:∀ ob,h.get? p.2=some ob->h'.get? p.2=some ob):kx c h' l' p o:=by
 cases o with
 | list ds=>obtain ⟨vs,⟨n,ho⟩,r⟩:=r; exact ⟨vs,⟨n,s1 _ ho⟩,r.later x⟩
 | dict ep kvs=>obtain ⟨vs,⟨o,es,ho,q⟩,r⟩:=r; exact ⟨vs,⟨o,es,s1 _ ho,q⟩,r.later x⟩
 | set ks=>obtain ⟨S,⟨o,es,ep,t,ho,q⟩,r⟩:=r; exact ⟨S,⟨o,es,ep,t,s1 _ ho,q⟩,r⟩
 | iter src k=>obtain ⟨q,o,e,ho,a,b,d⟩:=r; exact .mk q o (x.mu _ _ e) (s1 _ ho) a b d
 | inst C fs=>obtain ⟨ox,m,a,b,d,r⟩:=r; exact .mk ox m (a.later s1) (b.at s2) d fun y d e=>let ⟨v,e1,q⟩:=r y d e; ⟨v,e1,q.later x⟩
 | slots C fs=>obtain ⟨ox,od,n,a,b,d,e,r⟩:=r; exact .mk ox od n (a.later s1) (s2 _ b) d e (r.later x)
 | bound id n=>obtain ⟨ox,q,rest,e,ho,a,b⟩:=r; exact .mk ox q rest (x.mu _ _ e) (s1 _ ho) a b
 | meth f n=>obtain ⟨q,e,ho⟩:=r; exact ⟨q,x.mu _ _ e,s1 _ ho⟩
 | plain=>obtain ⟨ox,ho⟩:=r; exact ⟨ox,s1 _ ho⟩
 | dead=>obtain ⟨ox,ho⟩:=r; exact ⟨ox,s1 _ ho⟩
 | froz y=>exact ⟨x.F _ r.1,r.2.mono x.F x.same⟩
noncomputable def Lay.has (l:Lay) (a:Addr):Prop:=∃ (n:Nat) (p:Addr×Addr),l.mu[n]?=some p/\(a=p.1\/a=p.2)
structure Inv (c:Cx) (σ:List O) (l:Lay) (h:Heap):Prop where
 base:∀ b o,c.base.get? b=some o->h.get? b=some o
 len:l.mu.length=σ.length
 flt:∀ a,l.F a->∃ o,h.get? a=some o
 mlt:∀ a,l.has a->∃ o,h.get? a=some o
 mnew:∀ a,l.has a->c.base.get? a=none
 live:∀ (n:Nat) (o:O) (p:Addr×Addr),σ[n]?=some o->o.live=true->l.mu[n]?=some p->¬ l.F p.1/\¬ l.F p.2
 inj:∀ (n m:Nat) (p q:Addr×Addr),l.mu[n]?=some p->l.mu[m]?=some q->n≠m->p.1≠q.1/\p.1≠q.2/\p.2≠q.1/\p.2≠q.2
 objs:∀ (n:Nat) (o:O) (p:Addr×Addr),σ[n]?=some o->l.mu[n]?=some p->kx c h l p o
structure bt (c:Cx) (S:List Addr) (W:Addr->Prop) (l:Lay) (h:Heap) (l':Lay) (h':Heap):Prop where
 later:cg h l h' l'
 there:∀ a o,h.get? a=some o->∃ o',h'.get? a=some o'
 mu':∀ a,l'.has a->l.has a\/h.get? a=none
 F':∀ a,l'.F a->l.F a\/l.has a\/h.get? a=none
 same:∀ a o,¬ l.has a->¬ W a->a∉S->h.get? a=some o->h'.get? a=some o
 slots:∀ a o,¬ l.has a->¬ W a->h.get? a=some o->∃ sl,h'.get? a=some {o with slots:=sl}
theorem bt.refl (c:Cx) (S:List Addr) (W:Addr->Prop) (l:Lay) (h:Heap):bt c S W l h l h:=
 ⟨.refl _ _,fun _ o e=>⟨o,e⟩,fun _ e=>.inl e,fun _ e=>.inl e,fun _ _ _ _ _ e=>e,fun _ o _ _ e=>⟨o.slots,e⟩⟩
theorem bt.new {c:Cx} {S:List Addr} {W:Addr->Prop} {l l':Lay} {h h':Heap} (x:bt c S W l h l' h') {a:Addr} (e:h'.get? a=none):h.get? a=none:=by
 cases q:h.get? a with
 | none=>rfl
 | some o=>obtain ⟨o',q'⟩:=x.there a o q; rw [e] at q'; cases q'
theorem bt.trans {c:Cx} {S:List Addr} {W:Addr->Prop} {l l' l'':Lay} {h h' h'':Heap} (x:bt c S W l h l' h') (y:bt c S W l' h' l'' h''):bt c S W l h l'' h'' where
 later:=x.later.trans y.later
 there:=fun a o e=>let ⟨o',e'⟩:=x.there a o e; y.there a o' e'
 mu':=fun a e=>(y.mu' a e).elim (fun e=>x.mu' a e) fun e=>.inr (x.new e)
 F':=fun a e=>(y.F' a e).elim (fun e=>x.F' a e) fun e=>e.elim (fun e=>(x.mu' a e).elim (fun e=>.inr (.inl e)) fun e=>.inr (.inr e)) fun e=>.inr (.inr (x.new e))
 same:=fun a o h2 h3 h4 e=>y.same a o (fun z=>(x.mu' a z).elim h2 fun z=>by rw [z] at e; cases e) h3 h4 (x.same a o h2 h3 h4 e)
 slots:=fun a o h2 h3 e=>by
  obtain ⟨sl,e1⟩:=x.slots a o h2 h3 e;obtain ⟨sl',e2⟩:=y.slots a _ (fun z=>(x.mu' a z).elim h2 fun z=>by rw [z] at e; cases e) h3 e1;exact ⟨sl',e2⟩
theorem bt.weaken {c:Cx} {S S':List Addr} {W W':Addr->Prop} {l l':Lay} {h h':Heap} (x:bt c S W l h l' h') (hW:∀ a o,h.get? a=some o->W a->W' a) (hS:∀ a o,h.get? a=some o->a∈S->a∈S'):bt c S' W' l h l' h':=
 ⟨x.later,x.there,x.mu',x.F',fun a o h2 h3 h4 e=>x.same a o h2 (fun z=>h3 (hW a o e z)) (fun z=>h4 (hS a o e z)) e,fun a o h2 h3 e=>x.slots a o h2 (fun z=>h3 (hW a o e z)) e⟩
noncomputable abbrev aq:=List (String×D)
structure gY (env:Env) (wr:List Str) (ρ:aq) (l:Lay) (h:Heap):Prop where
 loc:∃ m,h.Ns env.locals m/\∀ x d,ρ.lookup x=some d->env.kindOf (Str.o x)=some .local->∃ v,m (Str.o x)=some v/\Rep h l v d
 cellk:∀ x,env.kindOf x=some .cell->∃ a,env.cells.lookup x=some a
 cell:∀ x a,env.cells.lookup x=some a->∃ v,h.IsCell a v
 cellv:∀ x d a,ρ.lookup x=some d->env.kindOf (Str.o x)=some .cell->env.cells.lookup (Str.o x)=some a->∃ v,h.IsCell a (some v)/\Rep h l v d
 kinds:∀ x d,ρ.lookup x=some d->env.kindOf (Str.o x)=some .local\/env.kindOf (Str.o x)=some .cell
 apart:∀ x y a,env.cells.lookup x=some a->env.cells.lookup y=some a->x=y
 offL:¬ l.F env.locals/\¬ l.has env.locals
 offC:∀ x a,env.cells.lookup x=some a->¬ l.F a/\¬ l.has a/\a≠env.locals
noncomputable def Own (env:Env) (wr:List Str) (a:Addr):Prop:=a=env.locals\/∃ x∈wr,env.cells.lookup x=some a
structure Ctx where
 c:Cx
 room:Nat
 A:Around
 env:Env
 wr:List Str
 fs:List Env
 quiet:Bool
 hfr:A.frames=some fs
 hfn:env.scope.kind=.function
 hgl:env.globals=mainGlobals
 hbt:env.builtins=builtinsNs
 hfr0:∃ f rest,fs=f::rest/\f.frame=env.frame/\f.frame.isSome=true
 hdep:A.depth+4 * room < 800
 huni:A.units+400 * room < 9000
 hquiet:quiet=true->A.handled=none
 hbL:c.base.get? env.locals=none
 hbC:∀ y a,env.cells.lookup y=some a->c.base.get? a=none
 hwr:∀ x,x∈wr->env.kindOf x=some .local\/env.kindOf x=some .cell
noncomputable def Ctx.S (x:Ctx):List Addr:=x.fs.filterMap (·.frame)
noncomputable def Ctx.W (x:Ctx):Addr->Prop:=Own x.env x.wr
structure St (x:Ctx) (ρ:aq) (σ:List O) (l:Lay) (s:Shared):Prop where
 inv:Inv x.c σ l s.heap
 env:gY x.env x.wr ρ l s.heap
 ff:s.heap.FunFrames x.c.base x.fs
 foff:∀ a,a∈x.S->¬ l.F a/\¬ l.has a
 gens:s.gens=x.c.gens
 os:s.os=x.c.os
theorem Inv.inK {c:Cx} {σ:List O} {l:Lay} {h:Heap} (i:Inv c σ l h):c.K.In h:=c.inK.keeps i.base
theorem Inv.nolim {c:Cx} {σ:List O} {l:Lay} {h:Heap} (i:Inv c σ l h):h.NoLimit:=c.nolim.keeps i.base
structure ASt where
 ρ:aq
 σ:List O
noncomputable def AM (β:Type):Type:=ASt->Option (Except Value β×ASt)
noncomputable def AM.ret {β:Type} (b:β):AM β:=fun st=>some (.ok b,st)
noncomputable def AM.andThen {β δ:Type} (f:AM β) (g:β->AM δ):AM δ:=fun st=>match f st with
 | some (.ok b,st')=>g b st'
 | some (.error x,st')=>some (.error x,st')
 | none=>none
noncomputable instance:Monad AM where
 pure:=AM.ret
 bind:=AM.andThen
structure MP where
 p:Heap->Lay->Prop
 mono:∀ {h l h' l'},cg h l h' l'->p h l->p h' l'
noncomputable def MP.tt:MP:=⟨fun _ _=>True,fun _ h=>h⟩
noncomputable def MP.and (a b:MP):MP:=⟨fun h l=>a.p h l/\b.p h l,fun x h=>⟨a.mono x h.1,b.mono x h.2⟩⟩
noncomputable def MP.fact (p:Prop):MP:=⟨fun _ _=>p,fun _ h=>h⟩
noncomputable def MP.rep (v:Value) (d:D):MP:=⟨fun h l=>Rep h l v d,fun x r=>r.later x⟩
noncomputable def MP.reps (vs:List Value) (ds:List D):MP:=⟨fun h l=>au h l vs ds,fun x r=>r.later x⟩
noncomputable def MP.eq {α:Type} (a b:α):MP:=.fact (a=b)
inductive XTb (fr:Option Addr) (h0:Heap) (ea:Addr) (vs:Array Value) (l:Lay) (h:Heap):Prop
 | mk (T:Addr) (oT:Obj) (ts:Array Value) (fl:Value):vs[1]?=some (.ref T)->T≠ea->h0.get? T=none->¬ l.F T->¬ l.has T->h.get? T=some oT->oT.data=.fields ts->ts[3]?=some fl->(fl=.none\/∃ L,fr=some L/\fl=rawInt L)->XTb fr h0 ea vs l h
inductive XOb (T:Addr->Array Value->Prop) (h0:Heap) (e X:Value) (l:Lay) (h:Heap):Prop
 | mk (ea:Addr) (oe:Obj) (vs:Array Value) (a0:Value):e=.ref ea->h0.get? ea=none->¬ l.F ea->¬ l.has ea->h.get? ea=some oe->oe.cls=X->oe.data=.fields vs->vs[0]?=some a0->T ea vs->XOb T h0 e X l h
noncomputable abbrev nI (fr:Option Addr) (h0:Heap) (e X:Value) (l:Lay) (h:Heap):Prop:=XOb (fun ea vs=>vs[1]?=some .none\/XTb fr h0 ea vs l h) h0 e X l h
theorem nI.before {fr:Option Addr} {h0 h1:Heap} {e X:Value} {l:Lay} {h:Heap} (x:nI fr h1 e X l h) (hs:∀ a,h1.get? a=none->h0.get? a=none):nI fr h0 e X l h:=by
 obtain ⟨ea,oe,vs,a0,a1,a2,a3,a4,a5,a6,a7,a8,r⟩:=x;exact .mk ea oe vs a0 a1 (hs _ a2) a3 a4 a5 a6 a7 a8 (r.imp_right fun ⟨T,oT,ts,fl,b1,b2,b3,b4,b5,b6,b7,b8,b9⟩=>⟨T,oT,ts,fl,b1,b2,hs _ b3,b4,b5,b6,b7,b8,b9⟩)
noncomputable abbrev Sp (x:Ctx) (l:Lay) (h:Heap) (l':Lay) (h':Heap):Prop:=bt x.c x.S x.W l h l' h'
inductive OkQ {α β:Type} (x:Ctx) (R:α->β->MP) (l:Lay) (h:Heap) (r:Except Value β) (st':ASt) (a:α) (s':Shared):Prop
 | mk (b:β) (l':Lay):r=.ok b->St x st'.ρ st'.σ l' s'->Sp x l h l' s'.heap->(R a b).p s'.heap l'->OkQ x R l h r st' a s'
inductive ErQ {β:Type} (x:Ctx) (l:Lay) (h:Heap) (r:Except Value β) (st':ASt) (e:Value) (s':Shared):Prop
 | mk (X:Value) (l':Lay):r=.error X->St x st'.ρ st'.σ l' s'->Sp x l h l' s'.heap->nI x.env.frame h e X l' s'.heap->ErQ x l h r st' e s'
noncomputable def Sim {α β:Type} (x:Ctx) (P:MP) (R:α->β->MP) (t:Sem α) (f:AM β):Prop:=
 ∀ ρ σ l s r st',f ⟨ρ,σ⟩=some (r,st')->St x ρ σ l s->P.p s.heap l->wpAny x.c.M x.A t (OkQ x R l s.heap r st') (ErQ x l s.heap r st') s
section
variable {α β γ δ:Type} {x:Ctx} {P P':MP} {R R':α->β->MP} {R2:γ->δ->MP} {t:Sem α} {f:AM β}
theorem OkQ.from {l l1:Lay} {h h1:Heap} {r:Except Value β} {st':ASt} {a:α} {s':Shared} (q:OkQ x R l1 h1 r st' a s') (st:Sp x l h l1 h1):OkQ x R l h r st' a s':=let ⟨b,l',e,q2,q3,q4⟩:=q; ⟨b,l',e,q2,st.trans q3,q4⟩
theorem ErQ.from {l l1:Lay} {h h1:Heap} {r:Except Value β} {st':ASt} {a:Value} {s':Shared} (q:ErQ x l1 h1 r st' a s') (st:Sp x l h l1 h1):ErQ x l h r st' a s':=let ⟨X,l',e,q2,q3,q4⟩:=q; ⟨X,l',e,q2,st.trans q3,q4.before fun _=>st.new⟩
theorem om {f:AM β} {g:β->AM δ} {st st':ASt} {r:Except Value δ} (e:(f>>=g) st=some (r,st')):
  (∃ b st1,f st=some (.ok b,st1)/\g b st1=some (r,st'))\/(∃ X,f st=some (.error X,st')/\r=.error X):=by
 have e2:AM.andThen f g st=some (r,st'):=e;unfold AM.andThen at e2;cases hf:f st with
 | none=>rw [hf] at e2; cases e2
 | some q=>
  obtain ⟨r1,st1⟩:=q;rw [hf] at e2;cases r1 with
  | ok b=>exact .inl ⟨b,st1,rfl,e2⟩
  | error X=>cases e2; exact .inr ⟨X,rfl,rfl⟩
theorem Sim.run (h:Sim x P R t f) {g:β->AM δ} {ρ:aq} {σ:List O} {l:Lay} {s:Shared} {r:Except Value δ} {st':ASt} (e:(f>>=g) ⟨ρ,σ⟩=some (r,st')) (hs:St x ρ σ l s) (hp:P.p s.heap l) {Q:α->Shared->Prop} {E:Value->Shared->Prop}
  (k:∀ a b ρ1 σ1 l1 s1,g b ⟨ρ1,σ1⟩=some (r,st')->St x ρ1 σ1 l1 s1->Sp x l s.heap l1 s1.heap->(R a b).p s1.heap l1->Q a s1) (ke:∀ e s1,ErQ x l s.heap r st' e s1->E e s1):wpAny x.c.M x.A t Q E s:=by
 rcases om e with ⟨b,st1,e1,e2⟩ | ⟨X,e1,rfl⟩
 .refine wpAny_mono (h ρ σ l s _ st1 e1 hs hp) (fun a s1 q=>?_) fun e s1 q=>?_
  .obtain ⟨_,l1,q,h1,h2,h3⟩:=q; cases q; exact k a _ _ _ l1 s1 e2 h1 h2 h3
  .obtain ⟨X,_,q,_⟩:=q; cases q
 .refine wpAny_mono (h ρ σ l s _ st' e1 hs hp) (fun a s1 q=>?_) fun e s1 q=>?_
  .obtain ⟨_,_,q,_⟩:=q; cases q
  .obtain ⟨_,l1,q,h1,h2,h3⟩:=q; cases q; exact ke e s1 ⟨_,l1,rfl,h1,h2,h3⟩
theorem Sim.ok (h:Sim x P R t f) {g:β->AM δ} {ρ:aq} {σ:List O} {l:Lay} {s:Shared} {c:δ} {st':ASt} (e:(f>>=g) ⟨ρ,σ⟩=some (.ok c,st')) (hs:St x ρ σ l s) (hp:P.p s.heap l) {Q:α->Shared->Prop} {E:Value->Shared->Prop}
  (k:∀ a b ρ1 σ1 l1 s1,g b ⟨ρ1,σ1⟩=some (.ok c,st')->St x ρ1 σ1 l1 s1->Sp x l s.heap l1 s1.heap->(R a b).p s1.heap l1->Q a s1):wpAny x.c.M x.A t Q E s:=
 h.run e hs hp k fun _ _ ⟨_,_,q,_,_,_⟩=>nomatch q
theorem Sim.bind {k:α->Sem γ} {g:β->AM δ} (h1:Sim x P R t f) (h2:∀ a b,Sim x (P.and (R a b)) R2 (k a) (g b)):Sim x P R2 (t>>=k) (f>>=g):=fun _ _ _ _ _ _ e hs hp=>wpAny_bind (h1.run e hs hp (fun a b _ _ _ _ e2 hs1 st hr=>wpAny_mono (h2 a b _ _ _ _ _ _ e2 hs1 ⟨P.mono st.later hp,hr⟩) (fun _ _ q=>q.from st) fun _ _ q=>q.from st) fun _ _ q=>q)
theorem Sim.pure {a:α} {b:β} (h:∀ h l,P.p h l->(R a b).p h l):Sim x P R (Pure.pure a) (Pure.pure b):=by
 intro ρ σ l s r st' e hs hp;have e':some (Except.ok b,(⟨ρ,σ⟩:ASt))=some (r,st'):=e;cases e';exact wpAny_pure ⟨b,l,rfl,hs,.refl ..,h _ _ hp⟩
theorem Sim.holding {vs:List Value} (h:Sim x P R t f):Sim x P R (holding vs t) f:=
 fun ρ σ l s r st' e hs hp=>wpAny_holding (h ρ σ l s r st' e hs hp)
theorem Sim.at {pos:Pos} {k:Unit->Sem α} (h:Sim x P R (k ()) f):Sim x P R (standAt pos>>=k) f:=
 fun ρ σ l s r st' e hs hp=>wpAny_bind (wpAny_standAt (h ρ σ l s r st' e hs hp))
theorem Sim.rule {tag:String} {k:Unit->Sem α} (h:Sim x P R (k ()) f):Sim x P R (PySem.rule tag>>=k) f:=
 fun ρ σ l s r st' e hs hp=>wpAny_bind (wpAny_rule (h ρ σ l s r st' e hs hp))
theorem Sim.map {g:β->δ} {R':α->δ->MP} (h:Sim x P R t f) (hR:∀ a b h l,(R a b).p h l->(R' a (g b)).p h l):Sim x P R' t (f>>=fun b=>Pure.pure (g b)):=fun _ _ _ _ _ _ e hs hp=>h.run e hs hp (fun _ _ _ _ l1 _ e2 hs1 st hr=>by cases (show some (Except.ok _,_)=some _ from e2); exact ⟨_,l1,rfl,hs1,st,hR _ _ _ _ hr⟩) fun _ _ q=>q
theorem Sim.of_eq {t':Sem α} (e:t=t') (h:Sim x P R t' f):Sim x P R t f:=e▸h
end
theorem St.toks {x:Ctx} {ρ:aq} {σ:List O} {l:Lay} {s:Shared} (h:St x ρ σ l s) (t:Nat):St x ρ σ l {s with toks:=t}:=
 ⟨h.inv,h.env,h.ff,h.foff,h.gens,h.os⟩
theorem St.rw {x:Ctx} {ρ:aq} {σ:List O} {l:Lay} {s s':Shared} (h:St x ρ σ l s) (e1:s'.heap=s.heap) (e2:s'.gens=s.gens) (e3:s'.os=s.os):St x ρ σ l s':=
 ⟨e1▸h.inv,e1▸h.env,e1▸h.ff,h.foff,e2.trans h.gens,e3.trans h.os⟩
theorem gY.cthere {env:Env} {wr:List Str} {ρ:aq} {l:Lay} {h:Heap} (x:gY env wr ρ l h) {y:Str} {a:Addr} (e:env.cells.lookup y=some a):∃ o,h.get? a=some o:=
 let ⟨_,o,q,_⟩:=x.cell y a e; ⟨o,q⟩
theorem gY.lthere {env:Env} {wr:List Str} {ρ:aq} {l:Lay} {h:Heap} (x:gY env wr ρ l h):∃ o,h.get? env.locals=some o:=
 let ⟨_,⟨o,_,_,q,_⟩,_⟩:=x.loc; ⟨o,q⟩
noncomputable def Mine.Env.here (env:Env) (a:Addr):Prop:=a=env.locals\/∃ y,env.cells.lookup y=some a
theorem gY.of_step {env:Env} {wr:List Str} {ρ:aq} {l l':Lay} {h h':Heap} (x:gY env wr ρ l h) (la:cg h l h' l')
  (hh:∀ a o,¬ l.has a->h.get? a=some o->Mine.Env.here env a->¬ l'.has a) (hF:∀ a o,¬ l.has a->¬ l.F a->h.get? a=some o->Mine.Env.here env a->¬ l'.F a)
  (hl:∀ a o,¬ l.has a->¬ l.F a->Mine.Env.here env a->h.get? a=some o->∃ sl,h'.get? a=some {o with slots:=sl}):gY env wr ρ l' h':=by
 have ct:=fun y a=>@gY.cthere _ _ _ _ _ x y a;obtain ⟨oL,hL⟩:=x.lthere;obtain ⟨⟨m,hm,hv⟩,cellk,cell,cellv,kinds,apart,offL,offC⟩:=x;refine ⟨⟨m,?_,fun y d e k=>?_⟩,cellk,fun y a c=>?_,fun y d a e k c=>?_,kinds,apart,⟨hF _ _ offL.2 offL.1 hL (.inl rfl),hh _ _ offL.2 hL (.inl rfl)⟩,fun y a c=>?_⟩
 .obtain ⟨o,es,ep,ho,hd,r⟩:=hm;obtain ⟨sl,e⟩:=hl _ o offL.2 offL.1 (.inl rfl) ho;exact ⟨_,es,ep,e,hd,r⟩
 .obtain ⟨v,e1,q⟩:=hv y d e k;exact ⟨v,e1,q.later la⟩
 .obtain ⟨v,o,ho,hd⟩:=cell y a c;obtain ⟨sl,e⟩:=hl a o (offC y a c).2.1 (offC y a c).1 (.inr ⟨y,c⟩) ho;exact ⟨v,_,e,hd⟩
 .obtain ⟨v,⟨o,ho,hd⟩,q⟩:=cellv y d a e k c;obtain ⟨sl,e1⟩:=hl a o (offC _ a c).2.1 (offC _ a c).1 (.inr ⟨_,c⟩) ho;exact ⟨v,⟨_,e1,hd⟩,q.later la⟩
 .obtain ⟨o,q⟩:=ct y a c;exact ⟨hF _ o (offC y a c).2.1 (offC y a c).1 q (.inr ⟨y,c⟩),hh _ o (offC y a c).2.1 q (.inr ⟨y,c⟩),(offC y a c).2.2⟩
theorem St.grow {x:Ctx} {ρ:aq} {σ:List O} {l:Lay} {s s':Shared} (hs:St x ρ σ l s) (keep:∀ b o,s.heap.get? b=some o->s'.heap.get? b=some o)
  (hg:s'.gens=s.gens) (ho:s'.os=s.os):St x ρ σ l s'/\bt x.c x.S x.W l s.heap l s'.heap:=by
 obtain ⟨i,e,f,fo,g,o⟩:=hs;have la:cg s.heap l s'.heap l:=⟨fun _ _ e=>e,fun _ e=>e,fun a o _ q=>keep a o q⟩
 refine ⟨⟨⟨fun b o q=>keep b o (i.base b o q),i.len,fun a q=>let ⟨o,e⟩:=i.flt a q; ⟨o,keep a o e⟩,fun a q=>let ⟨o,e⟩:=i.mlt a q; ⟨o,keep a o e⟩,i.mnew,i.live,i.inj,fun n o p q1 q2=>(i.objs n o p q1 q2).later la (fun ob=>keep _ ob) (fun ob=>keep _ ob)⟩,
  e.of_step la (fun a _ h1 _ _=>h1) (fun a _ _ h2 _ _=>h2) (fun a o _ _ _ q=>⟨o.slots,keep a o q⟩),f.of_keeps fun b o q _=>⟨o,keep b o q,rfl⟩,fo,hg.trans g,ho.trans o⟩,?_⟩
 exact ⟨la,fun a o q=>⟨o,keep a o q⟩,fun a q=>.inl q,fun a q=>.inl q,fun a o _ _ _ q=>keep a o q,fun a o _ _ q=>⟨o.slots,keep a o q⟩⟩
theorem St.push {x:Ctx} {ρ:aq} {σ:List O} {l:Lay} {s:Shared} (hs:St x ρ σ l s) (o:Obj) (t:Nat):St x ρ σ l {s with heap:=s.heap.push o,toks:=t}/\bt x.c x.S x.W l s.heap l (s.heap.push o):=
 hs.grow (s':={s with heap:=s.heap.push o,toks:=t}) (fun a o' e=>Heap.get?_push_of_some _ e) rfl rfl
structure cP (x:Ctx) (l:Lay) (h:Heap) (a:Addr):Prop where
 there:∃ o,h.get? a=some o
 base:x.c.base.get? a=none
 F:¬ l.F a
 has:¬ l.has a
 here:¬ Mine.Env.here x.env a
 fs:a∉x.S
theorem FunFrames.frames_there {base:Heap} {fs:List Env} {h:Heap} (q:h.FunFrames base fs) (a:Addr) (ha:a∈fs.filterMap (·.frame)):∃ o,h.get? a=some o:=by
 obtain ⟨_,o,ho,_⟩:=q.mem ha;exact ⟨o,ho⟩
theorem aP {h:Heap} {a:Addr} {o:Obj} (e:h.get? a=none) (q:h.get? a=some o) {p:Prop}:p:=by rw [e] at q; cases q
theorem St.free_new {x:Ctx} {ρ:aq} {σ:List O} {l:Lay} {s:Shared} (hs:St x ρ σ l s) {h':Heap} {a:Addr} (h1:s.heap.get? a=none) (h2:∃ o,h'.get? a=some o):cP x l h' a where
 there:=h2
 base:=by
  cases q:x.c.base.get? a with
  | none=>rfl
  | some o=>exact aP h1 (hs.inv.base a o q)
 F:=fun e=>let ⟨_,q⟩:=hs.inv.flt a e; aP h1 q
 has:=fun e=>let ⟨_,q⟩:=hs.inv.mlt a e; aP h1 q
 here:=fun e=>by
  rcases e with rfl | ⟨y,e⟩
  .obtain ⟨_,q⟩:=hs.env.lthere; exact aP h1 q
  .obtain ⟨_,q⟩:=hs.env.cthere e; exact aP h1 q
 fs:=fun e=>let ⟨_,q⟩:=FunFrames.frames_there hs.ff a e; aP h1 q
noncomputable def Lay.freeze (l:Lay) (a:Addr):Lay:=⟨l.mu,fun b=>l.F b\/b=a⟩
noncomputable def Lay.add (l:Lay) (p:Addr×Addr):Lay:=⟨l.mu++[p],l.F⟩
theorem cg.freeze (h:Heap) (l:Lay) (a:Addr):cg h l h (l.freeze a):=⟨fun _ _ e=>e,fun _ e=>.inl e,fun _ _ _ e=>e⟩
theorem cg.add (h:Heap) (l:Lay) (p:Addr×Addr):cg h l h (l.add p):=
 ⟨fun n q e=>by show (l.mu++[p])[n]?=some q; rw [List.getElem?_append_left (List.getElem?_eq_some_iff.mp e).1]; exact e,fun _ e=>e,fun _ _ _ e=>e⟩
theorem jF {α:Type} {l:List α} {p q:α} {n:Nat} (e:(l++[p])[n]?=some q):(n < l.length/\l[n]?=some q)\/(n=l.length/\q=p):=by
 by_cases hn:n < l.length
 .rw [List.getElem?_append_left hn] at e; exact .inl ⟨hn,e⟩
 .rw [List.getElem?_append_right (Nat.le_of_not_lt hn)] at e
  have hz:n - l.length=0:=by
   cases hq:n - l.length with
   | zero=>rfl
   | succ k=>rw [hq] at e; simp at e
  rw [hz] at e;simp at e;exact .inr ⟨by omega,e.symm⟩
theorem Lay.has_add {l:Lay} {p:Addr×Addr} {a:Addr}:(l.add p).has a↔l.has a\/a=p.1\/a=p.2:=by
 constructor
 .rintro ⟨n,q,e,h⟩
  rcases jF (show (l.mu++[p])[n]?=some q from e) with ⟨_,k⟩ | ⟨_,rfl⟩
  .exact .inl ⟨n,q,k,h⟩
  .exact .inr h
 .rintro (⟨n,q,e,h⟩ | h)
  .exact ⟨n,q,(cg.add default l p).mu n q e,h⟩
  .exact ⟨l.mu.length,p,by show (l.mu++[p])[l.mu.length]?=some p; simp,h⟩
theorem St.freeze {x:Ctx} {ρ:aq} {σ:List O} {l:Lay} {s:Shared} (hs:St x ρ σ l s) {a:Addr} (hf:cP x l s.heap a):St x ρ σ (l.freeze a) s:=by
 obtain ⟨i,e,f,fo,g,o⟩:=hs;have la:=cg.freeze s.heap l a;refine ⟨⟨i.base,i.len,fun b q=>q.elim (i.flt b) fun e=>e▸hf.there,i.mlt,i.mnew,fun n o p h1 h2 h3=>?_,i.inj,fun n o p h1 h2=>(i.objs n o p h1 h2).later la (fun _ e=>e) (fun _ e=>e)⟩,?_,f,fun b q=>⟨fun z=>z.elim (fo b q).1 fun z=>hf.fs (z▸q),(fo b q).2⟩,g,o⟩
 .obtain ⟨q1,q2⟩:=i.live n o p h1 h2 h3;exact ⟨fun z=>z.elim q1 fun z=>hf.has ⟨n,p,h3,.inl z.symm⟩,fun z=>z.elim q2 fun z=>hf.has ⟨n,p,h3,.inr z.symm⟩⟩
 .exact e.of_step la (fun b _ h1 _ _=>h1) (fun b _ _ h2 _ h4 z=>z.elim h2 fun z=>hf.here (z▸h4)) (fun b o _ _ _ q=>⟨o.slots,q⟩)
theorem St.add {x:Ctx} {ρ:aq} {σ:List O} {l:Lay} {s:Shared} (hs:St x ρ σ l s) {p:Addr×Addr} (h1:cP x l s.heap p.1) (h2:cP x l s.heap p.2) {o:O} (ho:kx x.c s.heap l p o) (hl:o.live=true):
  St x ρ (σ++[o]) (l.add p) s:=by
 obtain ⟨i,e,f,fo,g,os⟩:=hs;have la:=cg.add s.heap l p;have cmu:∀ (n:Nat) (q:Addr×Addr),(l.add p).mu[n]?=some q->(n < l.mu.length/\l.mu[n]?=some q)\/(n=l.mu.length/\q=p):=fun n q e=>jF e;refine ⟨⟨i.base,by simp [Lay.add,i.len],i.flt,fun a q=>?_,fun a q=>?_,fun n o' q h3 h4 h5=>?_,fun n m q r h3 h4 h5=>?_,fun n o' q h3 h4=>?_⟩,?_,f,fun b q=>⟨(fo b q).1,fun z=>(Lay.has_add.mp z).elim (fo b q).2 fun z=>z.elim (fun z=>h1.fs (z▸q)) fun z=>h2.fs (z▸q)⟩,g,os⟩
 .rcases Lay.has_add.mp q with q | rfl | rfl
  .exact i.mlt a q
  .exact h1.there
  .exact h2.there
 .rcases Lay.has_add.mp q with q | rfl | rfl
  .exact i.mnew a q
  .exact h1.base
  .exact h2.base
 .rcases jF h3 with ⟨k1,k2⟩ | ⟨k1,k2⟩ <;> rcases cmu n q h5 with ⟨k3,k4⟩ | ⟨k3,k4⟩
  .exact i.live n o' q k2 h4 k4
  .have:=i.len; omega
  .have:=i.len; omega
  .subst k4; exact ⟨h1.F,h2.F⟩
 .rcases cmu n q h3 with ⟨k1,k2⟩ | ⟨k1,k2⟩ <;> rcases cmu m r h4 with ⟨k3,k4⟩ | ⟨k3,k4⟩
  .exact i.inj n m q r k2 k4 h5
  .subst k4;exact ⟨fun z=>h1.has ⟨n,q,k2,.inl z.symm⟩,fun z=>h2.has ⟨n,q,k2,.inl z.symm⟩,fun z=>h1.has ⟨n,q,k2,.inr z.symm⟩,fun z=>h2.has ⟨n,q,k2,.inr z.symm⟩⟩
  .subst k2;exact ⟨fun z=>h1.has ⟨m,r,k4,.inl z⟩,fun z=>h1.has ⟨m,r,k4,.inr z⟩,fun z=>h2.has ⟨m,r,k4,.inl z⟩,fun z=>h2.has ⟨m,r,k4,.inr z⟩⟩
  .omega
 .rcases jF h3 with ⟨k1,k2⟩ | ⟨k1,k2⟩ <;> rcases cmu n q h4 with ⟨k3,k4⟩ | ⟨k3,k4⟩
  .exact (i.objs n o' q k2 k4).later la (fun _ e=>e) (fun _ e=>e)
  .have:=i.len; omega
  .have:=i.len; omega
  .subst k4; subst k2; exact ho.later la (fun _ e=>e) (fun _ e=>e)
 .refine e.of_step la (fun b _ h3 _ h4 z=>?_) (fun b _ _ h3 _ _=>h3) (fun b o _ _ _ q=>⟨o.slots,q⟩);rcases Lay.has_add.mp z with z | rfl | rfl
  .exact h3 z
  .exact h1.here h4
  .exact h2.here h4
theorem bt.freeze {c:Cx} {S:List Addr} {W:Addr->Prop} {l l':Lay} {h h':Heap} (x:bt c S W l h l' h') {a:Addr} (ha:h.get? a=none):bt c S W l h (l'.freeze a) h':=
 ⟨x.later.trans (cg.freeze _ _ _),x.there,x.mu',fun b q=>q.elim (x.F' b) fun e=>.inr (.inr (e▸ha)),x.same,x.slots⟩
theorem bt.add {c:Cx} {S:List Addr} {W:Addr->Prop} {l l':Lay} {h h':Heap} (x:bt c S W l h l' h') {p:Addr×Addr} (h1:h.get? p.1=none) (h2:h.get? p.2=none):bt c S W l h (l'.add p) h':=
 ⟨x.later.trans (cg.add _ _ _),x.there,fun b q=>(Lay.has_add.mp q).elim (x.mu' b) fun e=>.inr (e.elim (fun e=>e▸h1) fun e=>e▸h2),x.F',x.same,x.slots⟩
theorem bi (h:Heap):h.get? h.objs.size=none:=Heap.get?_none_of_le (Nat.le_refl _)
theorem cg.of_off {h h':Heap} {l:Lay} (hk:∀ a o,l.F a->h.get? a=some o->h'.get? a=some o):cg h l h' l:=⟨fun _ _ e=>e,fun _ e=>e,hk⟩
theorem cK {h h':Heap} {b:Addr} (x:Heap.SameBut b h h'):∀ a ob,a≠b->h.get? a=some ob->h'.get? a=some ob:=fun a _ n e=>(x.2 a n).trans e
theorem FunFrames.stay {base h h':Heap} {fs:List Env} (f:h.FunFrames base fs) (fr:∀ a∈fs.filterMap (·.frame),∀ ob,h.get? a=some ob->(∀ vs,ob.data≠.fields vs)->∃ ob',h'.get? a=some ob'/\∀ vs,ob'.data≠.fields vs):h'.FunFrames base fs:=by
 induction fs with
 | nil=>trivial
 | cons env rest ih=>
  obtain ⟨hk,⟨L,oo,hf,hn,hoo,hd⟩,hr⟩:=f;rw [List.filterMap_cons,hf] at fr;obtain ⟨o',h1,h2⟩:=fr L List.mem_cons_self oo hoo hd;exact ⟨hk,⟨L,o',hf,hn,h1,h2⟩,ih hr fun a ha=>fr a (List.mem_cons_of_mem _ ha)⟩
structure Wrt (p:Addr×Addr) (h h':Heap):Prop where
 keep:∀ a ob,a≠p.1->a≠p.2->h.get? a=some ob->h'.get? a=some ob
 h1:∃ ob,h'.get? p.1=some ob
 h2:∃ ob,h'.get? p.2=some ob
theorem Wrt.one {p:Addr×Addr} {h h':Heap} (hsb:Heap.SameBut p.1 h h') (h1:∃ ob,h'.get? p.1=some ob) (h2:∃ ob,h.get? p.2=some ob):Wrt p h h':=
 ⟨fun a ob n _=>cK hsb a ob n,h1,by
  by_cases e:p.2=p.1
  .rw [e]; exact h1
  .exact h2.imp fun ob=>cK hsb _ ob e⟩
theorem St.write {x:Ctx} {ρ:aq} {σ:List O} {l:Lay} {s s':Shared} (hs:St x ρ σ l s) {n:Nat} {o o':O} {p:Addr×Addr} (hn:σ[n]?=some o) (hl:o.live=true) (hp:l.mu[n]?=some p) (w:Wrt p s.heap s'.heap)
  (hg:s'.gens=s.gens) (ho:s'.os=s.os) (hr:kx x.c s'.heap l p o'):St x ρ (σ.set n o') l s'/\bt x.c x.S x.W l s.heap l s'.heap:=by
 obtain ⟨i,e,f,fo,g,os⟩:=hs;obtain ⟨f1,f2⟩:=i.live n o p hn hl hp;have off:∀ a ob,¬ l.has a->s.heap.get? a=some ob->s'.heap.get? a=some ob:=fun a ob q2=>w.keep a ob (fun z=>q2 (z▸⟨n,p,hp,.inl rfl⟩)) fun z=>q2 (z▸⟨n,p,hp,.inr rfl⟩)
 have there:∀ a ob,s.heap.get? a=some ob->∃ ob',s'.heap.get? a=some ob':=fun a ob q=>by
  by_cases e1:a=p.1
  .exact e1▸w.h1
  .by_cases e2:a=p.2
   .exact e2▸w.h2
   .exact ⟨ob,w.keep a ob e1 e2 q⟩
 have la:cg s.heap l s'.heap l:=.of_off fun a ob q=>w.keep a ob (fun z=>f1 (z▸q)) fun z=>f2 (z▸q);refine ⟨⟨⟨fun b o q=>off b o (fun z=>aP (i.mnew b z) q) (i.base b o q),by rw [List.length_set]; exact i.len,
   fun a q=>let ⟨ob,e⟩:=i.flt a q; there a ob e,fun a q=>let ⟨ob,e⟩:=i.mlt a q; there a ob e,i.mnew,fun m o2 q k1 k2 k3=>?_,i.inj,fun m o2 q k1 k2=>?_⟩,
  e.of_step la (fun a _ h1 _ _=>h1) (fun a _ _ h2 _ _=>h2) (fun a o q1 _ _ q=>⟨o.slots,off a o q1 q⟩),FunFrames.stay f fun a ha ob q d=>⟨ob,off a ob (fo a ha).2 q,d⟩,fo,hg.trans g,ho.trans os⟩,
  ⟨la,there,fun a q=>.inl q,fun a q=>.inl q,fun a o k2 _ _=>off a o k2,fun a o k2 _ q=>⟨o.slots,off a o k2 q⟩⟩⟩
 .by_cases hm:n=m
  .subst hm; rw [hp] at k3; cases k3; exact ⟨f1,f2⟩
  .rw [List.getElem?_set_ne hm] at k1; exact i.live m o2 q k1 k2 k3
 .by_cases hm:n=m
  .subst hm;rw [hp] at k2; cases k2;rw [List.getElem?_set_self (List.getElem?_eq_some_iff.mp hn).1] at k1;cases k1;exact hr
  .rw [List.getElem?_set_ne hm] at k1;obtain ⟨d1,d2,d3,d4⟩:=i.inj n m p q hp k2 hm;exact (i.objs m o2 q k1 k2).later la (fun ob=>w.keep _ ob (Ne.symm d1) (Ne.symm d3)) (fun ob=>w.keep _ ob (Ne.symm d2) (Ne.symm d4))
noncomputable def put (v:String) (d:D):aq->aq
 | []=>[(v,d)]
 | (y,e)::r=>if y=v then (v,d)::r else (y,e)::put v d r
theorem dX (v:String) (d:D) (y:String):∀ ρ:aq,(put v d ρ).lookup y=if y=v then some d else ρ.lookup y
 | []=>by
  by_cases h:y=v
  .subst h; simp [put]
  .have:(y==v)=false:=by simpa using h
   simp [put,List.lookup,this,h]
 | (z,e)::r=>by
  unfold put;by_cases hz:z=v
  .subst hz;rw [if_pos rfl];by_cases h:y=z
   .subst h; simp [List.lookup]
   .have:(y==z)=false:=by simpa using h
    simp [List.lookup,this,h]
  .rw [if_neg hz];by_cases h:y=z
   .subst h; simp [List.lookup,hz]
   .have:(y==z)=false:=by simpa using h
    simp only [List.lookup,this];exact dX v d y r
theorem aD {v:String} {d:D} {ρ:aq}:(put v d ρ).lookup v=some d:=by rw [dX,if_pos rfl]
theorem aY {v:String} {d:D} {y:String} {ρ:aq} {r:Option D} (h:ρ.lookup y=r) (hv:y≠v):(put v d ρ).lookup y=r:=by rw [dX,if_neg hv]; exact h
noncomputable def ad (v:String):AM D:=fun st=>(st.ρ.lookup v).map fun d=>(.ok d,st)
noncomputable def aQ (v:String) (d:D):AM Unit:=fun st=>some (.ok (),⟨put v d st.ρ,st.σ⟩)
section
variable {x:Ctx} {P:MP}
theorem mS {v:String}:Sim x P MP.rep (loadName x.env (Str.o v)) (ad v):=by
 intro ρ σ l s r st' e hs hp;obtain ⟨d,hv,e⟩:=Option.map_eq_some_iff.mp e;cases e;rcases hs.env.kinds v d hv with hk | hk
 .obtain ⟨m,hm,hval⟩:=hs.env.loc;obtain ⟨val,e1,q⟩:=hval v d hv hk;exact wpAny_loadName_local x.hfn hk hm e1 ⟨d,l,rfl,hs,.refl ..,q⟩
 .obtain ⟨a,ha⟩:=hs.env.cellk _ hk;obtain ⟨val,hc,q⟩:=hs.env.cellv v d a hv hk ha;exact wpAny_loadName_cell x.hfn hk ha hc ⟨d,l,rfl,hs,.refl ..,q⟩
theorem BW {v:String} {pos:Pos} (hd:(Str.o v==("__debug__" :PySem.Str))=false):Sim x P MP.rep (eval (.Name (Str.o v) pos) x.env) (ad v):=
 fun ρ σ l s r st' e hs hp=>wpAny_Name (mS ρ σ l s r st' e hs hp) hd
structure xg (c:Cx) (n:String) (v:Value):Prop where
 has:c.mg (Str.o n)=some v\/(c.mg (Str.o n)=none/\c.mb (Str.o n)=some v)
theorem Bk {n:String} {pos:Pos} {v:Value} {d:D} (hg:xg x.c n v) (hk:x.env.kindOf (Str.o n)=some .globalImplicit) (hr:∀ h l,Rep h l v d)
  (hd:(Str.o n==("__debug__" :PySem.Str))=false):Sim x P MP.rep (eval (.Name (Str.o n) pos) x.env) (pure d):=by
 intro ρ σ l s r st' e hs hp;have e':some (Except.ok d,(⟨ρ,σ⟩:ASt))=some (r,st'):=e;cases e';have hgl:s.heap.Ns x.env.globals x.c.mg:=by rw [x.hgl]; exact x.c.top.g.keeps hs.inv.base
 have hbl:s.heap.Ns x.env.builtins x.c.mb:=by rw [x.hbt]; exact x.c.top.b.keeps hs.inv.base
 rcases hg.has with h | ⟨h1,h2⟩
 .exact Calls.Name_function_global x.hfn hk (Calls.loadGlobal_global hgl h ⟨d,l,rfl,hs,.refl ..,hr _ _⟩) hd
 .exact Calls.Name_function_global x.hfn hk (Calls.loadGlobal_builtin hgl h1 hbl h2 ⟨d,l,rfl,hs,.refl ..,hr _ _⟩) hd
theorem St.own {ρ ρ':aq} {σ:List O} {l:Lay} {s s':Shared} (hs:St x ρ σ l s) {b:Addr} (hb:x.W b) (hbo:Mine.Env.here x.env b)
  (hsb:∀ a ob,a≠b->s.heap.get? a=some ob->s'.heap.get? a=some ob) (hg:s'.gens=s.gens) (ho:s'.os=s.os) (hbase:x.c.base.get? b=none) (hex:∃ o,s'.heap.get? b=some o/\∀ vs,o.data≠.fields vs)
  (henv:gY x.env x.wr ρ' l s'.heap):St x ρ' σ l s'/\bt x.c x.S x.W l s.heap l s'.heap:=by
 obtain ⟨i,e,f,fo,g,os⟩:=hs
 have hoff:¬ l.F b/\¬ l.has b:=by
  rcases hbo with rfl | ⟨y,hy⟩
  .exact e.offL
  .exact ⟨(e.offC y b hy).1,(e.offC y b hy).2.1⟩
 have la:cg s.heap l s'.heap l:=.of_off fun a o q=>hsb a o fun z=>hoff.1 (z▸q)
 have there:∀ a ob,s.heap.get? a=some ob->∃ ob',s'.heap.get? a=some ob':=fun a ob q=>by
  by_cases e1:a=b
  .subst e1; obtain ⟨o,q,_⟩:=hex; exact ⟨o,q⟩
  .exact ⟨ob,hsb a ob e1 q⟩
 refine ⟨⟨⟨fun a o q=>hsb a o (fun z=>aP hbase (z▸q)) (i.base a o q),i.len,fun a q=>let ⟨ob,e⟩:=i.flt a q; there a ob e,fun a q=>let ⟨ob,e⟩:=i.mlt a q; there a ob e,i.mnew,i.live,i.inj,
   fun n o p h1 h2=>(i.objs n o p h1 h2).later la (fun ob=>hsb _ ob fun z=>hoff.2 ⟨n,p,h2,.inl z.symm⟩) (fun ob=>hsb _ ob fun z=>hoff.2 ⟨n,p,h2,.inr z.symm⟩)⟩,henv,FunFrames.stay f fun a _ ob q d=>?_,fo,hg.trans g,ho.trans os⟩,
  ⟨la,there,fun a q=>.inl q,fun a q=>.inl q,fun a o _ h3 _=>hsb a o fun z=>h3 (z▸hb),fun a o _ h3 q=>⟨o.slots,hsb a o (fun z=>h3 (z▸hb)) q⟩⟩⟩
 by_cases e1:a=b
 .exact e1▸hex
 .exact ⟨ob,hsb a ob e1 q,d⟩
theorem su {v:String} {val:Value} {d:D} (hw:Str.o v∈x.wr) (hr:∀ h l,P.p h l->Rep h l val d):Sim x P (fun _ _=>MP.tt) (storeName x.env (Str.o v) val) (aQ v d):=by
 intro ρ σ l s r st' e hs hp;cases e;have hrep:=hr _ _ hp;obtain ⟨m,hm,hval⟩:=hs.env.loc;have E:=hs.env
 have kinds:∀ {k:NameKind},x.env.kindOf (Str.o v)=some k->k=.local\/k=.cell->∀ y d',(put v d ρ).lookup y=some d'->x.env.kindOf (Str.o y)=some .local\/x.env.kindOf (Str.o y)=some .cell:=fun hk hc y d' e=>by
  rw [dX] at e;by_cases hy:y=v
  .rw [hy,hk]; exact hc.imp (congrArg some) (congrArg some)
  .rw [if_neg hy] at e; exact E.kinds y d' e
 have old:∀ {y d'},(put v d ρ).lookup y=some d'->y=v/\d=d'\/y≠v/\ρ.lookup y=some d':=fun {y d'} e=>by
  rw [dX] at e;by_cases hy:y=v
  .rw [if_pos hy] at e; exact .inl ⟨hy,Option.some.inj e⟩
  .rw [if_neg hy] at e; exact .inr ⟨hy,e⟩
 rcases x.hwr _ hw with hk | hk
 .refine wpAny_storeName_local hk hm (fun h' hm' hsb=>?_) (by rw [x.hfn]; rfl);have la:cg s.heap l h' l:=.of_off fun a o q=>cK hsb a o fun z=>E.offL.1 (z▸q)
  suffices E':gY x.env x.wr (put v d ρ) l h' by
   obtain ⟨h1,h2⟩:=hs.own (s':={s with heap:=h',toks:=s.toks+1}) (b:=x.env.locals) (.inl rfl) (.inl rfl) (cK hsb) rfl rfl x.hbL
    (by obtain ⟨o',es,ep,ho',hd',_⟩:=hm'; exact ⟨o',ho',fun vs q=>by rw [hd'] at q; cases q⟩) E'
   exact ⟨(),l,rfl,h1,h2,trivial⟩
  refine ⟨⟨_,hm',fun y d' e k=>?_⟩,E.cellk,fun y a c=>let ⟨v',q⟩:=E.cell y a c; ⟨v',q.sameBut hsb (E.offC y a c).2.2⟩,fun y d' a e k c=>?_,kinds hk (.inl rfl),E.apart,E.offL,E.offC⟩
  .rcases old e with ⟨rfl,rfl⟩ | ⟨hy,e⟩
   .exact ⟨val,if_pos rfl,hrep.later la⟩
   .obtain ⟨v',e1,q⟩:=hval y d' e k;exact ⟨v',(if_neg fun z=>hy (fV z)).trans e1,q.later la⟩
  .rcases old e with ⟨rfl,_⟩ | ⟨hy,e⟩
   .cases hk.symm.trans k
   .exact let ⟨v',q1,q2⟩:=E.cellv y d' a e k c; ⟨v',q1.sameBut hsb (E.offC _ a c).2.2,q2.later la⟩
 .obtain ⟨a,ha⟩:=E.cellk _ hk;obtain ⟨v0,hc⟩:=E.cell _ a ha;refine wpAny_storeName_cell x.hfn hk ha hc (fun h' hc' hsb=>?_);have la:cg s.heap l h' l:=.of_off fun b o q=>cK hsb b o fun z=>(E.offC _ a ha).1 (z▸q)
  suffices E':gY x.env x.wr (put v d ρ) l h' by
   obtain ⟨h1,h2⟩:=hs.own (s':={s with heap:=h'}) (b:=a) (.inr ⟨_,hw,ha⟩) (.inr ⟨_,ha⟩) (cK hsb) rfl rfl (x.hbC _ a ha)
    (by obtain ⟨o',ho',hd'⟩:=hc'; exact ⟨o',ho',fun vs q=>by rw [hd'] at q; cases q⟩) E'
   exact ⟨(),l,rfl,h1,h2,trivial⟩
  refine ⟨⟨m,hm.sameBut hsb (Ne.symm (E.offC _ a ha).2.2),fun y d' e k=>?_⟩,E.cellk,fun y b c=>?_,fun y d' b e k c=>?_,kinds hk (.inr rfl),E.apart,E.offL,E.offC⟩
  .rcases old e with ⟨rfl,_⟩ | ⟨_,e⟩
   .cases hk.symm.trans k
   .exact let ⟨v',e1,q⟩:=hval y d' e k; ⟨v',e1,q.later la⟩
  .by_cases hb:b=a
   .exact hb▸⟨_,hc'⟩
   .exact let ⟨v',q⟩:=E.cell y b c; ⟨v',q.sameBut hsb hb⟩
  .rcases old e with ⟨rfl,rfl⟩ | ⟨hy,e⟩
   .cases ha.symm.trans c;exact ⟨val,hc',hrep.later la⟩
   .exact let ⟨v',q1,q2⟩:=E.cellv y d' b e k c; ⟨v',q1.sameBut hsb fun z=>hy (fV (E.apart _ _ b c (z▸ha))),q2.later la⟩
theorem g0 {v:String} {pos:Pos} {val:Value} {d:D} (hw:Str.o v∈x.wr) (hr:∀ h l,P.p h l->Rep h l val d):Sim x P (fun _ _=>MP.tt) (assign (.Name (Str.o v) pos) x.env val) (aQ v d):=
 fun ρ σ l s r st' e hs hp=>wpAny_assign_Name (su hw hr ρ σ l s r st' e hs hp)
end
noncomputable def AM.fail {β:Type}:AM β:=fun _=>none
noncomputable def sG:Option O->Option (List D)
 | some (.list ds)=>some ds
 | some (.froz (.list ps))=>some (ps.map .py)
 | _=>none
noncomputable def vb:Option O->Option PyData
 | some (.list ds)=>(dk ds).map .list
 | some (.froz p)=>some p
 | _=>none
noncomputable def viewL (σ:List O):D->Option (List D)
 | .py (.list ps)=>some (ps.map .py)
 | .obj n=>sG σ[n]?
 | _=>none
noncomputable def viewP (σ:List O):D->Option PyData
 | .py p=>some p
 | .obj n=>vb σ[n]?
 | _=>none
noncomputable def oj:D->Option (List D)
 | .py (.tuple ps)=>some (ps.map .py)
 | .tup ds=>some ds
 | _=>none
theorem Ae {o:Option O} {ds:List D} (e:sG o=some ds):o=some (.list ds)\/∃ ps,o=some (.froz (.list ps))/\ps.map .py=ds:=by
 cases o with
 | none=>cases e
 | some o=>cases o with
  | list ds=>cases e; exact .inl rfl
  | froz p=>cases p with
   | list ps=>cases e; exact .inr ⟨ps,rfl,rfl⟩
   | _=>cases e
  | _=>cases e
theorem nP {o:Option O} {p:PyData} (e:vb o=some p):(∃ ds ps,o=some (.list ds)/\dk ds=some ps/\p=.list ps)\/o=some (.froz p):=by
 match o,e with
 | some (.list ds),e=>obtain ⟨ps,e1,e2⟩:=Option.map_eq_some_iff.mp e; exact .inl ⟨ds,ps,rfl,e1,e2.symm⟩
 | some (.froz _),e=>cases e; exact .inr rfl
theorem gf {c:Prop} [Decidable c] {α:Type} {a:Option α} {b:α} (h:(if c then a else none)=some b):c/\a=some b:=by
 by_cases hc:c
 .rw [if_pos hc] at h; exact ⟨hc,h⟩
 .rw [if_neg hc] at h; cases h
theorem bb {c:Prop} [Decidable c] {α:Type} {a b:α} (h:(if c then some a else none)=some b):c/\a=b:=(gf h).imp_right Option.some.inj
theorem yb {c:Prop} [Decidable c] {α:Type} {a b:α} (h:(if c then none else some a)=some b):¬ c/\a=b:=by
 by_cases hc:c
 .rw [if_pos hc] at h; cases h
 .rw [if_neg hc] at h; exact ⟨hc,Option.some.inj h⟩
noncomputable def D.int?:D->Option Int
 | .py (.int a)=>some a
 | _=>none
noncomputable def D.str?:D->Option Str
 | .py (.str a)=>some a
 | _=>none
noncomputable def oV {α β:Type} (f:α->Option β) (a b:α):Option (β×β):=(f a).bind fun p=>(f b).map fun q=>(p,q)
theorem eK {α β:Type} {f:α->Option β} {a b:α} {q:β×β} (e:oV f a b=some q):f a=some q.1/\f b=some q.2:=by
 obtain ⟨p,e1,e2⟩:=Option.bind_eq_some_iff.mp e;obtain ⟨r,e3,rfl⟩:=Option.map_eq_some_iff.mp e2;exact ⟨e1,e3⟩
theorem Rep.int? {h:Heap} {l:Lay} {v:Value} {d:D} {a:Int} (r:Rep h l v d) (e:d.int?=some a):∃ t,v=.int a t:=by
 cases r with
 | py q=>cases q with
  | int i t=>cases e; exact ⟨t,rfl⟩
  | _=>cases e
 | _=>cases e
theorem Rep.str? {h:Heap} {l:Lay} {v:Value} {d:D} {a:Str} (r:Rep h l v d) (e:d.str?=some a):∃ t,v=.str a t:=by
 cases r with
 | py q=>cases q with
  | str y t=>cases e; exact ⟨t,rfl⟩
  | _=>cases e
 | _=>cases e
theorem Rp.isL {h:Heap} {F:Addr->Prop} {v:Value} {xs:List PyData} (r:Rp h F v (.list xs)):∃ a vs,v=.ref a/\h.IsList a vs/\bA h F vs.toList xs:=
 let ⟨a,vs,_,e,_,o,r⟩:=r.list_inv; ⟨a,vs,e,⟨_,o,rfl,_,rfl⟩,r⟩
theorem Inv.at {c:Cx} {σ:List O} {l:Lay} {h:Heap} (i:Inv c σ l h) {n:Nat} {o:O} {p:Addr×Addr} (h1:σ[n]?=some o) (h2:l.mu[n]?=some p):kx c h l p o:=i.objs n o p h1 h2
theorem Inv.viewL {c:Cx} {σ:List O} {l:Lay} {h:Heap} (i:Inv c σ l h) {v:Value} {d:D} {ds:List D} (r:Rep h l v d) (e:viewL σ d=some ds):∃ a vs,v=.ref a/\h.IsList a vs/\au h l vs.toList ds:=by
 cases r with
 | py q=>
  rename_i p;cases p with
  | list ps=>cases e; obtain ⟨a,vs,rfl,hl,hr⟩:=q.isL; exact ⟨a,vs,rfl,hl,hr.rep⟩
  | _=>cases e
 | obj hp=>
  rcases Ae e with e' | ⟨ps,e',rfl⟩
  .obtain ⟨vs,hl,hr⟩:=i.at e' hp;exact ⟨_,vs,rfl,hl.isList,hr⟩
  .obtain ⟨a,vs,e2,hl,hr⟩:=(i.at e' hp).2.isL;exact ⟨a,vs,e2,hl,hr.rep⟩
 | _=>cases e
theorem Inv.viewP {c:Cx} {σ:List O} {l:Lay} {h:Heap} (i:Inv c σ l h) {v:Value} {d:D} {p:PyData} (r:Rep h l v d) (e:viewP σ d=some p):∃ as,Reads h v p as:=by
 cases r with
 | py q=>cases e; exact q.reads
 | obj hp=>
  rcases nP e with ⟨ds,ps,e',e1,rfl⟩ | e'
  .obtain ⟨vs,hpl,hr⟩:=i.at e' hp;obtain ⟨o,ho,hc,n,hd⟩:=hpl.isList;obtain ⟨as,ra⟩:=(hr.rp e1).reads;exact ⟨_,.list ho hc hd ra⟩
  .exact (i.at e' hp).2.reads
 | _=>cases e
theorem yK {h:Heap} {l:Lay} {v:Value} {d:D} {ds:List D} (r:Rep h l v d) (e:oj d=some ds):∃ a vs,v=.ref a/\l.F a/\IsTup h a vs/\au h l vs.toList ds:=by
 cases r with
 | py q=>cases q with
  | tuple f o c d r=>cases e; exact ⟨_,_,rfl,f,⟨_,o,c,_,d⟩,r.rep⟩
  | _=>cases e
 | tup f o c d r=>cases e; exact ⟨_,_,rfl,f,⟨_,o,c,_,d⟩,r⟩
 | _=>cases e
theorem zg {h:Heap} {l:Lay} {v:Value} {d:D} {ds:List D} (r:Rep h l v d) (e:oj d=some ds):∃ a vs,v=.ref a/\IsTup h a vs/\au h l vs.toList ds:=
 let ⟨a,vs,e,_,h,r⟩:=yK r e; ⟨a,vs,e,h,r⟩
section
variable {x:Ctx} {P:MP}
theorem Sim.fail {α β:Type} {R:α->β->MP} {t:Sem α}:Sim x P R t AM.fail:=fun _ _ _ _ _ _ e=>nomatch e
theorem Dr {i:Int} {k:Nat} {pos:Pos}:Sim x P MP.rep (eval (.Constant (.int i) k pos) x.env) (pure (.py (.int i))):=by
 intro ρ σ l s r st' e hs hp;cases (show some (Except.ok _,_)=some (r,st') from e);exact wpAny_Constant_int ⟨_,l,rfl,hs.toks _,.refl ..,.py (.int _ _)⟩
theorem Ei {y:Str} {k:Nat} {pos:Pos}:Sim x P MP.rep (eval (.Constant (.str y) k pos) x.env) (pure (.py (.str y))):=by
 intro ρ σ l s r st' e hs hp;cases (show some (Except.ok _,_)=some (r,st') from e);exact wpAny_Constant_str ⟨_,l,rfl,hs.toks _,.refl ..,.py (.str _ _)⟩
theorem Bf {b:Bool} {k:Nat} {pos:Pos}:Sim x P MP.rep (eval (.Constant (.bool b) k pos) x.env) (pure (.py (.bool b))):=by
 intro ρ σ l s r st' e hs hp;cases (show some (Except.ok _,_)=some (r,st') from e);exact wpAny_Constant_bool ⟨_,l,rfl,hs,.refl ..,.py (.bool _)⟩
theorem AX {k:Nat} {pos:Pos}:Sim x P MP.rep (eval (.Constant .none k pos) x.env) (pure (.py .none)):=by
 intro ρ σ l s r st' e hs hp;cases (show some (Except.ok _,_)=some (r,st') from e);exact wpAny_Constant_none ⟨_,l,rfl,hs,.refl ..,.py .none⟩
theorem Sim.operate {β:Type} {vs:List Value} {m:Sem Value} {R:Value->β->MP} {f:AM β} (h:Sim x P R m f):Sim x P R (operate vs m) f:=
 fun ρ σ l s r st' e hs hp=>wpAny_operate' (h ρ σ l s r st' e hs hp)
noncomputable def rI (op:Operator) (a b:Int):Option Int:=match op with
 | .Add=>some (a+b)
 | .Sub=>some (a - b)
 | .Mod=>if b=0 then none else some (a.fmod b)
 | .FloorDiv=>if b=0\/18446744073709551616<=b.natAbs then none else some (a.fdiv b)
 | .Pow=>if (0<=b/\b<=64)/\a.natAbs < 2 ^ 64 then some (a ^ b.toNat) else none
 | .BitAnd=>some (Builtin.bitAnd a b)
 | .BitOr=>some (Builtin.bitOr a b)
 | .BitXor=>some (Builtin.bitXor a b)
 | _=>none
noncomputable def ar:Nat:=1000000
theorem bD {n:Nat} (h:n<=ar):n<=sizeLine:=Nat.le_trans h (by decide)
noncomputable def Gi (op:Operator) (a b:Str):Option Str:=match op with
 | .Add=>if a.length+b.length<=ar then some (a++b) else none
 | _=>none
noncomputable def list?:PyData->Option (List PyData)
 | .list ps=>some ps
 | _=>none
noncomputable def GD (op:Operator) (a b:PyData):Option PyData:=match op with
 | .Add=>(oV list? a b).bind fun q=>if q.1.length+q.2.length<=ar then some (.list (q.1++q.2)) else none
 | _=>none
noncomputable def orO {α:Type} (a b:Option α):Option α:=match a with
 | some x=>some x
 | none=>b
theorem jm {α:Type} {a b:Option α} {c:α} (e:orO a b=some c):a=some c\/b=some c:=by
 cases a with
 | some _=>exact .inl e
 | none=>exact .inr e
noncomputable def He (op:Operator) (σ:List O) (d1 d2:D):Option PyData:=orO ((oV D.int? d1 d2).bind fun q=>(rI op q.1 q.2).map .int) (orO ((oV D.str? d1 d2).bind fun q=>(Gi op q.1 q.2).map .str) ((oV (viewP σ) d1 d2).bind fun q=>GD op q.1 q.2))
noncomputable def Dz (op:Operator) (d1 d2:D):AM D:=fun st=>(He op st.σ d1 d2).map fun p=>(.ok (.py p),st)
theorem bA.append {h:Heap} {F:Addr->Prop} {us:List Value} {es:List PyData} (q:bA h F us es):∀ {vs:List Value} {ds:List PyData},bA h F vs ds->bA h F (vs++us) (ds++es):=
 bA.ind (C:=fun vs ds=>bA h F (vs++us) (ds++es)) q fun r _ ih=>.cons r ih
theorem Inv.viewPL {c:Cx} {σ:List O} {l:Lay} {h:Heap} (i:Inv c σ l h) {v:Value} {d:D} {ps:List PyData} (r:Rep h l v d) (e:Mine.viewP σ d=some (.list ps)):∃ a vs,v=.ref a/\h.IsList a vs/\bA h l.F vs.toList ps:=by
 cases r with
 | py q=>cases e; exact q.isL
 | obj hp=>
  rcases nP e with ⟨ds,qs,e',e1,e2⟩ | e'
  .cases e2;obtain ⟨vs,hl,hr⟩:=i.at e' hp;exact ⟨_,vs,rfl,hl.isList,hr.rp e1⟩
  .exact (i.at e' hp).2.isL
 | _=>cases e
theorem bA.length {h:Heap} {F:Addr->Prop}:∀ {vs:List Value} {ds:List PyData},bA h F vs ds->vs.length=ds.length:=
 bA.ind (C:=fun vs ds=>vs.length=ds.length) rfl fun _ _ ih=>congrArg (·+1) ih
theorem St.newFrozen {ρ:aq} {σ:List O} {l:Lay} {s:Shared} (hs:St x ρ σ l s) {cls:String} {vs:List Value} {ps:List PyData} (tk:Nat) (hc:cls= "list" \/cls= "tuple") (hr:bA s.heap l.F vs ps):
  let h':=s.heap.push {cls:=.type cls,data:=.seq vs.toArray}
  let l':=l.freeze s.heap.objs.size
  St x ρ σ l' {s with heap:=h',toks:=tk}/\bt x.c x.S x.W l s.heap l' h'/\Rp h' l'.F (.ref s.heap.objs.size) (if cls= "list" then .list ps else .tuple ps):=by
 intro h' l';obtain ⟨h1,h2⟩:=hs.push {cls:=.type cls,data:=.seq vs.toArray} tk;have hf:cP x l h' s.heap.objs.size:=hs.free_new (h':=h') (bi _) ⟨_,Heap.get?_push_size _ rfl⟩;have r':bA h' l'.F vs ps:=(hr.mono h2.later.F h2.later.same).mono (fun a q=>.inl q) (fun _ _ _ e=>e);refine ⟨h1.freeze hf,h2.freeze (bi _),?_⟩;rcases hc with rfl | rfl
 .rw [if_pos rfl];exact .list (.inr rfl) (Heap.get?_push_size _ rfl) (by simpa using r')
 .rw [if_neg (by decide)];exact .tuple (.inr rfl) (Heap.get?_push_size _ rfl) rfl rfl (by simpa using r')
theorem v9 {prog:Program} {w:World} {A:Around} {E:Value->Shared->Prop} {s:Shared} {l b:Addr} {vs ws:Array Value} {Q:Value->Shared->Prop} (hl:s.heap.IsList l vs) (hb:s.heap.IsList b ws)
  (h:Q (.ref s.heap.objs.size) {s with heap:=s.heap.push {cls:=.type "list",data:=.seq (vs.toList++ws.toList).toArray}}) (hsz:vs.size+ws.size<=sizeLine):
  wpAny (model prog w) A (binaryOp .Add (.ref l) (.ref b)) Q E s:=by
 obtain ⟨⟨cls,dd,data,sl⟩,ho,hc,n,hd⟩:=id hl;obtain ⟨⟨cls2,dd2,data2,sl2⟩,ho2,hc2,n2,hd2⟩:=id hb;simp only at hc hd hc2 hd2;subst hc hd hc2 hd2;refine concat_meets ⟨_,ho,rfl⟩ ⟨_,ho2,rfl⟩ noFill_list_add seq_list_add PySem.F.slot_list_add PySem.F.entry_list_add (PySem.F.args_list_add_2 _ _) (list_addW l b vs ws n n2 dd dd2 sl sl2 hsz) ⟨ho,ho2,?_⟩;have e:(vs.toList++ws.toList).toArray=vs++ws:=by simp
 rw [e] at h;exact h
theorem En {prog:Program} {w:World} {A:Around} {E:Value->Shared->Prop} {s:Shared} {op:Operator} {a b c:Int} {t u:Tok} {Q:Value->Shared->Prop} (e:rI op a b=some c) (fin:Q (.int c s.toks) {s with toks:=s.toks+1}):
  wpAny (model prog w) A (binaryOp op (.int a t) (.int b u)) Q E s:=by
 cases op with
 | Add=>cases e; exact PyProof.Rows.add_int fin
 | Sub=>cases e; exact PyProof.Rows.sub_int fin
 | Mod=>
  obtain ⟨hb,rfl⟩:=yb (show (if b=0 then none else some (a.fmod b))=some c from e);exact PyProof.Rows.mod_int hb fin
 | FloorDiv=>
  obtain ⟨hb,rfl⟩:=yb (show (if b=0\/18446744073709551616<=b.natAbs then none else some (a.fdiv b))=some c from e);rw [not_or] at hb;have:=(Nat.log2_lt (fun q=>hb.1 (Int.natAbs_eq_zero.mp q)) (k:=64)).mpr (Nat.lt_of_not_le hb.2);exact PyProof.Rows.floordiv_int hb.1 fin (.inl (PyProof.noPylong_of_log2 (Nat.lt_of_lt_of_le this (by decide))))
 | Pow=>obtain ⟨q,rfl⟩:=bb e; exact PyProof.Rows.pow_int_small q.1.1 (Int.le_trans q.1.2 (by decide)) q.2 fin
 | BitAnd=>cases e; exact PyProof.Rows.and_int fin
 | BitOr=>cases e; exact PyProof.Rows.or_int fin
 | BitXor=>cases e; exact PyProof.Rows.xor_int fin
 | _=>cases e
theorem D6 {prog:Program} {w:World} {A:Around} {E:Value->Shared->Prop} {s:Shared} {op:Operator} {a b c:Str} {t u:Tok} {Q:Value->Shared->Prop} (e:Gi op a b=some c) (fin:∀ t' tk,Q (.str c t') {s with toks:=tk}):
  wpAny (model prog w) A (binaryOp op (.str a t) (.str b u)) Q E s:=by
 cases op with
 | Add=>obtain ⟨q,rfl⟩:=bb e; exact PyProof.Rows.add_str fin (bD q)
 | _=>cases e
theorem list?_some {p:PyData} {ps:List PyData} (e:list? p=some ps):p=.list ps:=by
 cases p with
 | list qs=>cases e; rfl
 | _=>cases e
theorem zy {op:Operator} {a b c:PyData} (e:GD op a b=some c):∃ ps qs,op=.Add/\a=.list ps/\b=.list qs/\ps.length+qs.length<=ar/\c=.list (ps++qs):=by
 cases op with
 | Add=>
  obtain ⟨q,e1,e2⟩:=Option.bind_eq_some_iff.mp e;obtain ⟨e3,e4⟩:=eK e1;obtain ⟨hz,rfl⟩:=bb e2;exact ⟨_,_,rfl,list?_some e3,list?_some e4,hz,rfl⟩
 | _=>cases e
theorem AU {op:Operator} {a b:Value} {da db:D} (ha:∀ h l,P.p h l->Rep h l a da) (hb:∀ h l,P.p h l->Rep h l b db):Sim x P MP.rep (binaryOp op a b) (Dz op da db):=by
 intro ρ σ l s r st' e hs hp;obtain ⟨p,hp2,e⟩:=Option.map_eq_some_iff.mp e;cases e;have ra:=ha _ _ hp;have rb:=hb _ _ hp;rcases jm hp2 with e | e
 .obtain ⟨q,h1,h2⟩:=Option.bind_eq_some_iff.mp e;obtain ⟨c,hc,rfl⟩:=Option.map_eq_some_iff.mp h2;obtain ⟨e1,e2⟩:=eK h1;obtain ⟨t,rfl⟩:=ra.int? e1;obtain ⟨u,rfl⟩:=rb.int? e2;exact En hc ⟨_,l,rfl,hs.toks _,.refl ..,.py (.int _ _)⟩
 rcases jm e with e | e
 .obtain ⟨q,h1,h2⟩:=Option.bind_eq_some_iff.mp e;obtain ⟨c,hc,rfl⟩:=Option.map_eq_some_iff.mp h2;obtain ⟨e1,e2⟩:=eK h1;obtain ⟨t,rfl⟩:=ra.str? e1;obtain ⟨u,rfl⟩:=rb.str? e2;exact D6 hc fun t' tk=>⟨_,l,rfl,hs.toks _,.refl ..,.py (.str _ _)⟩
 .obtain ⟨q,h1,h2⟩:=Option.bind_eq_some_iff.mp e;obtain ⟨e1,e2⟩:=eK h1;obtain ⟨ps,qs,rfl,h5,h6,hz,rfl⟩:=zy h2;obtain ⟨a1,vs,rfl,hl1,r1⟩:=hs.inv.viewPL ra (h5▸e1);obtain ⟨a2,ws,rfl,hl2,r2⟩:=hs.inv.viewPL rb (h6▸e2);obtain ⟨k1,k2,k3⟩:=hs.newFrozen s.toks (.inl rfl) (bA.append r2 r1);exact v9 hl1 hl2 ⟨_,_,rfl,k1,k2,.py k3⟩ (by rw [← Array.length_toList,← Array.length_toList,r1.length,r2.length]; exact bD hz)
theorem zI {l r:Expr} {op:Operator} {pos:Pos} {f g:AM D} (h1:Sim x P MP.rep (eval l x.env) f) (h2:∀ P,Sim x P MP.rep (eval r x.env) g):
  Sim x P MP.rep (eval (.BinOp l op r pos) x.env) (do let a ← f; let b ← g; Dz op a b):=by
 refine Sim.of_eq (t':=eval l x.env>>=fun a=>holding [a] (eval r x.env)>>=fun b=>standAt pos>>=fun _=>PySem.operate [a,b] (binaryOp op a b)) rfl ?_;refine h1.bind fun a da=>((h2 _).holding).bind fun b db=>Sim.at (Sim.operate (AU (fun h l q=>q.1.2) fun h l q=>q.2))
end
noncomputable def MP.isb (v:Value) (b:Bool):MP:=.fact (v=.bool b)
noncomputable def okP (p:PyData):Bool:=PySem.SeqAt.shaped p
noncomputable def D.bool?:D->Option Bool
 | .py (.bool b)=>some b
 | _=>none
noncomputable def D.none?:D->Bool
 | .py .none=>true
 | _=>false
noncomputable def D.obj?:D->Option Nat
 | .obj n=>some n
 | _=>none
noncomputable def isNone:D->Option Bool
 | .val _=>none
 | d=>some d.none?
noncomputable def isA (d1 d2:D):Option Bool:=orO ((oV D.bool? d1 d2).map fun q=>q.1==q.2) (if d2.none?=true then isNone d1 else (d1.str?.bind fun _=>d2.obj?).map fun _=>false)
noncomputable def ic:D->Option KK
 | .py (.int n)=>some (.i n)
 | .py (.str x)=>some (.s x)
 | _=>none
theorem jY {h:Heap} {l:Lay} {v:Value} {d:D} {k:KK} (r:Rep h l v d) (e:ic d=some k):sQ k v=true/\v.scannable=true:=by
 cases r with
 | py q=>
  cases q with
  | int _ _=>cases e; simp [sQ,Value.isInt,Value.scannable]
  | str _ _=>cases e; simp [sQ,Value.isStrOf,Value.scannable]
  | _=>cases e
 | obj _=>cases e
 | val _=>cases e
 | tup _ _ _ _ _=>cases e
noncomputable def inS (ps:List PyData) (w:List PyData->PyData) (p:PyData):Option Bool:=if okP p&&okP (w ps) then some (ps.any fun y=>PyData.eqv y p) else none
noncomputable def r8:Option O->Option (KK->Bool)
 | some (.dict _ kvs)=>some fun k=>kvs.any fun kv=>decide (kv.1=k)
 | some (.set ks)=>some fun k=>decide (k∈ks)
 | _=>none
noncomputable def Gp (z y:Str):Bool:=!(Builtin.Str.occurrences y z 0 y.length 1).isEmpty
noncomputable def GR:PyData->Option (List PyData)
 | .tuple ps=>some ps
 | _=>none
noncomputable def inA (σ:List O) (d c:D):Option Bool:=orO (c.str?.bind fun y=>d.str?.map fun z=>Gp z y) (orO ((c.obj?.bind fun n=>r8 σ[n]?).bind fun f=>(ic d).map f)
 ((oV (viewP σ) d c).bind fun q=>orO ((list? q.2).bind fun ps=>inS ps .list q.1) ((GR q.2).bind fun ps=>inS ps .tuple q.1)))
noncomputable def Fh (op:CmpOp) (a b:Int):Option Bool:=match op with
 | .Lt=>some (decide (a < b))
 | .LtE=>some (decide (a<=b))
 | .Gt=>some (decide (b < a))
 | .GtE=>some (decide (b<=a))
 | _=>none
noncomputable def eqA (σ:List O) (d1 d2:D):Option Bool:=(oV (viewP σ) d1 d2).bind fun q=>if okP q.1&&okP q.2 then some (PyData.eqv q.1 q.2) else none
noncomputable def F6 (op:CmpOp) (σ:List O) (d1 d2:D):Option Bool:=match op with
 | .Is=>isA d1 d2
 | .IsNot=>(isA d1 d2).map (!·)
 | .Eq=>eqA σ d1 d2
 | .NotEq=>(eqA σ d1 d2).map (!·)
 | .In=>inA σ d1 d2
 | .NotIn=>(inA σ d1 d2).map (!·)
 | op=>(oV D.int? d1 d2).bind fun q=>Fh op q.1 q.2
noncomputable def eA {β:Type} (f:List O->Option β):AM β:=fun st=>(f st.σ).map fun b=>(.ok b,st)
noncomputable def Ak (op:CmpOp) (d1 d2:D):AM Bool:=eA fun σ=>F6 op σ d1 d2
theorem D2:∀ a b:Bool,(Value.bool a==Value.bool b)=(a==b):=by decide
theorem Rep.bool? {h:Heap} {l:Lay} {v:Value} {d:D} {a:Bool} (r:Rep h l v d) (e:d.bool?=some a):v=.bool a:=by
 cases r with
 | py q=>cases q with
  | bool b=>cases e; rfl
  | _=>cases e
 | _=>cases e
theorem dM {d:D} {n:Nat} (e:d.obj?=some n):d=.obj n:=by
 cases d with
 | obj m=>cases e; rfl
 | _=>cases e
theorem Rep.none? {h:Heap} {l:Lay} {v:Value} {d:D} (r:Rep h l v d) (e:d.none?=true):v=.none:=by
 cases r with
 | py q=>cases q with
  | none=>rfl
  | _=>cases e
 | _=>cases e
theorem zf {h:Heap} {l:Lay} {v:Value} {d:D} {b:Bool} (r:Rep h l v d) (e:isNone d=some b):plainIs v .none=true/\(v==.none)=b:=by
 cases r with
 | py q=>cases q <;> (cases e; exact ⟨rfl,rfl⟩)
 | val _=>cases e
 | _=>cases e; exact ⟨rfl,rfl⟩
theorem Ap {h:Heap} {l:Lay} {v1 v2:Value} {d1 d2:D} {b:Bool} (r1:Rep h l v1 d1) (r2:Rep h l v2 d2) (e:isA d1 d2=some b):plainIs v1 v2=true/\(v1==v2)=b:=by
 rcases jm e with e | e
 .obtain ⟨q,hb,rfl⟩:=Option.map_eq_some_iff.mp e;obtain ⟨e1,e2⟩:=eK hb;rw [r1.bool? e1,r2.bool? e2,D2];exact ⟨rfl,rfl⟩
 .by_cases h2:d2.none?=true
  .rw [if_pos h2] at e;rw [r2.none? h2];exact zf r1 e
  .rw [if_neg h2] at e;obtain ⟨n,h3,rfl⟩:=Option.map_eq_some_iff.mp e;obtain ⟨y,h4,h5⟩:=Option.bind_eq_some_iff.mp h3;obtain ⟨t,rfl⟩:=r1.str? h4;obtain rfl:=dM h5;obtain ⟨p,rfl,_⟩:=r2.obj_inv;exact ⟨rfl,rfl⟩
theorem fO.keys {h:Heap} {l:Lay} {vs:List (KK×Value)} {ds:List (KK×D)} (r:fO h l vs ds) (k:KK):(valueAt vs k).isSome=ds.any fun kv=>decide (kv.1=k):=by
 induction r with
 | nil=>rfl
 | @cons k' v d vs ds r rs ih=>
  simp only [valueAt,Option.isSome_map] at ih ⊢;simp only [List.find?_cons,List.any_cons];by_cases hk:k'=k
  .simp [hk]
  .simp [hk]; simpa using ih
section
variable {x:Ctx} {P:MP}
theorem Ctx.room65 (x:Ctx):x.A.units+65 < cLine:=by
 exact Nat.lt_of_lt_of_le (Nat.add_lt_add_right (Nat.lt_of_le_of_lt (Nat.le_add_right _ _) x.huni) 65) (by decide)
theorem Inv.notSys {c:Cx} {σ:List O} {l:Lay} {h:Heap} (i:Inv c σ l h) {n:Nat} {p:Addr×Addr} (hp:l.mu[n]?=some p):(p.1==sysModules)=false:=by
 have h1:=i.mnew p.1 ⟨n,p,hp,.inl rfl⟩;have h2:=c.big;have:p.1≠sysModules:=by intro e; rw [e] at h1; obtain ⟨_,q⟩:=h2; exact aP h1 q
 simpa using this
theorem uR {ps:List PyData} {w:List PyData->PyData} {p:PyData} {b:Bool} (e:inS ps w p=some b):okP p=true/\okP (w ps)=true/\(ps.any fun y=>PyData.eqv y p)=b:=by
 obtain ⟨h1,h2⟩:=bb e;obtain ⟨o1,o2⟩:=Bool.and_eq_true_iff.mp h1;exact ⟨o1,o2,h2⟩
structure Tst (x:Ctx) (o n:CmpOp) (v w:Value) (b:Bool) (s:Shared):Prop where
 o:∀ {Q E:Value->Shared->Prop},(∀ t,Q (.bool b) {s with toks:=t})->wpAny x.c.M x.A (compareOp o v w) Q E s
 n:∀ {Q E:Value->Shared->Prop},(∀ t,Q (.bool (!b)) {s with toks:=t})->wpAny x.c.M x.A (compareOp n v w) Q E s
theorem zD {p:PyData} {ps:List PyData} (e:GR p=some ps):p=.tuple ps:=by
 cases p with
 | tuple qs=>cases e; rfl
 | _=>cases e
theorem BZ {σ:List O} {l:Lay} {s:Shared} {v:Value} {d:D} {k:KK} {f:KK->Bool} {n:Nat} {p:Addr×Addr} (i:Inv x.c σ l s.heap) (rv:Rep s.heap l v d) (hm:l.mu[n]?=some p) (ho:r8 σ[n]?=some f) (hk:ic d=some k):Tst x .In .NotIn v (.ref p.1) (f k) s:=by
 obtain ⟨hkey,hsc⟩:=jY rv hk;cases hn:σ[n]? with
 | none=>rw [hn] at ho; cases ho
 | some ob=>
  rw [hn] at ho;cases ob with
  | dict ep kvs=>
   cases ho;obtain ⟨vs,hd,hv⟩:=i.at hn hm;have e:=hv.keys k;exact ⟨fun hQ=>wpAny_in_of (knd:=mix x.c.prog x.c.w) hkey (i.notSys hm) hd.dictOf.mapOf (by rw [e]; exact hQ _),fun hQ=>wpAny_notIn_of (knd:=mix x.c.prog x.c.w) hkey (i.notSys hm) hd.dictOf.mapOf (by rw [e]; exact hQ _)⟩
  | set ks=>
   cases ho;obtain ⟨S,hS,_,hv⟩:=i.at hn hm;exact ⟨fun hQ=>wpAny_inSet_of (knd:=mix x.c.prog x.c.w) hkey hsc hS (by rw [hv]; exact hQ _),fun hQ=>wpAny_notInSet_of (knd:=mix x.c.prog x.c.w) hkey hsc hS (by rw [hv]; exact hQ _)⟩
  | _=>cases ho
theorem Ey {σ:List O} {l:Lay} {s:Shared} {v w:Value} {d e:D} {b:Bool} (i:Inv x.c σ l s.heap) (rv:Rep s.heap l v d) (rw':Rep s.heap l w e) (he:inA σ d e=some b):Tst x .In .NotIn v w b s:=by
 rcases jm he with he | he
 .obtain ⟨y,e2,he⟩:=Option.bind_eq_some_iff.mp he;obtain ⟨z,e1,rfl⟩:=Option.map_eq_some_iff.mp he;obtain ⟨t,rfl⟩:=rv.str? e1;obtain ⟨u,rfl⟩:=rw'.str? e2;exact ⟨fun hQ=>PyProof.Rows.in_str (hQ s.toks),fun hQ=>PyProof.Rows.notIn_str (hQ s.toks)⟩
 rcases jm he with he | he
 .obtain ⟨f,h1,h2⟩:=Option.bind_eq_some_iff.mp he;obtain ⟨n,h3,h4⟩:=Option.bind_eq_some_iff.mp h1;obtain ⟨k,hk,rfl⟩:=Option.map_eq_some_iff.mp h2;obtain rfl:=dM h3;obtain ⟨p,rfl,hm⟩:=rw'.obj_inv;exact BZ i rv hm h4 hk
 .obtain ⟨⟨p,q⟩,hb,h1⟩:=Option.bind_eq_some_iff.mp he;obtain ⟨e1,e2⟩:=eK hb;obtain ⟨as,r1⟩:=i.viewP rv e1;obtain ⟨bs,r2⟩:=i.viewP rw' e2;rcases jm h1 with h1 | h1
  .obtain ⟨ps,h2,h3⟩:=Option.bind_eq_some_iff.mp h1;obtain rfl:=list?_some h2;obtain ⟨o1,o2,rfl⟩:=uR h3;exact ⟨fun hQ=>SeqAt.in_list_reads r2 r1 (show PyData.canLayAll0 ps=true from SeqAt.canLay_of_shaped o2) (SeqAt.canLay_of_shaped o1) (room_in_shaped o1 x.room65) (hQ s.toks),fun hQ=>SeqAt.notIn_list_reads r2 r1 (show PyData.canLayAll0 ps=true from SeqAt.canLay_of_shaped o2) (SeqAt.canLay_of_shaped o1) (room_in_shaped o1 x.room65) (hQ s.toks)⟩
  .obtain ⟨ps,h2,h3⟩:=Option.bind_eq_some_iff.mp h1;obtain rfl:=zD h2;obtain ⟨o1,o2,rfl⟩:=uR h3;exact ⟨fun hQ=>SeqAt.in_tuple_reads r2 r1 (SeqAt.canLay_of_shaped o2) (SeqAt.canLay_of_shaped o1) (room_in_shaped o1 x.room65) (hQ s.toks),fun hQ=>SeqAt.notIn_tuple_reads r2 r1 (SeqAt.canLay_of_shaped o2) (SeqAt.canLay_of_shaped o1) (room_in_shaped o1 x.room65) (hQ s.toks)⟩
theorem CR {σ:List O} {l:Lay} {s:Shared} {v w:Value} {d e:D} {b:Bool} (i:Inv x.c σ l s.heap) (rv:Rep s.heap l v d) (rw':Rep s.heap l w e) (he:eqA σ d e=some b):Tst x .Eq .NotEq v w b s:=by
 obtain ⟨q,hb,h1⟩:=Option.bind_eq_some_iff.mp he;obtain ⟨h2,rfl⟩:=bb h1;obtain ⟨e1,e2⟩:=eK hb;obtain ⟨o1,o2⟩:=Bool.and_eq_true_iff.mp h2;obtain ⟨as,r1⟩:=i.viewP rv e1;obtain ⟨bs,r2⟩:=i.viewP rw' e2;have:=x.room65;exact ⟨fun hQ=>eq_dataH r1 r2 o1 o2 (by omega) (hQ _),fun hQ=>ne_dataH r1 r2 o1 o2 (by omega) (hQ _)⟩
theorem Dq {prog:Program} {w:World} {A:Around} {E:Value->Shared->Prop} {s:Shared} {op:CmpOp} {a b:Int} {c:Bool} {t u:Tok} {Q:Value->Shared->Prop} (e:Fh op a b=some c) (fin:Q (.bool c) s):wpAny (model prog w) A (compareOp op (.int a t) (.int b u)) Q E s:=by
 cases op with
 | Lt=>cases e; exact PyProof.Rows.lt_int fin
 | LtE=>cases e; exact PyProof.Rows.le_int fin
 | Gt=>cases e; exact PyProof.Rows.gt_int fin
 | GtE=>cases e; exact PyProof.Rows.ge_int fin
 | _=>cases e
theorem FV {σ:List O} {l:Lay} {s:Shared} {op:CmpOp} {v w:Value} {d e:D} {b:Bool} {Q:Value->Shared->Prop} {E:Value->Shared->Prop} (i:Inv x.c σ l s.heap) (rv:Rep s.heap l v d) (rw':Rep s.heap l w e) (he:F6 op σ d e=some b)
  (hQ:∀ t,Q (.bool b) {s with toks:=t}):wpAny x.c.M x.A (compareOp op v w) Q E s:=by
 have hints:(oV D.int? d e).bind (fun q=>Fh op q.1 q.2)=some b->wpAny x.c.M x.A (compareOp op v w) Q E s:=fun h=>by
  obtain ⟨q,h1,h2⟩:=Option.bind_eq_some_iff.mp h;obtain ⟨h3,h4⟩:=eK h1;obtain ⟨t,rfl⟩:=rv.int? h3;obtain ⟨u,rfl⟩:=rw'.int? h4;exact Dq h2 (hQ s.toks)
 cases op with
 | Is=>obtain ⟨h1,h2⟩:=Ap rv rw' he; exact wpAny_is_plain h1 (by rw [h2]; exact hQ _)
 | IsNot=>
  obtain ⟨t,ht,rfl⟩:=Option.map_eq_some_iff.mp he;obtain ⟨h1,h2⟩:=Ap rv rw' ht;exact wpAny_isNot_plain h1 (by rw [h2]; exact hQ _)
 | Eq=>exact (CR i rv rw' he).o hQ
 | NotEq=>
  obtain ⟨t,ht,rfl⟩:=Option.map_eq_some_iff.mp he;exact (CR i rv rw' ht).n hQ
 | In=>exact (Ey i rv rw' he).o hQ
 | NotIn=>
  obtain ⟨t,ht,rfl⟩:=Option.map_eq_some_iff.mp he;exact (Ey i rv rw' ht).n hQ
 | _=>exact hints he
theorem xO {op:CmpOp} {a b:Value} {da db:D} (ha:∀ h l,P.p h l->Rep h l a da) (hb:∀ h l,P.p h l->Rep h l b db):Sim x P MP.isb (compareOp op a b) (Ak op da db):=by
 intro ρ σ l s r st' e hs hp;obtain ⟨t,ht,e⟩:=Option.map_eq_some_iff.mp e;cases e;exact FV hs.inv (ha _ _ hp) (hb _ _ hp) ht fun tk=>⟨t,l,rfl,hs.toks _,.refl ..,rfl⟩
end
noncomputable def m8 (σ:List O) (d:D):Option Bool:=match d with
 | .py .none=>some false
 | .py (.bool b)=>some b
 | .py (.int i)=>some (i !=0)
 | .py (.str x)=>if x.length<=ar then some ((x.length:Int) !=0) else none
 | .py (.tuple ps)=>if ps.length<=ar then some (!ps.isEmpty) else none
 | d=>(viewL σ d).bind fun ds=>if ds.length<=ar then some (!ds.isEmpty) else none
noncomputable def jP (d:D):AM Bool:=eA fun σ=>m8 σ d
section
variable {x:Ctx} {P:MP}
theorem uh {α β:Type} {vs:Array α} {ds:List β} (z:vs.size=ds.length):vs.isEmpty=ds.isEmpty:=by
 rw [Bool.eq_iff_iff,Array.isEmpty_iff_size_eq_zero,List.isEmpty_iff_length_eq_zero,z]
theorem zO {σ:List O} {l:Lay} {s:Shared} {v:Value} {d:D} {t:Bool} {Q:Bool->Shared->Prop} {E:Value->Shared->Prop} (i:Inv x.c σ l s.heap) (rv:Rep s.heap l v d) (ht:m8 σ d=some t) (fin:∀ tk,Q t {s with toks:=tk}):wpAny x.c.M x.A (truthy v) Q E s:=by
 have hsm:ar=1000000:=rfl
 have lists:∀ ds,viewL σ d=some ds->(if ds.length<=ar then some (!ds.isEmpty) else none)=some t->wpAny x.c.M x.A (truthy v) Q E s:=by
  intro ds e1 e2;obtain ⟨hz,rfl⟩:=bb e2;obtain ⟨a,vs,rfl,hl,hr⟩:=i.viewL rv e1;have z:=hr.length;rw [Array.length_toList] at z;refine wpAny_truthy_list hl (by omega) ?_;rw [uh z];exact fin _
 cases rv with
 | py q=>cases q with
  | none=>cases ht; exact PyProof.Rows.truthy_none (fin s.toks)
  | bool b=>cases ht; exact wpAny_truthy_bool (fin s.toks)
  | int i t=>cases ht; exact PyProof.Rows.truthy_int (fin s.toks)
  | str y tk=>obtain ⟨hz,rfl⟩:=bb ht; exact PySem.P.truthy_str (by omega) (fin _)
  | list f o r=>exact lists _ rfl ht
  | tuple f o c dd r=>
   obtain ⟨hz,rfl⟩:=bb ht;have z:=r.length;rw [Array.length_toList] at z;refine PyProof.Rows.truthy_tuple ⟨_,o,c,_,dd⟩ (by omega) ?_;rw [uh z];exact fin _
 | obj hm=>obtain ⟨ds,e1,e2⟩:=Option.bind_eq_some_iff.mp ht; exact lists ds e1 e2
 | _=>cases ht
theorem jU {v:Value} {d:D} (hv:∀ h l,P.p h l->Rep h l v d):Sim x P MP.eq (truthy v) (jP d):=by
 intro ρ σ l s r st' e hs hp;obtain ⟨t,ht,e⟩:=Option.map_eq_some_iff.mp e;cases e;exact zO hs.inv (hv _ _ hp) ht fun tk=>⟨t,l,rfl,hs.toks _,.refl ..,rfl⟩
theorem Sim.fact {α β:Type} {R:α->β->MP} {t:Sem α} {f:AM β} {p:Prop} (h:p->Sim x P R t f):Sim x (P.and (MP.fact p)) R t f:=
 fun ρ σ l s r st' e hs hp=>h hp.2 ρ σ l s r st' e hs hp.1
theorem Sim.eqr {α β γ:Type} {R:α->β->MP} {a b:γ} {k:γ->Sem α} {g:γ->AM β} (h:∀ c,Sim x P R (k c) (g c)):Sim x (P.and (MP.eq a b)) R (k a) (g b):=
 Sim.fact fun e=>by subst e; exact h a
theorem Sim.bindEq {α β γ:Type} {R:α->β->MP} {t:Sem γ} {f:AM γ} {k:γ->Sem α} {g:γ->AM β} (h1:Sim x P MP.eq t f) (h2:∀ c,Sim x P R (k c) (g c)):Sim x P R (t>>=k) (f>>=g):=
 h1.bind fun _ _=>Sim.eqr h2
theorem Sim.ite {α β:Type} {R:α->β->MP} {t1 t2:Sem α} {f1 f2:AM β} {b:Bool} (h1:Sim x P R t1 f1) (h2:Sim x P R t2 f2):Sim x P R (if b=true then t1 else t2) (if b=true then f1 else f2):=by
 cases b
 .exact h2
 .exact h1
theorem vO {l r:Expr} {op:CmpOp} {pos:Pos} {f g:AM D} (h1:Sim x P MP.rep (eval l x.env) f) (h2:∀ P,Sim x P MP.rep (eval r x.env) g) (hm:behindInMarks op r=false):
  Sim x P MP.rep (eval (.Compare l [op] [r] pos) x.env) (do let a ← f; let b ← g; let t ← Ak op a b; pure (.py (.bool t))):=by
 refine Sim.of_eq (t':=eval l x.env>>=fun a=>compareChain pos a [op] [markedBehindIn op r (eval r x.env)]) rfl ?_;have e:markedBehindIn op r (eval r x.env)=eval r x.env:=by unfold markedBehindIn; rw [hm]
 rw [e];refine h1.bind fun a da=>?_;refine Sim.of_eq (t':=holding [a] (eval r x.env)>>=fun b=>standAt pos>>=fun _=>PySem.operate [a,b] (compareOp op a b)) rfl ?_;refine ((h2 _).holding).bind fun b db=>Sim.at (Sim.operate ?_);refine Sim.map (g:=fun t=>D.py (.bool t)) (xO (x:=x) (op:=op) (P:=(P.and (MP.rep a da)).and (MP.rep b db)) (fun h l q=>q.1.2) (fun h l q=>q.2)) ?_;intro a b h l q;have q':a=.bool b:=q;rw [q'];exact .py (.bool _)
theorem lT {l r:Expr} {op:CmpOp} {pos:Pos} {whole:Sem Value} {f g:AM D} (h1:Sim x P MP.rep (eval l x.env) f) (h2:∀ P,Sim x P MP.rep (eval r x.env) g) (hm:behindInMarks op r=false):
  Sim x P MP.eq (isTrue (.Compare l [op] [r] pos) x.env whole) (do let a ← f; let b ← g; Ak op a b):=by
 refine Sim.of_eq (t':=eval l x.env>>=fun a=>testChain pos a [op] [markedBehindIn op r (eval r x.env)]) rfl ?_;have e:markedBehindIn op r (eval r x.env)=eval r x.env:=by unfold markedBehindIn; rw [hm]
 rw [e];refine h1.bind fun a da=>?_;refine Sim.of_eq (t':=holding [a] (eval r x.env)>>=fun b=>standAt pos>>=fun _=>PySem.operate [a,b] (compareOp op a b)>>=fun c=>holding [c] (truthy c)) rfl ?_;refine ((h2 _).holding).bind fun b db=>Sim.at ?_;intro ρ σ l s rr st' e hs hp;have hc:=xO (x:=x) (op:=op) (P:=(P.and (MP.rep a da)).and (MP.rep b db)) (fun h l q=>q.1.2) (fun h l q=>q.2);refine wpAny_bind (wpAny_operate' (wpAny_mono (hc ρ σ l s rr st' e hs hp) (fun c s1 q=>?_) (fun ev s1 q=>?_)))
 .obtain ⟨b1,l1,rfl,q2,q3,q4⟩:=q;have q4':c=.bool b1:=q4;subst q4';exact wpAny_holding (wpAny_truthy_bool ⟨b1,l1,rfl,q2,q3,rfl⟩)
 .obtain ⟨X,l1,rfl,q2,q3,q4⟩:=q;exact ⟨X,l1,rfl,q2,q3,q4⟩
theorem m9 {e:Expr} {f:AM D} (h:Sim x P MP.rep (eval e x.env) f) (he:isTrue e x.env (eval e x.env)=(eval e x.env>>=fun v=>standAt e.pos>>=fun _=>holding [v] (truthy v))):
  Sim x P MP.eq (isTrue e x.env (eval e x.env)) (do let d ← f; jP d):=by
 rw [he];exact h.bind fun v d=>Sim.at (Sim.holding (jU (P:=P.and (MP.rep v d)) fun h l q=>q.2))
theorem qB {e:Expr} {pos:Pos} {whole:Sem Value} {f:AM Bool} (h:Sim x P MP.eq (isTrue e x.env (eval e x.env)) f):Sim x P MP.eq (isTrue (.UnaryOp .Not e pos) x.env whole) (do let b ← f; pure (!b)):=by
 refine Sim.of_eq (t':=isTrue e x.env (eval e x.env)>>=fun b=>pure (!b)) rfl ?_;exact h.bindEq fun c=>Sim.pure fun _ _ _=>rfl
theorem oX {op:BoolOp}:Sim x P MP.eq (allTrue op [] x.env) (pure (op==.And)):=Sim.of_eq (t':=pure (op==.And)) rfl (Sim.pure fun _ _ _=>rfl)
theorem o8 {e:Expr} {rest:List Expr} {f g:AM Bool} (h1:Sim x P MP.eq (isTrue e x.env (eval e x.env)) f) (h2:Sim x P MP.eq (allTrue .And rest x.env) g):
  Sim x P MP.eq (allTrue .And (e::rest) x.env) (do let b ← f; if b=true then g else pure false):=by
 refine Sim.of_eq (t':=isTrue e x.env (eval e x.env)>>=fun b=>match BoolOp.And,b with | .And,false=>pure false | .Or,true=>pure true | _,_=>allTrue .And rest x.env) rfl ?_;refine h1.bindEq fun c=>?_;cases c
 .exact Sim.pure fun _ _ _=>rfl
 .exact h2
theorem qX {e:Expr} {rest:List Expr} {f g:AM Bool} (h1:Sim x P MP.eq (isTrue e x.env (eval e x.env)) f) (h2:Sim x P MP.eq (allTrue .Or rest x.env) g):
  Sim x P MP.eq (allTrue .Or (e::rest) x.env) (do let b ← f; if b=true then pure true else g):=by
 refine Sim.of_eq (t':=isTrue e x.env (eval e x.env)>>=fun b=>match BoolOp.Or,b with | .And,false=>pure false | .Or,true=>pure true | _,_=>allTrue .Or rest x.env) rfl ?_;refine h1.bindEq fun c=>?_;cases c
 .exact h2
 .exact Sim.pure fun _ _ _=>rfl
theorem mE {op:BoolOp} {es:List Expr} {pos:Pos} {whole:Sem Value} {f:AM Bool} (h:Sim x P MP.eq (allTrue op es x.env) f):Sim x P MP.eq (isTrue (.BoolOp op es pos) x.env whole) f:=Sim.of_eq (t':=allTrue op es x.env) rfl h
theorem zY {test a b:Expr} {pos:Pos} {f:AM Bool} {g k:AM D} (h:Sim x P MP.eq (isTrue test x.env (eval test x.env)) f) (h1:Sim x P MP.rep (eval a x.env) g) (h2:Sim x P MP.rep (eval b x.env) k):
  Sim x P MP.rep (eval (.IfExp test a b pos) x.env) (do let t ← f; if t=true then g else k):=by
 refine Sim.of_eq (t':=isTrue test x.env (eval test x.env)>>=fun t=>if t=true then eval a x.env else eval b x.env) rfl ?_;exact h.bindEq fun c=>Sim.ite h1 h2
theorem Ar {a b:Expr} {pos:Pos} {f g:AM D} (h1:Sim x P MP.rep (eval a x.env) f) (h2:∀ P,Sim x P MP.rep (eval b x.env) g):
  Sim x P MP.rep (eval (.BoolOp .And [a,b] pos) x.env) (do let d ← f; let t ← jP d; if t=true then g else pure d):=by
 refine Sim.of_eq (t':=eval a x.env>>=fun v=>standAt pos>>=fun _=>holding [v] (truthy v)>>=fun t=>match BoolOp.And,t with | .And,false | .Or,true=>pure v | _,_=>boolOp pos .And [eval b x.env]) rfl ?_;refine h1.bind fun v d=>Sim.at ?_;refine (Sim.holding (jU (P:=P.and (MP.rep v d)) fun h l q=>q.2)).bindEq fun c=>?_;cases c
 .exact Sim.pure fun _ _ q=>q.2
 .exact h2 _
theorem Er {a b:Expr} {pos:Pos} {f g:AM D} (h1:Sim x P MP.rep (eval a x.env) f) (h2:∀ P,Sim x P MP.rep (eval b x.env) g):
  Sim x P MP.rep (eval (.BoolOp .Or [a,b] pos) x.env) (do let d ← f; let t ← jP d; if t=true then pure d else g):=by
 refine Sim.of_eq (t':=eval a x.env>>=fun v=>standAt pos>>=fun _=>holding [v] (truthy v)>>=fun t=>match BoolOp.Or,t with | .And,false | .Or,true=>pure v | _,_=>boolOp pos .Or [eval b x.env]) rfl ?_;refine h1.bind fun v d=>Sim.at ?_;refine (Sim.holding (jU (P:=P.and (MP.rep v d)) fun h l q=>q.2)).bindEq fun c=>?_;cases c
 .exact h2 _
 .exact Sim.pure fun _ _ q=>q.2
theorem Dy {e:Expr} {pos:Pos} {f:AM D} (h:Sim x P MP.rep (eval e x.env) f):Sim x P MP.rep (eval (.UnaryOp .Not e pos) x.env) (do let d ← f; let t ← jP d; pure (.py (.bool (!t)))):=by
 refine Sim.of_eq (t':=eval e x.env>>=fun v=>standAt pos>>=fun _=>holding [v] (unaryOp .Not v)) rfl ?_;refine h.bind fun v d=>Sim.at (Sim.holding ?_);refine Sim.of_eq (t':=holding [v] (truthy v>>=fun t=>pure (.bool (!t)))) rfl ?_;exact Sim.holding ((jU (P:=P.and (MP.rep v d)) fun h l q=>q.2).bindEq fun c=>Sim.pure fun _ _ _=>.py (.bool _))
theorem D1 {i:Int} {k:Nat} {p pos:Pos}:Sim x P MP.rep (eval (.UnaryOp .USub (.Constant (.int i) k p) pos) x.env) (pure (.py (.int (-i)))):=by
 intro ρ σ l s r st' e hs hp;cases (show some (Except.ok _,_)=some (r,st') from e);exact wpAny_UnaryOp (wpAny_Constant_int (PyProof.Rows.neg_int ⟨_,l,rfl,(hs.toks _).toks _,.refl ..,.py (.int _ _)⟩))
end
noncomputable def on {α:Type} (k:Int) (ds:List α):Option α:=if k.natAbs<=ar then (seqIndex? k ds.length).bind fun j=>ds[j]? else none
noncomputable def lr:Option O->Option (List (KK×D))
 | some (.dict _ kvs)=>some kvs
 | _=>none
noncomputable def nA (σ:List O) (d:D):Option (List D):=match oj d with
 | some ds=>some ds
 | none=>viewL σ d
noncomputable def uA (σ:List O) (d i:D):Option D:=match d.obj?.bind fun n=>lr σ[n]? with
 | some kvs=>(ic i).bind fun k=>(kvs.find? fun kv=>decide (kv.1=k)).map (·.2)
 | none=>i.int?.bind fun k=>match d.str? with
  | some y=>if k.natAbs<=ar then ((seqIndex? k y.length).bind fun j=>y.cps[j]?).map fun c=>.py (.str ⟨#[c]⟩) else none
  | none=>(nA σ d).bind (on k)
theorem nt {o:Option O} {kvs:List (KK×D)} (e:lr o=some kvs):∃ ep,o=some (.dict ep kvs):=by
 cases o with
 | none=>cases e
 | some o=>cases o with
  | dict ep ks=>cases e; exact ⟨ep,rfl⟩
  | _=>cases e
theorem xx {α:Type} {k:Int} {ds:List α} {b:α} (e:on k ds=some b):k.natAbs<=ar/\∃ j,seqIndex? k ds.length=some j/\ds[j]?=some b:=by
 unfold on at e;by_cases hz:k.natAbs<=ar
 .rw [if_pos hz] at e; exact ⟨hz,Option.bind_eq_some_iff.mp e⟩
 .rw [if_neg hz] at e; cases e
theorem fO.find {h:Heap} {l:Lay} {vs:List (KK×Value)} {ds:List (KK×D)} (r:fO h l vs ds) {k:KK} {d:D} (e:(ds.find? fun kv=>decide (kv.1=k)).map (·.2)=some d):∃ v,valueAt vs k=some v/\Rep h l v d:=by
 induction r with
 | nil=>cases e
 | @cons k' v d' vs ds r rs ih=>
  simp only [List.find?_cons] at e;by_cases hk:k'=k
  .simp [hk] at e;subst e;exact ⟨_,by simp [valueAt,hk],r⟩
  .simp only [hk,decide_false] at e;obtain ⟨v,e1,q⟩:=ih e;refine ⟨v,?_,q⟩;simp only [valueAt,List.find?_cons,hk,decide_false] at e1 ⊢;exact e1
section
variable {x:Ctx} {P:MP}
theorem qW {k:Int} {n j:Nat} (h:seqIndex? k n=some j):j < n/\(0<=k->j=k.toNat)/\(k < 0->-(n:Int)<=k/\j=(k+n).toNat):=by
 have h':(if (decide (0<=(if k < 0 then k+n else k))&&decide ((if k < 0 then k+n else k) < n))=true then some (if k < 0 then k+n else k).toNat else none)=some j:=h;by_cases hk:k < 0
 .simp only [hk,if_true,Bool.and_eq_true,decide_eq_true_eq] at h';by_cases q:0<=k+(n:Int)/\k+(n:Int) < n
  .rw [if_pos q] at h'; injection h' with h'
   exact ⟨h'▸(Int.toNat_lt q.1).mpr q.2,fun z=>absurd hk (Int.not_lt.mpr z),fun _=>⟨by omega,h'.symm⟩⟩
  .rw [if_neg q] at h'; cases h'
 .simp only [hk,if_false,Bool.and_eq_true,decide_eq_true_eq] at h';by_cases q:0<=k/\k < n
  .rw [if_pos q] at h'; injection h' with h'
   exact ⟨h'▸(Int.toNat_lt q.1).mpr q.2,fun _=>h'.symm,fun z=>absurd z hk⟩
  .rw [if_neg q] at h'; cases h'
theorem gE {k:Int} (h:k.natAbs<=ar):-(2 ^ 63)<=k/\k < 2 ^ 63:=
 have up:∀ i:Int,i.natAbs<=ar->i < 2 ^ 63:=fun i h=>Int.lt_of_le_of_lt (Int.le_trans Int.le_natAbs (Int.ofNat_le.mpr h)) (by decide)
 ⟨Int.le_of_lt (Int.neg_lt_of_neg_lt (up (-k) (by rw [Int.natAbs_neg]; exact h))),up k h⟩
theorem nk {prog:Program} {w:World} {A:Around} {E:Value->Shared->Prop} {s:Shared} {l:Addr} {items:Array Value} {k:Int} {t:Tok} {v:Value} {j:Nat} {Q:Value->Shared->Prop} (hl:s.heap.IsList l items)
  (hz:k.natAbs<=ar) (hj:seqIndex? k items.size=some j) (hx:items[j]?=some v) (h:Q v s):wpAny (model prog w) A (getItem (.ref l) (.int k t)) Q E s:=by
 obtain ⟨h1,h2,h3⟩:=qW hj;by_cases hk:k < 0
 .obtain ⟨h4,rfl⟩:=h3 hk;exact wpAny_getItem_list_neg hl hk h4 (gE hz).1 hx h
 .have e:=h2 (Int.not_lt.mp hk);subst e;exact wpAny_getItem_list hl (Int.not_lt.mp hk) (gE hz).2 hx h
theorem mM {σ:List O} {l:Lay} {s:Shared} {v:Value} {d:D} {ds:List D} (i:Inv x.c σ l s.heap) (r:Rep s.heap l v d) (e:nA σ d=some ds):∃ a vs,v=.ref a/\(IsTup s.heap a vs\/s.heap.IsList a vs)/\au s.heap l vs.toList ds/\vs.size=ds.length:=by
 unfold nA at e;have z:∀ {vs:Array Value},au s.heap l vs.toList ds->vs.size=ds.length:=fun h=>by rw [← Array.length_toList,h.length]
 cases h3:oj d with
 | some es=>
  rw [h3] at e;cases e;obtain ⟨a,vs,e,hl,hr⟩:=zg r h3;exact ⟨a,vs,e,.inl hl,hr,z hr⟩
 | none=>
  rw [h3] at e;obtain ⟨a,vs,e,hl,hr⟩:=i.viewL r e;exact ⟨a,vs,e,.inr hl,hr,z hr⟩
theorem Fv {σ:List O} {l:Lay} {s:Shared} {value slice:Expr} {o i:Value} {d e b:D} {Q E:Value->Shared->Prop} (inv:Inv x.c σ l s.heap) (ro:Rep s.heap l o d) (ri:Rep s.heap l i e) (hb:uA σ d e=some b)
  (hsl:subscripted slice false o i=PySem.operate [o,i] (getItem o i)) (fin:∀ v tk,Rep s.heap l v b->Q v {s with toks:=tk}):wpAny x.c.M x.A (subscriptTail value slice o i) Q E s:=by
 have hsm:ar=1000000:=rfl;unfold uA at hb;cases h1:d.obj?.bind fun n=>lr σ[n]? with
 | some kvs=>
  rw [h1] at hb;obtain ⟨n,hn,ho⟩:=Option.bind_eq_some_iff.mp h1;obtain ⟨k,hk,e1⟩:=Option.bind_eq_some_iff.mp hb;obtain ⟨ep,ho⟩:=nt ho;obtain rfl:=dM hn;obtain ⟨p,rfl,hp⟩:=ro.obj_inv;obtain ⟨vs,hd,hv⟩:=inv.at ho hp;obtain ⟨v,e2,q⟩:=hv.find e1;exact tail_any hd.dictOf.mapOf.typeIs PySem.slot_dict_getitem.lookup (wpAny_getItem_of (knd:=mix x.c.prog x.c.w) (jY ri hk).1 hd.dictOf.mapOf e2 (fin _ _ q)) hsl
 | none=>
  rw [h1] at hb;obtain ⟨k,hk,hb⟩:=Option.bind_eq_some_iff.mp hb;obtain ⟨t,rfl⟩:=ri.int? hk;cases h2:d.str? with
  | some y=>
   rw [h2] at hb;dsimp only at hb;by_cases hz:k.natAbs<=ar
   .rw [if_pos hz] at hb;obtain ⟨c,hc,rfl⟩:=Option.map_eq_some_iff.mp hb;obtain ⟨u,rfl⟩:=ro.str? h2;exact tail_any (typeIs_str s _ _) slot_str_getitem.lookup (PyProof.Rows.getItem_str (by rw [decide_eq_false (Int.not_lt.mpr (gE hz).1),decide_eq_false (Int.not_le.mpr (gE hz).2)]; rfl) hc (fin _ _ (.py (.str _ _)))) hsl
   .rw [if_neg hz] at hb; cases hb
  | none=>
   rw [h2] at hb;obtain ⟨ds,e2,e3⟩:=Option.bind_eq_some_iff.mp hb;obtain ⟨hz,j,hj,e4⟩:=xx e3;obtain ⟨a,vs,rfl,hl,hr,z⟩:=mM inv ro e2;obtain ⟨v,e5,q⟩:=hr.get e4;rw [← z] at hj;rw [Array.getElem?_toList] at e5;rcases hl with hl | hl
   .exact tail_any hl.typeIs slot_tuple_getitem.lookup (PyProof.Rows.getItem_tuple hl (gE hz).1 (gE hz).2 hj e5 (fin _ s.toks q)) hsl
   .exact tail_any hl.typeIs slot_list_getitem.lookup (nk hl hz hj e5 (fin _ s.toks q)) hsl
theorem ru {value slice:Expr} {pos:Pos} {f g:AM D} (h1:Sim x P MP.rep (eval value x.env) f) (h2:∀ P,Sim x P MP.rep (eval slice x.env) g)
  (hsl:∀ o i,subscripted slice false o i=PySem.operate [o,i] (getItem o i)):Sim x P MP.rep (eval (.Subscript value slice pos) x.env) (do let d ← f; let i ← g; eA fun σ=>uA σ d i):=by
 refine Sim.of_eq (t':=eval value x.env>>=fun o=>holding [o] (eval slice x.env)>>=fun i=>standAt pos>>=fun _=>subscriptTail value slice o i) rfl ?_;refine h1.bind fun o d=>((h2 _).holding).bind fun i e=>Sim.at ?_;intro ρ σ l s r st' ee hs hp;obtain ⟨b,hb,ee⟩:=Option.map_eq_some_iff.mp ee;cases ee;exact Fv hs.inv hp.1.2 hp.2 hb (hsl _ _) fun v tk q=>⟨b,l,rfl,hs.toks _,.refl ..,q⟩
noncomputable def qZ:D->Option (Option Int)
 | .py .none=>some none
 | .py (.int k)=>some (some k)
 | _=>none
noncomputable def lz {α:Type} (ds:List α) (lo hi:Option Int):List α:=(ds.drop (lo.elim 0 (clipAt ds.length))).take (hi.elim ds.length (clipAt ds.length) - lo.elim 0 (clipAt ds.length))
noncomputable def oa (y:Str) (lo hi:Option Int):Str:=
 if ((Builtin.Str.strSliceIndices lo hi 1 y.length).length==y.length)=true then y else ⟨((Builtin.Str.strSliceIndices lo hi 1 y.length).filterMap (y.cps[·]?)).toArray⟩
noncomputable def nU (σ:List O) (d a b:D):Option D:=(qZ a).bind fun lo=>(qZ b).bind fun hi=>match d.str? with
 | some y=>if y.length<=ar then some (.py (.str (oa y lo hi))) else none
 | none=>((viewP σ d).bind list?).bind fun ps=>if ps.length<=ar then some (.py (.list (lz ps lo hi))) else none
theorem u6 {h:Heap} {l:Lay} {v:Value} {d:D} {p:Option Int} (r:Rep h l v d) (e:qZ d=some p):IsPart v p/\∃ q:Option (Int×Tok),v=partValue q/\q.map (·.1)=p:=by
 cases r with
 | py q=>cases q with
  | none=>cases e; exact ⟨.none,none,rfl,rfl⟩
  | int i t=>cases e; exact ⟨.int _ _,some (_,_),rfl,rfl⟩
  | _=>cases e
 | _=>cases e
theorem bA.take {h:Heap} {F:Addr->Prop} {vs:List Value} {ds:List PyData} (k:Nat) (r:bA h F vs ds):bA h F (vs.take k) (ds.take k):=by
 refine r.ind (C:=fun vs ds=>∀ k,bA h F (vs.take k) (ds.take k)) (fun k=>by cases k <;> exact .nil) (fun r _ ih k=>?_) k;cases k with
 | zero=>exact .nil
 | succ k=>exact .cons r (ih k)
theorem bA.drop {h:Heap} {F:Addr->Prop} {vs:List Value} {ds:List PyData} (k:Nat) (r:bA h F vs ds):bA h F (vs.drop k) (ds.drop k):=by
 refine r.ind (C:=fun vs ds=>∀ k,bA h F (vs.drop k) (ds.drop k)) (fun k=>by cases k <;> exact .nil) (fun r rs ih k=>?_) k;cases k with
 | zero=>exact .cons r rs
 | succ k=>exact ih k
inductive EG (h:Heap) (l:Lay) (v:Value) (q:D×D):Prop
 | mk (a:Addr) (vl vu:Value):v=.ref a->l.F a->h.IsSliceOf a vl vu .none->Rep h l vl q.1->Rep h l vu q.2->EG h l v q
noncomputable def MP.slice (v:Value) (q:D×D):MP:=⟨fun h l=>EG h l v q,fun la z=>by
 obtain ⟨a,vl,vu,e,f,⟨o,ho,r⟩,r1,r2⟩:=z;exact ⟨a,vl,vu,e,la.F a f,⟨o,la.same a o f ho,r⟩,r1.later la,r2.later la⟩⟩
theorem rO:Sim x P MP.rep (valueOrNone (evalOpt none x.env)) (pure (.py .none)):=Sim.of_eq (t':=pure .none) rfl (Sim.pure fun _ _ _=>.py .none)
theorem rJ {e:Expr} {f:AM D} (h:Sim x P MP.rep (eval e x.env) f):Sim x P MP.rep (valueOrNone (evalOpt (some e) x.env)) f:=Sim.of_eq (t':=eval e x.env) rfl h
theorem tu {lo up:Option Expr} {p:Pos} {f g:AM D} (h1:Sim x P MP.rep (valueOrNone (evalOpt lo x.env)) f) (h2:∀ P,Sim x P MP.rep (valueOrNone (evalOpt up x.env)) g):
  Sim x P MP.slice (eval (.Slice lo up none p) x.env) (do let a ← f; let b ← g; pure (a,b)):=by
 refine Sim.of_eq (t':=valueOrNone (evalOpt lo x.env)>>=fun l=>holding [l] (valueOrNone (evalOpt up x.env))>>=fun u=>holding [l,u] (pure .none)>>=fun st=>newFields "slice" [l,u,st]) rfl ?_;refine h1.bind fun vl a=>((h2 _).holding).bind fun vu b=>?_;intro ρ σ l s r st' e hs hp;cases (show some (Except.ok _,_)=some (r,st') from e);obtain ⟨⟨_,r1⟩,r2⟩:=hp;refine wpAny_bind (wpAny_holding (wpAny_pure ?_));unfold newFields;refine wpAny_newObj_type ?_;obtain ⟨k1,k2⟩:=hs.push {cls:=.type "slice",data:=.fields [vl,vu,Value.none].toArray} s.toks;have hf:cP x l (s.heap.push {cls:=.type "slice",data:=.fields [vl,vu,Value.none].toArray}) s.heap.objs.size:=hs.free_new (bi _) ⟨_,Heap.get?_push_size _ rfl⟩;have k3:=k2.freeze (a:=s.heap.objs.size) (bi _);refine ⟨_,l.freeze s.heap.objs.size,rfl,k1.freeze hf,k3,_,vl,vu,rfl,.inr rfl,Heap.IsSliceOf.new _ _ _ _,?_,?_⟩
 .exact (show Rep s.heap l vl a from r1).later k3.later
 .exact (show Rep s.heap l vu b from r2).later k3.later
theorem z9 {s:Shared} {y:Str} {t:Tok} {a:Addr} {vl vu:Value} {q1 q2:Option (Int×Tok)} {value slice:Expr} {Q E:Value->Shared->Prop} (hsl:s.heap.IsSliceOf a vl vu .none) (e1:vl=partValue q1) (e2:vu=partValue q2) (hz:y.length<=ar)
  (hs:subscripted slice false (.str y t) (.ref a)=PySem.operate [.ref a,.str y t] (getItem (.str y t) (.ref a)))
  (fin:∀ t' s',s'.heap=s.heap->s'.gens=s.gens->s'.os=s.os->Q (.str (oa y (q1.map (·.1)) (q2.map (·.1))) t') s'):wpAny x.c.M x.A (subscriptTail value slice (.str y t) (.ref a)) Q E s:=by
 refine tail_any (ops:=[.ref a,.str y t]) (typeIs_str s _ _) slot_str_getitem.lookup (wpAny_getItem_str_slice (l:=q1) (u:=q2) (st:=none) ?_ rfl ?_) hs
 .obtain ⟨o,ho,hc,hd⟩:=hsl;exact ⟨o,ho,hc,by rw [hd,e1,e2]; rfl⟩
 .generalize hlo:q1.map (·.1)=lo' at fin;generalize hhi:q2.map (·.1)=hi' at fin
  have eq:sliceMade y t q1 q2 none=if ((Builtin.Str.strSliceIndices lo' hi' 1 y.length).length==y.length)=true then .val (.str y t) else .str ⟨((Builtin.Str.strSliceIndices lo' hi' 1 y.length).filterMap (y.cps[·]?)).toArray⟩:=by
   unfold sliceMade slicePicked;rw [hlo,hhi];simp
  rw [eq];unfold oa at fin;by_cases hc:((Builtin.Str.strSliceIndices lo' hi' 1 y.length).length==y.length)=true
  .rw [if_pos hc] at fin ⊢; exact fin _ _ rfl rfl rfl
  .rw [if_neg hc] at fin ⊢;refine ⟨?_,fin _ _ rfl rfl rfl⟩;have:=PyProof.Rows.indices_len_le lo' hi' y.length;show (List.filterMap _ _).toArray.size<=sizeLine;rw [List.size_toArray];exact Nat.le_trans (List.length_filterMap_le _ _) (Nat.le_trans this (bD hz))
theorem zt {value:Expr} {lo up:Option Expr} {p pos:Pos} {f ga gb:AM D} (h1:Sim x P MP.rep (eval value x.env) f) (h2:∀ P,Sim x P MP.rep (valueOrNone (evalOpt lo x.env)) ga) (h3:∀ P,Sim x P MP.rep (valueOrNone (evalOpt up x.env)) gb):
  Sim x P MP.rep (eval (.Subscript value (.Slice lo up none p) pos) x.env) (do let d ← f; let q ← (do let a ← ga; let b ← gb; pure (a,b)); eA fun σ=>nU σ d q.1 q.2):=by
 refine Sim.of_eq (t':=eval value x.env>>=fun o=>holding [o] (eval (.Slice lo up none p) x.env)>>=fun i=>standAt pos>>=fun _=>subscriptTail value (.Slice lo up none p) o i) rfl ?_;refine h1.bind fun o d=>((tu (h2 _) h3).holding).bind fun i q=>Sim.at ?_;intro ρ σ l s r st' ee hs hp;obtain ⟨b,hb,ee⟩:=Option.map_eq_some_iff.mp ee;cases ee;have ro:Rep s.heap l o d:=hp.1.2;obtain ⟨a,vl,vu,rfl,hF,hsl,r1,r2⟩:=hp.2;obtain ⟨lo',e1,hb⟩:=Option.bind_eq_some_iff.mp hb;obtain ⟨hi',e2,hb⟩:=Option.bind_eq_some_iff.mp hb;obtain ⟨p1,q1,e3,e4⟩:=u6 r1 e1;obtain ⟨p2,q2,e5,e6⟩:=u6 r2 e2;cases hd:d.str? with
 | some y=>
  rw [hd] at hb;obtain ⟨hz,rfl⟩:=bb hb;obtain ⟨t,rfl⟩:=ro.str? hd;refine z9 hsl e3 e5 hz rfl fun t' s' g1 g2 g3=>?_;rw [e4,e6];refine ⟨_,l,rfl,hs.rw g1 g2 g3,?_,.py (.str _ _)⟩;rw [g1];exact .refl ..
 | none=>
  rw [hd] at hb;obtain ⟨ps,e7,hb⟩:=Option.bind_eq_some_iff.mp hb;obtain ⟨p,e8,e9⟩:=Option.bind_eq_some_iff.mp e7;obtain rfl:=list?_some e9;obtain ⟨hz,rfl⟩:=bb hb;obtain ⟨a',vs,rfl,hl,hr⟩:=hs.inv.viewPL ro e8;have z:=hr.length;rw [Array.length_toList] at z;refine tail_any (ops:=[.ref a,.ref a']) hl.typeIs slot_list_getitem.lookup (wpAny_getItem_list_slice hl hsl p1 p2 .none (by intro h; cases h) ?_ (by rw [z]; exact bD hz)) rfl
  have e8:slicePick vs lo' hi' none=(lz vs.toList lo' hi').toArray:=by
   rw [slicePick_plain]; unfold lz; rw [Array.length_toList]
  rw [e8]
  have hr':bA s.heap l.F (lz vs.toList lo' hi') (lz ps lo' hi'):=by
   unfold lz;rw [hr.length];exact (hr.drop _).take _
  obtain ⟨k1,k2,k3⟩:=hs.newFrozen s.toks (.inl rfl) hr';exact ⟨_,_,rfl,k1,k2,.py k3⟩
end
noncomputable def jG (σ:List O) (d:D):Option (PyData×List O):=d.obj?.bind fun n=>(vb σ[n]?).map fun p=>(p,σ.set n (.froz p))
noncomputable def ib (d:D):AM D:=fun st=>match jG st.σ d with
 | some q=>some (.ok (.py q.1),⟨st.ρ,q.2⟩)
 | none=>some (.ok d,st)
section
variable {x:Ctx} {P:MP}
theorem St.frozen {ρ:aq} {σ:List O} {l:Lay} {s:Shared} (hs:St x ρ σ l s) {n:Nat} {p:Addr×Addr} {ds:List D} {ps:List PyData} (hn:σ[n]?=some (.list ds)) (hp:l.mu[n]?=some p) (e:dk ds=some ps):
  St x ρ (σ.set n (.froz (.list ps))) (l.freeze p.1) s/\bt x.c x.S x.W l s.heap (l.freeze p.1) s.heap/\Rp s.heap (l.freeze p.1).F (.ref p.1) (.list ps):=by
 obtain ⟨vs,hpl,hr⟩:=hs.inv.at hn hp;obtain ⟨o,ho,hc,k,hd⟩:=hpl.isList;have hr':=hr.rp e;have la:=cg.freeze s.heap l p.1
 have rp:Rp s.heap (l.freeze p.1).F (.ref p.1) (.list ps):=by
  obtain ⟨n,ho⟩:=hpl;exact .list (.inr rfl) ho (hr'.mono la.F la.same)
 have has:l.has p.1:=⟨n,p,hp,.inl rfl⟩
 obtain ⟨i,ev,f,fo,g,os⟩:=hs;refine ⟨⟨⟨i.base,by simp [Lay.freeze,i.len],fun b q=>q.elim (i.flt b) fun e=>e▸⟨o,ho⟩,i.mlt,i.mnew,fun m o' q k1 k2 k3=>?_,i.inj,fun m o' q k1 k2=>?_⟩,?_,f,fun b q=>⟨fun z=>z.elim (fo b q).1 fun z=>(fo b q).2 (z▸has),(fo b q).2⟩,g,os⟩,?_,rp⟩
 .by_cases hm:n=m
  .subst hm;rw [List.getElem?_set_self (List.getElem?_eq_some_iff.mp hn).1] at k1;cases k1; cases k2
  .rw [List.getElem?_set_ne hm] at k1;obtain ⟨q1,q2⟩:=i.live m o' q k1 k2 k3;obtain ⟨d1,d2,d3,d4⟩:=i.inj n m p q hp k3 hm;exact ⟨fun z=>z.elim q1 fun z=>d1 z.symm,fun z=>z.elim q2 fun z=>d2 z.symm⟩
 .by_cases hm:n=m
  .subst hm;rw [List.getElem?_set_self (List.getElem?_eq_some_iff.mp hn).1] at k1;have k2':l.mu[n]?=some q:=k2;rw [hp] at k2'; cases k2';cases k1;exact ⟨.inr rfl,rp⟩
  .rw [List.getElem?_set_ne hm] at k1;exact (i.objs m o' q k1 k2).later la (fun _ e=>e) (fun _ e=>e)
 .refine ev.of_step la (fun b _ h1 _ _=>h1) (fun b _ h0 h2 _ h4 z=>z.elim h2 fun z=>h0 (z▸has)) (fun b o _ _ _ q=>⟨o.slots,q⟩)
 .exact ⟨la,fun a o e=>⟨o,e⟩,fun a q=>.inl q,fun a q=>q.elim .inl fun e=>.inr (.inl (e▸has)),fun a o _ _ _ e=>e,fun a o _ _ e=>⟨o.slots,e⟩⟩
theorem Sim.freeze {t:Sem Value} {f:AM D} (h:Sim x P MP.rep t f):Sim x P MP.rep t (do let d ← f; ib d):=fun ρ σ l s r st' e hs hp=>h.run e hs hp (fun a d ρ1 σ1 l1 s1 e1 hs1 st1 rv=>by
 unfold ib at e1;cases hf:jG σ1 d with
 | none=>
  rw [show jG (ASt.mk ρ1 σ1).σ d=none from hf] at e1;cases e1;exact ⟨d,l1,rfl,hs1,st1,rv⟩
 | some q=>
  rw [show jG (ASt.mk ρ1 σ1).σ d=some q from hf] at e1;cases e1;obtain ⟨n,hd,hf⟩:=Option.bind_eq_some_iff.mp hf;obtain ⟨p,hp,rfl⟩:=Option.map_eq_some_iff.mp hf;obtain rfl:=dM hd;obtain ⟨b,rfl,hm⟩:=Rep.obj_inv rv;rcases nP hp with ⟨ds,ps,hn,he,rfl⟩ | hn
  .obtain ⟨k1,k2,k3⟩:=hs1.frozen hn hm he;exact ⟨_,_,rfl,k1,st1.trans k2,.py k3⟩
  .have e3:σ1.set n (.froz p)=σ1:=by
    obtain ⟨h1,h2⟩:=List.getElem?_eq_some_iff.mp hn;rw [← h2]; exact List.set_getElem_self h1
   exact ⟨_,l1,rfl,e3.symm▸hs1,st1,.py (hs1.inv.at hn hm).2⟩) fun _ _ q=>q
theorem tK {pos:Pos}:Sim x P MP.reps (spliced (backTo pos (starEach [] x.env))) (pure []):=Sim.of_eq (t':=pure []) rfl (Sim.pure fun _ _ _=>.nil)
theorem rK {e:Expr} {rest:List Expr} {pos:Pos} {f:AM D} {g:AM (List D)} (h1:Sim x P MP.rep (eval e x.env) f) (h2:∀ P,Sim x P MP.reps (spliced (backTo pos (starEach rest x.env))) g)
  (hst:starEach (e::rest) x.env=(false,eval e x.env)::starEach rest x.env):Sim x P MP.reps (spliced (backTo pos (starEach (e::rest) x.env))) (do let d ← f; let ds ← g; pure (d::ds)):=by
 rw [hst];refine Sim.of_eq (t':=eval e x.env>>=fun v=>pure [v]>>=fun here=>holding here (spliced (backTo pos (starEach rest x.env)))>>=fun r=>pure (here++r)) rfl ?_;refine h1.bind fun v d=>?_;refine Sim.of_eq (t':=holding [v] (spliced (backTo pos (starEach rest x.env)))>>=fun r=>pure ([v]++r)) rfl ?_;exact ((h2 _).holding).bind fun vs ds=>Sim.pure fun h l q=>.cons q.1.2 q.2
noncomputable def gO (σ:List O) (d:D):Option (List D):=(nA σ d).bind fun ds=>if ds.length<=ar then some ds else none
theorem pE {ρ:aq} {σ:List O} {l:Lay} {s:Shared} {v:Value} {d:D} {ds:List D} {Q:List Value->Shared->Prop} {E:Value->Shared->Prop} (hs:St x ρ σ l s) (r:Rep s.heap l v d) (e:gO σ d=some ds)
  (h:∀ vs s',St x ρ σ l s'->bt x.c x.S x.W l s.heap l s'.heap->au s'.heap l vs ds->Q vs s'):StarOf x.c.M x.A E v Q s:=by
 obtain ⟨ds',e1,e2⟩:=Option.bind_eq_some_iff.mp e;obtain ⟨hz,rfl⟩:=bb e2;obtain ⟨a,vs,rfl,hk,hr,z⟩:=mM hs.inv r e1
 have key:∀ {T:String} {o:Obj} {n:Nat},T= "list" \/T= "tuple" ->s.heap.get? a=some o->o.cls=.type T->o.data=.seq vs n->wpAny x.c.M x.A (collect (.ref a)) Q E s:=by
  intro T o n hT ho hc hd;refine wpAny_collect_seq a hT ho hc hd (fun h' hk=>?_) (by rw [z]; exact bD hz);obtain ⟨k1,k2⟩:=hs.grow (s':={s with heap:=h'}) hk rfl rfl;exact h _ _ k1 k2 (hr.later k2.later)
 unfold StarOf notIterableAtAll;rcases hk with ⟨o,ho,hc,n,hd⟩ | ⟨o,ho,hc,n,hd⟩
 .exact wpAny_bind (wpAny_specialOf ⟨o,ho,hc⟩ PySem.F.slot_tuple_iter.lookup (wpAny_pure ⟨rfl,key (.inr rfl) ho hc hd⟩))
 .exact wpAny_bind (wpAny_specialOf ⟨o,ho,hc⟩ PySem.F.slot_list_iter.lookup (wpAny_pure ⟨rfl,key (.inl rfl) ho hc hd⟩))
theorem rC {e:Expr} {rest:List Expr} {p pos:Pos} {f:AM D} {g:AM (List D)} (h1:Sim x P MP.rep (eval e x.env) f) (h2:∀ P,Sim x P MP.reps (spliced (backTo pos (starEach rest x.env))) g):
  Sim x P MP.reps (spliced (backTo pos (starEach (.Starred e p::rest) x.env))) (do let d ← f; let ds ← eA fun σ=>gO σ d; let es ← g; pure (ds++es)):=by
 intro ρ σ l s r st' ee hs hp;show wpAny _ _ (spliced ((true,(do let v ← eval e x.env; standAt pos; pure v))::backTo pos (starEach rest x.env))) _ _ _;refine ks_spliced (h1.run ee hs hp (fun v d ρ1 σ1 l1 s1 e1 hs1 st1 rv=>?_) fun _ _ q=>q);rcases om e1 with ⟨ds,⟨ρ2,σ2⟩,e2,e3⟩ | ⟨_,e2,_⟩
 case inr=>obtain ⟨_,_,z⟩:=Option.map_eq_some_iff.mp e2; cases z
 obtain ⟨_,ho,z⟩:=Option.map_eq_some_iff.mp e2;cases z;refine pE hs1 rv ho fun vs s2 k1 k2 k3=>?_;refine (h2 (MP.reps vs ds)).run e3 k1 k3 (fun ws es ρ4 σ4 l4 s4 e4 hs4 st4 rs=>?_) fun _ _ q=>q.from (st1.trans k2);cases (show some (Except.ok _,_)=some (r,st') from e4);exact ⟨_,l4,rfl,hs4,(st1.trans k2).trans st4,au.append rs (k3.later st4.later)⟩
noncomputable def EL (ds:List D):AM D:=fun st=>(dk ds).bind fun ps=>if ps.length<=ar then some (.ok (.py (.list ps)),st) else none
noncomputable def Bi (ds:List D):D:=match dk ds with
 | some ps=>.py (.tuple ps)
 | none=>.tup ds
noncomputable def Cm (ds:List D):AM D:=fun st=>if ds.length<=ar then some (.ok (Bi ds),st) else none
noncomputable def uH (o:O):AM D:=fun st=>some (.ok (.obj st.σ.length),⟨st.ρ,st.σ++[o]⟩)
noncomputable def uG (ds:List D):AM D:=fun st=>if ds.length<=ar then uH (.list ds) st else none
theorem A5 {es:List Expr} {pos:Pos} {f:AM (List D)} (h:Sim x P MP.reps (spliced (backTo pos (starEach es x.env))) f):Sim x P MP.rep (eval (.List es pos) x.env) (do let ds ← f; EL ds):=by
 refine Sim.of_eq (t':=standAt pos>>=fun _=>spliced (backTo pos (starEach es x.env))>>=fun vs=>newList vs) rfl (Sim.at (h.bind fun vs ds=>?_));intro ρ σ l s r st' e hs hp;obtain ⟨ps,he,e⟩:=Option.bind_eq_some_iff.mp e;obtain ⟨hz,e⟩:=bb e;cases e;have hr':=hp.2.rp he;obtain ⟨k1,k2,k3⟩:=hs.newFrozen s.toks (.inl rfl) hr';exact wpAny_newObj_type ⟨_,_,rfl,k1,k2,.py k3⟩ (show vs.toArray.size<=sizeLine by rw [List.size_toArray,hr'.length]; exact bD hz)
theorem St.newObj {ρ:aq} {σ:List O} {l:Lay} {s:Shared} (hs:St x ρ σ l s) {h':Heap} {a:Addr} {o:O} (tk:Nat) (hk:∀ b ob,s.heap.get? b=some ob->h'.get? b=some ob) (ha:s.heap.get? a=none) (ha':∃ ob,h'.get? a=some ob)
  (ho:kx x.c h' l (a,a) o) (hl:o.live=true):
  St x ρ (σ++[o]) (l.add (a,a)) {s with heap:=h',toks:=tk}/\bt x.c x.S x.W l s.heap (l.add (a,a)) h'/\Rep h' (l.add (a,a)) (.ref a) (.obj σ.length):=by
 obtain ⟨k1,k2⟩:=hs.grow (s':={s with heap:=h',toks:=tk}) hk rfl rfl;have hf:cP x l h' a:=hs.free_new ha ha';refine ⟨k1.add hf hf ho hl,k2.add ha ha,.obj (p:=(a,a)) ?_⟩;show (l.mu++[(a,a)])[σ.length]?=_;rw [← hs.inv.len]; exact List.getElem?_concat_length
theorem St.pushed {ρ:aq} {σ:List O} {l:Lay} {s:Shared} (hs:St x ρ σ l s) {ob:Obj} {o:O} (tk:Nat) (hf:ob.isFreed=false) (ho:kx x.c (s.heap.push ob) l (s.heap.objs.size,s.heap.objs.size) o) (hl:o.live=true):
  St x ρ (σ++[o]) (l.add (s.heap.objs.size,s.heap.objs.size)) {s with heap:=s.heap.push ob,toks:=tk}/\bt x.c x.S x.W l s.heap (l.add (s.heap.objs.size,s.heap.objs.size)) (s.heap.push ob)/\Rep (s.heap.push ob) (l.add (s.heap.objs.size,s.heap.objs.size)) (.ref s.heap.objs.size) (.obj σ.length):=
 hs.newObj tk (fun b ob e=>Heap.get?_push_of_some _ e) (bi _) ⟨_,Heap.get?_push_size _ hf⟩ ho hl
theorem uo {es:List Expr} {pos:Pos} {f:AM (List D)} (h:Sim x P MP.reps (spliced (backTo pos (starEach es x.env))) f):Sim x P MP.rep (eval (.List es pos) x.env) (do let ds ← f; uG ds):=by
 refine Sim.of_eq (t':=standAt pos>>=fun _=>spliced (backTo pos (starEach es x.env))>>=fun vs=>newList vs) rfl (Sim.at (h.bind fun vs ds=>?_));intro ρ σ l s r st' e hs hp;obtain ⟨hz,e⟩:=gf e;cases (show some (Except.ok _,_)=some (r,st') from e);have hr:au s.heap l vs ds:=hp.2;refine wpAny_newObj_type ?_ (show vs.toArray.size<=sizeLine by rw [List.size_toArray,hr.length]; exact bD hz);obtain ⟨k1,k2,k3⟩:=hs.pushed (ob:={cls:=.type "list",data:=.seq vs.toArray}) (o:=.list ds) s.toks rfl ⟨vs.toArray,⟨_,Heap.get?_push_size _ rfl⟩,by rw [List.toList_toArray]; exact hr.later (hs.push _ 0).2.later⟩ rfl;exact ⟨_,_,rfl,k1,k2,k3⟩
theorem zM {es:List Expr} {k:Nat} {pos:Pos} {f:AM (List D)} (h:Sim x P MP.reps (spliced (backTo pos (starEach es x.env))) f):Sim x P MP.rep (eval (.Tuple es k pos) x.env) (do let ds ← f; Cm ds):=by
 refine Sim.of_eq (t':=standAt pos>>=fun _=>spliced (backTo pos (starEach es x.env))>>=fun vs=>newTuple vs) rfl (Sim.at (h.bind fun vs ds=>?_));intro ρ σ l s r st' e hs hp;obtain ⟨hz,e⟩:=bb e;cases e;have hr:au s.heap l vs ds:=hp.2;refine wpAny_newObj_type ?_ (show vs.toArray.size<=sizeLine by rw [List.size_toArray,hr.length]; exact bD hz);unfold Bi;cases he:dk ds with
 | some ps=>
  obtain ⟨k1,k2,k3⟩:=hs.newFrozen s.toks (.inr rfl) (hr.rp he);exact ⟨_,_,rfl,k1,k2,.py k3⟩
 | none=>
  obtain ⟨h1,h2⟩:=hs.push {cls:=.type "tuple",data:=.seq vs.toArray} s.toks;have k2:=h2.freeze (a:=s.heap.objs.size) (bi _);exact ⟨_,_,rfl,h1.freeze (hs.free_new (bi _) ⟨_,Heap.get?_push_size _ rfl⟩),k2,.tup (.inr rfl) (Heap.get?_push_size _ rfl) rfl rfl (by rw [List.toList_toArray]; exact hr.later k2.later)⟩
noncomputable def MP.args (a:Args) (ds:List D):MP:=(MP.fact (a.kw=[])).and (MP.reps a.pos ds)
theorem sR {f:Value} {e:Expr} {rest:List Expr} {pos:Pos} {g:AM (List D)} (h:Sim x P MP.reps (spliced (backTo pos (starEach (e::rest) x.env))) g)
  (hst:starEach (e::rest) x.env=(false,eval e x.env)::starEach rest x.env):Sim x P MP.args (evalArgs f true (backTo pos (starEach (e::rest) x.env)) []) g:=by
 rw [hst] at h ⊢;exact fun ρ σ l s r st' ee hs hp=>evalArgs_plain (wpAny_mono (h ρ σ l s r st' ee hs hp) (fun vs s1 ⟨ds,l1,q1,q2,q3,q4⟩=>⟨ds,l1,q1,q2,q3,rfl,q4⟩) (fun _ _ q=>q))
theorem nr {f:Value} {pos:Pos}:Sim x P MP.args (evalArgs f true (backTo pos (starEach [] x.env)) []) (pure []):=by
 intro ρ σ l s r st' ee hs hp;cases (show some (Except.ok _,_)=some (r,st') from ee);exact evalArgs_nil3 ⟨_,l,rfl,hs,.refl ..,rfl,.nil⟩
theorem mT {f:Value} {e:Expr} {p pos:Pos} {g:AM D} (h:Sim x P MP.rep (eval e x.env) g):Sim x P MP.args (evalArgs f true (backTo pos (starEach [.Starred e p] x.env)) []) (do let d ← g; eA fun σ=>gO σ d):=fun ρ σ l s r st' ee hs hp=>ks_lone (h.run ee hs hp (fun v d ρ1 σ1 l1 s1 e1 hs1 st1 rv=>by
 obtain ⟨ds,ho,e3⟩:=Option.map_eq_some_iff.mp e1;cases e3;exact pE hs1 rv ho fun vs s2 k1 k2 k3=>⟨_,l1,rfl,k1,st1.trans k2,rfl,k3⟩) fun _ _ q=>q)
noncomputable def AD (M:Model) (h:Heap) (f:Value):Prop:=∃ k,(k=Keeper.frame\/k=Keeper.machine\/k=Keeper.boundFrame)/\Looks M h (keeperOf f) k
noncomputable def df (c:Cx) (f:Value):Prop:=∀ h,(∀ b o,c.base.get? b=some o->h.get? b=some o)->AD c.M h f
theorem df.builtin {c:Cx} (id:String):df c (.builtin id):=fun _ _=>⟨.machine,.inr (.inl rfl),Looks.of_pure rfl⟩
theorem df.type {c:Cx} (id:String):df c (.type id):=fun _ _=>⟨.machine,.inr (.inl rfl),Looks.of_pure rfl⟩
theorem df.inK {c:Cx} {f:Value} (e:keepIn c.K f=true):df c f:=fun h hb=>by
 obtain ⟨k,a,b⟩:=looks_keep (M:=c.M) e (c.inK.keeps hb);exact ⟨k,a.elim .inl fun e=>.inr (.inl e),b⟩
theorem gl {f:Value} {first:List Value} {es:List Expr} {pos:Pos} {g:AM (List D)} {δ:Type} {K:List D->AM δ} {ρ:aq} {σ:List O} {l:Lay} {s:Shared} {r:Except Value δ} {st':ASt} (ha:Sim x P MP.args (evalArgs f true (backTo pos (starEach es x.env)) []) g) (e:(g>>=K) ⟨ρ,σ⟩=some (r,st')) (hs:St x ρ σ l s) (hp:P.p s.heap l) {Q:Value->Shared->Prop} {E:Value->Shared->Prop}
  (hc:∀ vs ds ρ1 σ1 l1 s1,K ds ⟨ρ1,σ1⟩=some (r,st')->St x ρ1 σ1 l1 s1->Sp x l s.heap l1 s1.heap->au s1.heap l1 vs ds->AD x.c.M s1.heap f/\wpAny x.c.M x.A (PySem.call f (first++vs) []) Q E s1) (ke:∀ e s1,ErQ x l s.heap r st' e s1->E e s1):
  wpAny x.c.M x.A (callWith pos f first (backTo pos (starEach es x.env)) []) Q E s:=by
 unfold callWith;refine wpAny_bind (wpAny_holding (ha.run e hs hp (fun a ds ρ1 σ1 l1 s1 e1 hs1 st1 rv=>wpAny_bind (wpAny_standAt ?_)) ke));obtain ⟨pos',kw⟩:=a;obtain rfl:kw=[]:=rv.1;obtain ⟨⟨kp,hk,L⟩,core⟩:=hc pos' ds ρ1 σ1 l1 s1 e1 hs1 st1 rv.2;generalize hb:((backTo pos (starEach es x.env)).any (·.1)||List.any ([]:List (Option Str×Sem Value)) (·.1.isNone))=b;refine wpAny_bind (L.here ?_)
 have tail:∀ {t:Sem Value} {Q:Value->Shared->Prop} {E:Value->Shared->Prop},wpAny x.c.M x.A t Q E s1->wpAny x.c.M x.A (t>>=fun r=>holding [r] PySem.point>>=fun _=>pure r) Q E s1:=
  fun ht=>wpAny_bind (wpAny_mono ht (fun r s₂ hr=>wpAny_bind (wpAny_holding (wpAny_point (wpAny_pure hr)))) fun _ _ x=>x)
 have marked (mk:Value):=(by unfold callMarked; exact Calls.wpAny_keep core:wpAny x.c.M x.A (callMarked mk f (first++pos') []) _ _ s1)
 rcases hk with rfl | rfl | rfl <;> cases b <;> dsimp only <;> first | exact tail core | exact tail (marked _) | exact tail (wpAny_operating core) | (split <;> first | exact tail core | exact tail (marked _))
theorem jW {f:Value} {first:List Value} {fd:List D} {es:List Expr} {pos:Pos} {g:AM (List D)} {k:List D->AM D} (hk:df x.c f) (ha:Sim x P MP.args (evalArgs f true (backTo pos (starEach es x.env)) []) g)
  (hc:∀ vs ds,Sim x (P.and (MP.reps vs ds)) MP.rep (PySem.call f (first++vs)) (k ds)):Sim x P MP.rep (callWith pos f first (backTo pos (starEach es x.env)) []) (do let ds ← g; k ds):=
 let _:=fd
 fun ρ σ l s r st' ee hs hp=>gl ha ee hs hp (fun vs ds ρ1 σ1 l1 s1 e1 hs1 st1 rv=>⟨hk _ hs1.inv.base,wpAny_mono (hc vs ds ρ1 σ1 l1 s1 r st' e1 hs1 ⟨P.mono st1.later hp,rv⟩) (fun _ _ q=>q.from st1) fun _ _ q=>q.from st1⟩) fun _ _ q=>q
end
section
variable {prog:Program} {w:World} {K:Type} [DecidableEq K] {knd:KeyKind prog w K} {A:Around} {E:Value->Shared->Prop} {s:Shared}
theorem qC {d:Addr} {kvs:List (K×Value)} {ep:Nat} {k:K} {key v:Value} {Q:Unit->Shared->Prop} (hkey:knd.is k key=true) (hm:s.heap.DictAt knd d kvs ep)
  (hQ:∀ h',h'.DictAt knd d (stored kvs k v) (if kvs.any (fun kv=>kv.1=k) then ep else ep+1)->Heap.SameBut d s.heap h'->Q () {s with heap:=h',toks:=s.toks+1}) (hsz:kvs.length<=sizeLine):
  wpAny (model prog w) A (dictSet d key v) Q E s:=by
 obtain ⟨o,es,ho,hc,hd,hk,hp,hn⟩:=hm
 have hes:es.size<=sizeLine:=by
  have e1:=hp.length;have e2:es.toList.length=es.size:=by simp
  omega
 have hidx:(es.findIdx? fun e=>knd.is k e.key)=kvs.findIdx? fun kv=>decide (kv.1=k):=by
  rw [← hp.findIdx k]; obtain ⟨l⟩:=es; simp
 unfold dictSet;refine wpAny_holding (wpAny_bind (knd.pyHash hkey ?_));unfold dictSetHashed;refine wpAny_holding (wpAny_bind (wpAny_dictFind_of (s:={s with toks:=s.toks+1}) hkey ho hd hk ?_));cases hi:es.findIdx? fun e=>knd.is k e.key with
 | some i=>
  have hany:=any_of_findIdx_some (hidx▸hi);rw [if_pos hany,stored,if_pos hany] at hQ;have hl:(es.toList.findIdx? fun e=>knd.is k e.key)=some i:=by rw [← hi]; obtain ⟨l⟩:=es; simp
  have hpm:=hp.modify hn hl v;refine wpAny_bind (wpAny_rule (wpAny_bind (wpAny_updateDict (s:={s with toks:=s.toks+1}) ho hd (wpAny_point (hQ _ ⟨_,es.modify i fun e=>{e with val:=v},Heap.get?_update_self _ ho (Obj.isFreed_of_dict (Obj.data_mapDict hd _)),
   hc.mapDict _,Obj.data_mapDict hd _,hk.modify _ _,?_,by rw [keys_map_store]; exact hn⟩ (Heap.SameBut.update ..))))))
  obtain ⟨l⟩:=es
  simpa using hpm
 | none=>
  have hnot:k∉kvs.map (·.1):=not_mem_of_findIdx_none (hidx▸hi)
  have hany:¬ (kvs.any fun kv=>decide (kv.1=k))=true:=by
   rw [List.any_eq_true]; rintro ⟨kv,hkv,he⟩;exact hnot (List.mem_map.mpr ⟨kv,hkv,of_decide_eq_true he⟩)
  rw [if_neg hany,stored,if_neg hany] at hQ;have hpa:=hp.append hkey (knd.hash k) v;refine wpAny_bind (wpAny_rule (wpAny_updateDictKeys (hz:=hes) (s:={s with toks:=s.toks+1}) ho hd (hQ _ ⟨_,es.push ⟨knd.hash k,key,v⟩,Heap.get?_update_self _ ho (Obj.isFreed_of_dict (Obj.data_mapDictKeys hd _)),
   hc.mapDictKeys _,Obj.data_mapDictKeys hd _,hk.push hkey _,?_,?_⟩ (Heap.SameBut.update ..))))
  .obtain ⟨l⟩:=es
   simpa using hpa
  .rw [List.map_append,List.nodup_append];refine ⟨hn,by simp,?_⟩;intro a ha b hb;simp only [List.map_cons,List.map_nil,List.mem_singleton] at hb;subst hb;exact fun e=>hnot (e▸ha)
theorem wz {d:Addr} {kvs:List (K×Value)} {ep:Nat} {k:K} {key v:Value} {Q:Unit->Shared->Prop} (hkey:knd.is k key=true) (hm:s.heap.DictAt knd d kvs ep)
  (hQ:∀ h',h'.DictAt knd d (stored kvs k v) (if kvs.any (fun kv=>kv.1=k) then ep else ep+1)->Heap.SameBut d s.heap h'->Q () {s with heap:=h',toks:=s.toks+1}) (hsz:kvs.length<=sizeLine):
  wpAny (model prog w) A (setItem (.ref d) key v) Q E s:=by
 have hT:s.TypeIs (.ref d) "dict" :=hm.dictOf.typeIs;unfold setItem;refine wpAny_holding (wpAny_bind (wpAny_sequenceKey hT (by decide) ?_));refine wpAny_bind (wpAny_callSpecial?_slot (name:=Str.ofString "__setitem__") hT PySem.slot_dict_setitem
  (wpAny_call_entry PySem.slot_dict_setitem hT PySem.entry_dict_setitem ?_ (PySem.args_dict_setitem _ _ _)))
 show wpAny _ _ (Builtin.Dict.notOrdered "__setitem__" ⟨[.ref d,key,v],[]⟩>>=_) _ _ s;refine wpAny_bind (wpAny_notOrdered_dict hT ?_);show wpAny _ _ (dictSet d key v>>=_) _ _ s;exact wpAny_bind (qC hkey hm (fun h' hm' hs'=>wpAny_pure ⟨.none,rfl,wpAny_pure (hQ h' hm' hs')⟩) hsz)
theorem xH {d:Addr} {kvs:List (K×Value)} {ep:Nat} {k:K} {key:Value} {Q:Option DictEntry->Shared->Prop} (hkey:knd.is k key=true) (hm:s.heap.DictAt knd d kvs ep) (hin:(kvs.any fun kv=>decide (kv.1=k))=true)
  (hsome:∀ e h',h'.DictAt knd d (without kvs k) (ep+1)->Heap.SameBut d s.heap h'->Q (some e) {s with heap:=h',toks:=s.toks+1})
  (hsz:kvs.length<=sizeLine):wpAny (model prog w) A (Builtin.Dict.takeOut d key) Q E s:=by
 obtain ⟨o,es,ho,hc,hd,hk,hp,hn⟩:=hm
 have hes:es.size<=sizeLine:=by
  have e1:=hp.length;have e2:es.toList.length=es.size:=by simp
  omega
 have hidx:(es.findIdx? fun e=>knd.is k e.key)=kvs.findIdx? fun kv=>decide (kv.1=k):=by
  rw [← hp.findIdx k]; obtain ⟨l⟩:=es; simp
 unfold Builtin.Dict.takeOut;refine wpAny_holding (wpAny_bind (knd.pyHash hkey ?_));refine wpAny_bind (wpAny_dictFind_of (s:={s with toks:=s.toks+1}) hkey ho hd hk ?_);cases hi:es.findIdx? fun e=>knd.is k e.key with
 | none=>
  have hnot:k∉kvs.map (·.1):=not_mem_of_findIdx_none (hidx▸hi);obtain ⟨kv,hkv,he⟩:=List.any_eq_true.mp hin;exact absurd (List.mem_map.mpr ⟨kv,hkv,of_decide_eq_true he⟩) hnot
 | some i=>
  have hl:(es.toList.findIdx? fun e=>knd.is k e.key)=some i:=by rw [← hi]; obtain ⟨l⟩:=es; simp
  obtain ⟨e,he,hek,hev⟩:=hp.at hl;refine wpAny_bind (wpAny_dictEntries (s:={s with toks:=s.toks+1}) ho hd ?_);have he':es[i]?=some e:=by rw [← he]; obtain ⟨l⟩:=es; simp
  rw [he'];have hpe:=hp.erase hn hl;refine wpAny_bind (wpAny_updateDictKeys (hz:=hes) (s:={s with toks:=s.toks+1}) ho hd (wpAny_pure (hsome e _ ⟨_,es.eraseIdxIfInBounds i,Heap.get?_update_self _ ho (Obj.isFreed_of_dict (Obj.data_mapDictKeys hd _)),
   hc.mapDictKeys _,Obj.data_mapDictKeys hd _,hk.erase _,?_,nodup_without hn k⟩ (Heap.SameBut.update ..))))
  obtain ⟨l⟩:=es
  simpa using hpe
end
noncomputable def eg (kvs:List (KK×D)) (k:KK) (d:D):List (KK×D):=if kvs.any (fun kv=>decide (kv.1=k)) then kvs.map (fun kv=>if kv.1=k then (kv.1,d) else kv) else kvs++[(k,d)]
noncomputable def epK (kvs:List (KK×D)) (k:KK) (ep:Nat):Nat:=if kvs.any (fun kv=>decide (kv.1=k)) then ep else ep+1
noncomputable def n4 (kvs:List (KK×D)) (k:KK):List (KK×D):=kvs.filter fun kv=>decide (kv.1≠k)
theorem fO.any {h:Heap} {l:Lay} {vs:List (KK×Value)} {ds:List (KK×D)} (r:fO h l vs ds) (k:KK):(vs.any fun kv=>decide (kv.1=k))=ds.any fun kv=>decide (kv.1=k):=by
 induction r with
 | nil=>rfl
 | cons _ _ ih=>exact congrArg (or _) ih
theorem fO.length {h:Heap} {l:Lay} {vs:List (KK×Value)} {ds:List (KK×D)} (r:fO h l vs ds):vs.length=ds.length:=by
 induction r with
 | nil=>rfl
 | cons _ _ ih=>exact congrArg (·+1) ih
theorem fO.snoc {h:Heap} {l:Lay} {k:KK} {v:Value} {d:D} (q:Rep h l v d):∀ {vs:List (KK×Value)} {ds:List (KK×D)},fO h l vs ds->fO h l (vs++[(k,v)]) (ds++[(k,d)])
 | _,_,.nil=>.cons q .nil
 | _,_,.cons r rs=>.cons r (rs.snoc q)
theorem fO.turn {h:Heap} {l:Lay} {k:KK} {v:Value} {d:D} (q:Rep h l v d):∀ {vs:List (KK×Value)} {ds:List (KK×D)},fO h l vs ds->
  fO h l (vs.map fun kv=>if kv.1=k then (kv.1,v) else kv) (ds.map fun kv=>if kv.1=k then (kv.1,d) else kv)
 | _,_,.nil=>.nil
 | _,_,.cons (k:=k') r rs=>by
  simp only [List.map_cons];by_cases hk:k'=k
  .rw [if_pos hk,if_pos hk]; exact .cons q (rs.turn q)
  .rw [if_neg hk,if_neg hk]; exact .cons r (rs.turn q)
theorem fO.store {h:Heap} {l:Lay} {k:KK} {v:Value} {d:D} (q:Rep h l v d) {vs:List (KK×Value)} {ds:List (KK×D)} (r:fO h l vs ds):fO h l (stored vs k v) (eg ds k d):=by
 unfold stored eg;rw [r.any k];split
 .exact r.turn q
 .exact r.snoc q
theorem fO.drop {h:Heap} {l:Lay} {k:KK}:∀ {vs:List (KK×Value)} {ds:List (KK×D)},fO h l vs ds->fO h l (without vs k) (n4 ds k)
 | _,_,.nil=>.nil
 | _,_,.cons (k:=k') r rs=>by
  have ih:=rs.drop (k:=k);unfold without n4 at ih ⊢;simp only [List.filter_cons];by_cases hk:k'=k
  .simp [hk]; simpa using ih
  .simp [hk]; exact .cons r (by simpa using ih)
section
variable {x:Ctx} {ρ:aq} {σ:List O} {l:Lay} {s:Shared}
theorem St.touch {s':Shared} (hs:St x ρ σ l s) (B:Addr->Prop)
  (hB:∀ b,B b->¬ l.F b/\¬ l.has b/\x.c.base.get? b=none/\∀ o,s.heap.get? b=some o->∃ vs,o.data=.fields vs)
  (keep:∀ b o,¬ B b->b∉x.S->s.heap.get? b=some o->s'.heap.get? b=some o)
  (slots:∀ b o,¬ B b->s.heap.get? b=some o->∃ sl,s'.heap.get? b=some {o with slots:=sl})
  (hg:s'.gens=s.gens) (ho:s'.os=s.os):St x ρ σ l s':=by
 obtain ⟨i,e,f,fo,g,os⟩:=hs;have nS:∀ b,b∈x.S->x.c.base.get? b=none:=fun b hb=>(f.mem hb).1;have kF:∀ a o,l.F a->s.heap.get? a=some o->s'.heap.get? a=some o:=fun a o q=>keep a o (fun z=>(hB a z).1 q) fun z=>(fo a z).1 q;have kH:∀ a o,l.has a->s.heap.get? a=some o->s'.heap.get? a=some o:=fun a o q=>keep a o (fun z=>(hB a z).2.1 q) fun z=>(fo a z).2 q;have la:cg s.heap l s'.heap l:=.of_off kF
 have nB:∀ b o,s.heap.get? b=some o->(∀ vs,o.data≠.fields vs)->¬ B b:=fun b o q n z=>by
  obtain ⟨vs,q2⟩:=(hB b z).2.2.2 o q;exact n vs q2
 refine ⟨⟨fun b o q=>keep b o (fun z=>aP (hB b z).2.2.1 q) (fun z=>aP (nS b z) q) (i.base b o q),i.len,fun a q=>?_,fun a q=>?_,i.mnew,i.live,i.inj,
  fun n o p h1 h2=>(i.objs n o p h1 h2).later la (fun ob=>kH _ ob ⟨n,p,h2,.inl rfl⟩) fun ob=>kH _ ob ⟨n,p,h2,.inr rfl⟩⟩,?_,f.of_keeps fun b o q n=>?_,fo,hg.trans g,ho.trans os⟩
 .obtain ⟨o,h⟩:=i.flt a q; exact ⟨o,kF a o q h⟩
 .obtain ⟨o,h⟩:=i.mlt a q; exact ⟨o,kH a o q h⟩
 .refine e.of_step la (fun a _ h1 _ _=>h1) (fun a _ _ h2 _ _=>h2) (fun a o q1 q2 q3 q=>slots a o (nB a o q ?_) q);rcases q3 with rfl | ⟨y,q3⟩
  .obtain ⟨m,⟨o2,es,ep,h1,h2,_⟩,_⟩:=e.loc;rw [q] at h1; cases h1;intro vs z; rw [h2] at z; cases z
  .obtain ⟨v,o2,h1,h2⟩:=e.cell y a q3;rw [q] at h1; cases h1;intro vs z; rw [h2] at z; cases z
 .obtain ⟨sl,h⟩:=slots b o (nB b o q n) q;exact ⟨_,h,rfl⟩
theorem bt.touch {h0 h':Heap} {l0:Lay} (st:bt x.c x.S x.W l0 h0 l s.heap) (hs:St x ρ σ l s) (B:Addr->Prop) (hB:∀ b,B b->h0.get? b=none)
  (keep:∀ b o,¬ B b->b∉x.S->s.heap.get? b=some o->h'.get? b=some o)
  (slots:∀ b o,¬ B b->s.heap.get? b=some o->∃ sl,h'.get? b=some {o with slots:=sl}):bt x.c x.S x.W l0 h0 l h':=by
 have nB:∀ a o,h0.get? a=some o->¬ B a:=fun a o q z=>aP (hB a z) q;refine ⟨⟨st.later.mu,st.later.F,fun a o q e=>keep a o (nB a o e) (fun z=>(hs.foff a z).1 (st.later.F a q)) (st.later.same a o q e)⟩,fun a o e=>?_,st.mu',st.F',fun a o h1 h2 h3 e=>keep a o (nB a o e) h3 (st.same a o h1 h2 h3 e),fun a o h1 h2 e=>?_⟩
 .obtain ⟨o',e'⟩:=st.there a o e;obtain ⟨sl,k⟩:=slots a o' (nB a o e) e';exact ⟨_,k⟩
 .obtain ⟨sl,e'⟩:=st.slots a o h1 h2 e;obtain ⟨sl',k⟩:=slots a _ (nB a o e) e';exact ⟨sl',k⟩
noncomputable abbrev ij (fr:Option Addr) (h0:Heap) (e X:Value) (l:Lay) (h:Heap):Prop:=XOb (fun ea vs=>XTb fr h0 ea vs l h) h0 e X l h
theorem ij.fly {fr:Option Addr} {h0 h:Heap} {e X:Value} {l:Lay} (q:ij fr h0 e X l h):nI fr h0 e X l h:=
 let ⟨ea,oe,vs,a0,b1,b2,b3,b4,b5,b6,b7,b8,b9⟩:=q
 ⟨ea,oe,vs,a0,b1,b2,b3,b4,b5,b6,b7,b8,.inr b9⟩
theorem ju {c h0:Heap} (hb0:∀ b o,c.get? b=some o->h0.get? b=some o) {b:Addr} (hb:h0.get? b=none):c.get? b=none:=by
 cases hq:c.get? b with
 | none=>rfl
 | some o'=>exact aP hb (hb0 b o' hq)
theorem St.field (hs:St x ρ σ l s) {h0:Heap} {l0:Lay} (st:bt x.c x.S x.W l0 h0 l s.heap) (hb0:∀ b o,x.c.base.get? b=some o->h0.get? b=some o) {T:Addr} {oT:Obj} {ts:Array Value} (i:Nat) (w:Value)
  (b3:h0.get? T=none) (b4:¬ l.F T) (b5:¬ l.has T) (b6:s.heap.get? T=some oT) (b7:oT.data=.fields ts):
  St x ρ σ l {s with heap:=s.heap.update T (Obj.mapFields (·.setIfInBounds i w))}/\bt x.c x.S x.W l0 h0 l (s.heap.update T (Obj.mapFields (·.setIfInBounds i w))):=by
 have keep:∀ b o,¬ b=T->b∉x.S->s.heap.get? b=some o->(s.heap.update T (Obj.mapFields (·.setIfInBounds i w))).get? b=some o:=fun b o hb _ q=>(Heap.get?_update_other _ _ (Ne.symm hb)).trans q;have slots:∀ b o,¬ b=T->s.heap.get? b=some o->∃ sl,(s.heap.update T (Obj.mapFields (·.setIfInBounds i w))).get? b=some {o with slots:=sl}:=fun b o hb q=>⟨o.slots,(Heap.get?_update_other _ _ (Ne.symm hb)).trans q⟩
 refine ⟨hs.touch (fun b=>b=T) (fun b hb=>?_) keep slots rfl rfl,st.touch hs (fun b=>b=T) (fun b hb=>hb▸b3) keep slots⟩;subst hb;exact ⟨b4,b5,ju hb0 b3,fun o q=>⟨ts,by rw [b6] at q; cases q; exact b7⟩⟩
theorem St.frameOf_at (hs:St x ρ σ l s) {L:Addr} (hf:x.env.frame=some L) {Q:Value->Shared->Prop} {E:Value->Shared->Prop} (k:∀ h',Heap.SlotsOnly x.S s.heap h'->Q (.ref L) {s with heap:=h'}):
  wpAny x.c.M x.A (PySem.frameOf x.env) Q E s:=by
 obtain ⟨f,rest,e1,e2,_⟩:=x.hfr0;unfold PySem.frameOf;refine wpAny_bind (wpAny_frameEnvs x.hfr ?_);have hdw:(x.fs.dropWhile fun y=>y.frame !=x.env.frame)=x.fs:=by rw [e1]; simp [List.dropWhile,e2]
 rw [hdw,e1];unfold frameObject;refine wpAny_bind (wpAny_bind (wpAny_readyFrames_fun (e1▸hs.ff) fun h₁ hs₁=>wpAny_pure ?_));rw [e2,hf];refine wpAny_pure (k h₁ ?_);unfold Ctx.S;rw [e1]; exact hs₁
theorem nI.entry (hs:St x ρ σ l s) {h0:Heap} {l0:Lay} (st:bt x.c x.S x.W l0 h0 l s.heap) (hb0:∀ b o,x.c.base.get? b=some o->h0.get? b=some o) {ea:Addr} {X head a0:Value} {oe:Obj} {vs:Array Value} {hadNext:Bool} {L:Addr}
  (hf:x.env.frame=some L) (a2:h0.get? ea=none) (a3:¬ l.F ea) (a4:¬ l.has ea) (a5:s.heap.get? ea=some oe) (a6:oe.cls=X) (a7:oe.data=.fields vs) (a8:vs[0]?=some a0) (hsz:1 < vs.size)
  {Q:Unit->Shared->Prop} {E:Value->Shared->Prop} (k:∀ s',St x ρ σ l s'->bt x.c x.S x.W l0 h0 l s'.heap->ij x.env.frame h0 (.ref ea) X l s'.heap->Q () s'):
  wpAny x.c.M x.A (do let a ← PySem.frameOf x.env; let pl ← entryPlaceOf L hadNext; let b ← EntryCells.newEntry head a .none (rawInt L) .none pl; setField (.ref ea) 1 b) Q E s:=by
 have heS:ea∉x.S:=fun hm=>by
  obtain ⟨_,o,ho,hnf⟩:=hs.ff.mem hm;rw [a5] at ho; cases ho; exact hnf vs a7
 refine wpAny_bind (hs.frameOf_at hf fun h₁ hs₁=>?_);refine wpAny_bind (wpAny_entryPlaceOf fun pl hpl=>?_);unfold EntryCells.newEntry newFields;refine wpAny_bind (wpAny_newObj_type ?_ (hpl.sizeOk5 _ _ _ _ _));generalize hT:({cls:=.type "traceback",data:=.fields ([head,.ref L,.none,rawInt L,.none]++(if pl.isEmpty then List.replicate 6 Value.none else pl)).toArray}:Obj)=oT;have hTd:oT.data=.fields ([head,.ref L,.none,rawInt L,.none]++(if pl.isEmpty then List.replicate 6 Value.none else pl)).toArray:=by rw [← hT]
 have hTf:oT.isFreed=false:=by rw [← hT]; rfl
 have he₁:h₁.get? ea=some oe:=(hs₁.2.1 ea heS).trans a5;have he₂:=Heap.get?_push_of_some (h:=h₁) oT he₁;have hd₃:=Obj.data_mapFields a7 (·.setIfInBounds 1 (Value.ref h₁.objs.size));have hTe:h₁.objs.size≠ea:=Nat.ne_of_gt (Heap.lt_size he₁);have sz:s.heap.get? h₁.objs.size=none:=Heap.get?_none_of_le (Nat.le_of_eq hs₁.1.symm)
 have kp:∀ b o,b≠ea->h₁.get? b=some o->((h₁.push oT).update ea (Obj.mapFields (·.setIfInBounds 1 (Value.ref h₁.objs.size)))).get? b=some o:=fun b o hb q=>by
  rw [Heap.get?_update_other _ _ (Ne.symm hb)]; exact Heap.get?_push_of_some _ q
 have keep:∀ b o,¬ b=ea->b∉x.S->s.heap.get? b=some o->((h₁.push oT).update ea (Obj.mapFields (·.setIfInBounds 1 (Value.ref h₁.objs.size)))).get? b=some o:=fun b o hb hS q=>kp b o hb ((hs₁.2.1 b hS).trans q)
 have slots:∀ b o,¬ b=ea->s.heap.get? b=some o->∃ sl,((h₁.push oT).update ea (Obj.mapFields (·.setIfInBounds 1 (Value.ref h₁.objs.size)))).get? b=some {o with slots:=sl}:=fun b o hb q=>by
  obtain ⟨sl,q⟩:=hs₁.2.2 b o q;exact ⟨sl,kp b _ hb q⟩
 refine wpAny_setField he₂ a7 hsz (k _ (hs.touch (fun b=>b=ea) (fun b hb=>?_) keep slots rfl rfl) (st.touch hs (fun b=>b=ea) (fun b hb=>hb▸a2) keep slots) ?_)
 .subst hb;exact ⟨a3,a4,ju hb0 a2,fun o q=>⟨vs,by rw [a5] at q; cases q; exact a7⟩⟩
 .refine ⟨ea,_,_,a0,rfl,a2,a3,a4,Heap.get?_update_self _ he₂ (Obj.isFreed_of_fields hd₃),(Obj.cls_mapFields ..).trans a6,hd₃,by rw [Array.getElem?_setIfInBounds_ne (by decide)]; exact a8,h₁.objs.size,oT,_,rawInt L,by simp [hsz],hTe,st.new sz,fun z=>?_,fun z=>?_,?_,hTd,?_,.inr ⟨L,hf,rfl⟩⟩
  .obtain ⟨o,q⟩:=hs.inv.flt _ z; exact aP sz q
  .obtain ⟨o,q⟩:=hs.inv.mlt _ z; exact aP sz q
  .rw [Heap.get?_update_other _ _ (Ne.symm hTe)]; exact Heap.get?_push_size _ hTf
  .first | (simp; done) | (rcases hpl with rfl | ⟨_,_,_,_,_,_,_,rfl⟩ <;> simp)
theorem nI.note (hs:St x ρ σ l s) {h0:Heap} {l0:Lay} (st:bt x.c x.S x.W l0 h0 l s.heap) (hb0:∀ b o,x.c.base.get? b=some o->h0.get? b=some o) {e X:Value} (f:nI x.env.frame h0 e X l s.heap)
  {Q:Unit->Shared->Prop} {E:Value->Shared->Prop} (k:∀ s',St x ρ σ l s'->bt x.c x.S x.W l0 h0 l s'.heap->ij x.env.frame h0 e X l s'.heap->Q () s'):wpAny x.c.M x.A (noteFrame e x.env) Q E s:=by
 obtain ⟨L,hf⟩:∃ L,x.env.frame=some L:=by
  obtain ⟨f,rest,_,e2,e3⟩:=x.hfr0;rw [← e2]; exact Option.isSome_iff_exists.mp e3
 obtain ⟨ea,oe,vs,a0,rfl,a2,a3,a4,a5,a6,a7,a8,r⟩:=f;unfold noteFrame;simp only [hf];rcases r with r | ⟨T,oT,ts,fl,b1,b2,b3,b4,b5,b6,b7,b8,b9⟩
 .refine wpAny_bind (wpAny_field a5 a7 r ?_);rw [if_neg (by decide)];exact nI.entry hs st hb0 hf a2 a3 a4 a5 a6 a7 a8 (Array.getElem?_eq_some_iff.mp r).1 (fun s' k1 k2 k3=>k s' k1 k2 k3)
 .refine wpAny_bind (wpAny_field a5 a7 b1 ?_);rw [if_pos (show (Value.ref T !=Value.none)=true from by simp)];refine wpAny_bind (wpAny_field b6 b7 b8 ?_);rcases b9 with rfl | ⟨L',e1,rfl⟩
  .rw [if_neg (show ¬ ((Value.none==rawInt L)=true) from by simp [rawInt])];obtain ⟨k1,k2⟩:=hs.field st hb0 3 Value.none b3 b4 b5 b6 b7;exact wpAny_bind (wpAny_setField b6 b7 (Array.getElem?_eq_some_iff.mp b8).1 (nI.entry k1 k2 hb0 hf a2 a3 a4 ((Heap.get?_update_other _ _ b2).trans a5) a6 a7 a8 (Array.getElem?_eq_some_iff.mp b1).1 k))
  .cases hf.symm.trans e1;rw [if_pos (show (rawInt L==rawInt L)=true from by simp)];exact wpAny_pure (k s hs st ⟨ea,oe,vs,a0,rfl,a2,a3,a4,a5,a6,a7,a8,T,oT,ts,_,b1,b2,b3,b4,b5,b6,b7,b8,.inr ⟨L,hf,rfl⟩⟩)
theorem ij.flight (hs:St x ρ σ l s) {h0:Heap} {l0:Lay} (st:bt x.c x.S x.W l0 h0 l s.heap) (hb0:∀ b o,x.c.base.get? b=some o->h0.get? b=some o) {e X:Value} {fr:Option Addr} (f:ij fr h0 e X l s.heap) (to:Option Addr)
  {M:Model} {A:Around} {Q:Unit->Shared->Prop} {E:Value->Shared->Prop} (k:∀ s',St x ρ σ l s'->bt x.c x.S x.W l0 h0 l s'.heap->ij to h0 e X l s'.heap->Q () s'):wpAny M A (setFlight e to) Q E s:=by
 obtain ⟨ea,oe,vs,a0,rfl,a2,a3,a4,a5,a6,a7,a8,T,oT,ts,fl,b1,b2,b3,b4,b5,b6,b7,b8,b9⟩:=f;unfold setFlight;refine wpAny_bind (wpAny_field a5 a7 b1 ?_);rw [if_pos (show (Value.ref T !=Value.none)=true from by simp)];have hsz:=(Array.getElem?_eq_some_iff.mp b8).1;obtain ⟨k1,k2⟩:=hs.field st hb0 3 (to.elim Value.none fun f=>rawInt f) b3 b4 b5 b6 b7;refine wpAny_setField b6 b7 hsz (k _ k1 k2 ⟨ea,oe,vs,a0,rfl,a2,a3,a4,(Heap.get?_update_other _ _ b2).trans a5,a6,a7,a8,T,_,_,_,b1,b2,b3,b4,b5,Heap.get?_update_self _ b6 (Obj.isFreed_of_fields (Obj.data_mapFields b7 _)),Obj.data_mapFields b7 _,by rw [Array.getElem?_setIfInBounds_self_of_lt hsz],?_⟩);cases to with
 | none=>exact .inl rfl
 | some L=>exact .inr ⟨L,rfl,rfl⟩
theorem ij.cameBack (hs:St x ρ σ l s) {h0:Heap} {l0:Lay} (st:bt x.c x.S x.W l0 h0 l s.heap) (hb0:∀ b o,x.c.base.get? b=some o->h0.get? b=some o) {e X:Value} {fr:Option Addr} (f:ij fr h0 e X l s.heap)
  {M:Model} {A:Around} {E:Value->Shared->Prop} (k:∀ s',St x ρ σ l s'->bt x.c x.S x.W l0 h0 l s'.heap->ij x.env.frame h0 e X l s'.heap->E e s'):cameBackBy M A x.env E e s:=by
 unfold cameBackBy;obtain ⟨ea,oe,vs,a0,rfl,a2,a3,a4,a5,a6,a7,a8,T,oT,ts,fl,b1,rb⟩:=id f;refine wpAny_bind (wpAny_field a5 a7 b1 ?_);rw [if_neg (show ¬ ((Value.ref T==Value.none)=true) from Bool.false_ne_true)];exact ij.flight hs st hb0 f _ k
end
inductive aj where
 | next | brk | cont
 | ret (d:D)
noncomputable def MP.flow:Flow->aj->MP
 | .next,.next=>.tt
 | .brk,.brk=>.tt
 | .cont,.cont=>.tt
 | .ret v,.ret d=>.rep v d
 | _,_=>.fact False
noncomputable def a9 (x:Ctx) (e:Expr) (f:AM D):Prop:=∀ P,Sim x P MP.rep (eval e x.env) f
noncomputable def oW (x:Ctx) (e:Expr) (f:AM Bool):Prop:=∀ P,Sim x P MP.eq (isTrue e x.env (eval e x.env)) f
noncomputable def nZ (x:Ctx) (es:List Expr) (f:AM (List D)):Prop:=∀ P pos,Sim x P MP.reps (spliced (backTo pos (starEach es x.env))) f
noncomputable def iJ (x:Ctx) (st:Stmt) (f:AM aj):Prop:=∀ P,Sim x P MP.flow (exec st x.env) f
noncomputable def kQ (x:Ctx) (sts:List Stmt) (f:AM aj):Prop:=∀ P,Sim x P MP.flow (execs sts x.env) f
noncomputable def j8 (x:Ctx) (t:Expr) (g:D->AM Unit):Prop:=∀ (P:MP) (v:Value) (d:D),(∀ h l,P.p h l->Rep h l v d)->Sim x P (fun _ _=>MP.tt) (assign t x.env v) (g d)
noncomputable def ak (f g:AM aj):AM aj:=f>>=fun fl=>match fl with
 | .next=>g
 | r=>pure r
noncomputable def ifA (b:AM Bool) (f g:AM aj):AM aj:=b>>=fun t=>if t=true then f else g
noncomputable def ft (f:AM D):AM aj:=(f>>=ib)>>=fun d=>pure (.ret d)
noncomputable def cv (f:AM D):AM aj:=f>>=fun _=>pure .next
noncomputable def bG (v:String) (f:AM D):AM aj:=f>>=fun d=>aQ v d>>=fun _=>pure .next
noncomputable def lb (b:AM Bool):AM aj:=b>>=fun t=>if t=true then pure .next else AM.fail
noncomputable def tL:List (D->AM Unit)->D->AM Unit
 | [],_=>pure ()
 | [g],d=>g d
 | g::gs,d=>g d>>=fun _=>tL gs d
noncomputable def bF (f:AM D) (gs:List (D->AM Unit)):AM aj:=f>>=fun d=>tL gs d>>=fun _=>pure .next
noncomputable def ur:List (D->AM Unit)->List D->AM Unit
 | g::gs,d::ds=>g d>>=fun _=>ur gs ds
 | _,_=>pure ()
noncomputable def x7 (σ:List O) (d:D) (n:Nat):Option (List D):=(nA σ d).bind fun ds=>if ds.length=n then some ds else none
noncomputable def ma (n:Nat) (d:D):AM (List D):=eA fun σ=>x7 σ d n
noncomputable def qq (gs:List (D->AM Unit)) (d:D):AM Unit:=ma gs.length d>>=fun ds=>ur gs ds
noncomputable def ql (f:AM D) (vs:List String):AM aj:=f>>=fun d=>ma vs.length d>>=fun ds=>ur (vs.reverse.map aQ) ds.reverse>>=fun _=>pure .next
noncomputable def O.list?:O->Option (List D)
 | .list ds=>some ds
 | _=>none
noncomputable def O.dict?:O->Option (Nat×List (KK×D))
 | .dict ep kvs=>some (ep,kvs)
 | _=>none
theorem O.list?_some {o:O} {ds:List D} (e:o.list?=some ds):o=.list ds:=by
 cases o with
 | list _=>cases e; rfl
 | _=>cases e
theorem O.dict?_some {o:O} {q:Nat×List (KK×D)} (e:o.dict?=some q):o=.dict q.1 q.2:=by
 cases o with
 | dict _ _=>cases e; rfl
 | _=>cases e
noncomputable def rG {β:Type} (f:O->Option (O×β)) (d:D):AM β:=fun st=>(d.obj?.bind fun n=>(st.σ[n]?.bind f).map fun q=>(q.2,st.σ.set n q.1)).map fun q=>(.ok q.1,⟨st.ρ,q.2⟩)
noncomputable def Dd (ds:List D) (k:Int) (v:D):Option O:=if 0<=k/\k.toNat < ds.length/\ds.length<=ar then some (.list (ds.set k.toNat v)) else none
noncomputable def ir (ep:Nat) (kvs:List (KK×D)) (k:KK) (v:D):Option O:=if kvs.length<=ar then some (.dict (epK kvs k ep) (eg kvs k v)) else none
noncomputable def GE (o:O) (i v:D):Option O:=match o.list? with
 | some ds=>i.int?.bind fun k=>Dd ds k v
 | none=>o.dict?.bind fun q=>(ic i).bind fun k=>ir q.1 q.2 k v
noncomputable def kN (o i v:D):AM Unit:=rG (fun ob=>(GE ob i v).map fun o'=>(o',())) o
noncomputable def gR (o i:AM D) (v:D):AM Unit:=o>>=fun a=>i>>=fun b=>kN a b v
noncomputable def B5:Operator->Int->Int->Option Int
 | .Add,i,j=>some (i+j)
 | .Sub,i,j=>some (i - j)
 | _,_,_=>none
noncomputable def vD (op:Operator) (a b:D):AM D:=eA fun _=>a.int?.bind fun i=>b.int?.bind fun j=>(B5 op i j).map fun k=>.py (.int k)
noncomputable def mH (v:String) (op:Operator) (f:AM D):AM aj:=ad v>>=fun old=>f>>=fun d=>vD op old d>>=fun r=>aQ v r>>=fun _=>pure .next
section
variable {x:Ctx} {P:MP}
theorem am:kQ x [] (pure .next):=fun P=>Sim.of_eq (t':=pure .next) rfl (Sim.pure fun _ _ _=>trivial)
theorem af {st:Stmt} {rest:List Stmt} {f g:AM aj} (h1:iJ x st f) (h2:kQ x rest g):kQ x (st::rest) (ak f g):=fun P=>by
 refine Sim.of_eq (t':=exec st x.env>>=fun fl=>match fl with | .next=>execs rest x.env | f=>pure f) rfl ?_;refine (h1 P).bind fun a b=>?_;cases a <;> cases b
 case next.next=>exact h2 _
 case brk.brk=>exact Sim.pure fun _ _ _=>trivial
 case cont.cont=>exact Sim.pure fun _ _ _=>trivial
 case ret.ret=>exact Sim.pure fun _ _ q=>q.2
 all_goals exact fun ρ σ l s r st' e hs hp=>hp.2.elim
theorem jS {sts:List Stmt}:kQ x sts AM.fail:=fun _=>Sim.fail
theorem cR {test:Expr} {body orelse:List Stmt} {pos:Pos} {b:AM Bool} {f g:AM aj} (ht:oW x test b) (h1:kQ x body f) (h2:kQ x orelse g):iJ x (.If test body orelse pos) (ifA b f g):=fun P=>by
 refine Sim.of_eq (t':=standAt pos>>=fun _=>isTrue test x.env (eval test x.env)>>=fun t=>if t=true then execs body x.env else execs orelse x.env) rfl (Sim.at ?_);exact (ht P).bindEq fun c=>Sim.ite (h1 _) (h2 _)
theorem br {e:Expr} {pos:Pos} {f:AM D} (h:a9 x e f):iJ x (.Return (some e) pos) (ft f):=fun P=>by
 refine Sim.of_eq (t':=standAt pos>>=fun _=>eval e x.env>>=fun v=>pure (.ret v)) rfl (Sim.at ?_);exact (Sim.freeze (h P)).bind fun v d=>Sim.pure fun _ _ q=>q.2
theorem qd {pos:Pos}:iJ x (.Break pos) (pure .brk):=fun P=>Sim.of_eq (t':=standAt pos>>=fun _=>pure .brk) rfl (Sim.at (Sim.pure fun _ _ _=>trivial))
theorem uP {pos:Pos}:iJ x (.Continue pos) (pure .cont):=fun P=>Sim.of_eq (t':=standAt pos>>=fun _=>pure .cont) rfl (Sim.at (Sim.pure fun _ _ _=>trivial))
theorem w9 (x:Ctx):interactive x.env=false:=by unfold interactive; rw [x.hfn]; rfl
theorem bZ {e:Expr} {pos:Pos} {f:AM D} (h:a9 x e f) (hs:swapsWith e none pos.line x.env=pure false):iJ x (.Expr e pos) (cv f):=fun P=>by
 intro ρ σ l s r st' ee hs' hp;have e2:AM.andThen f (fun _=>AM.ret .next) ⟨ρ,σ⟩=some (r,st'):=ee;unfold AM.andThen at e2;cases hf:f ⟨ρ,σ⟩ with
 | none=>rw [hf] at e2; cases e2
 | some q=>
  obtain ⟨r1,st1⟩:=q;rw [hf] at e2;refine wpAny_Expr_any (wpAny_mono (h P ρ σ l s r1 st1 hf hs' hp) (fun v s1 q=>?_) (fun ev s1 q=>?_)) (w9 x) hs
  .obtain ⟨d,l1,rfl,q2,q3,q4⟩:=q;cases e2;exact ⟨_,l1,rfl,q2,q3,trivial⟩
  .obtain ⟨X,l1,rfl,q2,q3,q4⟩:=q;cases e2;exact ⟨X,l1,rfl,q2,q3,q4⟩
theorem jx {test:Expr} {msg:Option Expr} {pos:Pos} {b:AM Bool} (ht:oW x test b):iJ x (.Assert test msg pos) (lb b):=fun P=>by
 rw [arm_exec_Assert];refine Sim.at ?_;refine (ht P).bindEq fun c=>?_;cases c with
 | true=>exact Sim.pure fun _ _ _=>trivial
 | false=>exact Sim.fail
theorem jK {v:String} {val:Value} {d:D} (hw:Str.o v∈x.wr) (hr:∀ h l,P.p h l->Rep h l val d):Sim x P (fun _ _=>MP.tt) (bindName x.env (Str.o v) val) (aQ v d):=
 fun ρ σ l s r st' ee hs' hp=>wpAny_bindName (su hw hr ρ σ l s r st' ee hs' hp)
theorem aL {v:String} {e:Expr} {pos' pos:Pos} {f:AM D} (h:a9 x e f) (hw:Str.o v∈x.wr) (hs:swapsWith e (some (.Name (Str.o v) pos')) pos.line x.env=pure false):iJ x (.Assign [.Name (Str.o v) pos'] e pos) (bG v f):=fun P=>by
 rw [exec_Assign_Name x.env (Str.o v) pos' e pos hs];refine Sim.at ((h P).bind fun val d=>Sim.at ?_);exact Sim.bind (jK hw fun h l q=>q.2) fun _ _=>Sim.pure fun _ _ _=>trivial
theorem az {v:String} {pos:Pos} (hw:Str.o v∈x.wr):j8 x (.Name (Str.o v) pos) (aQ v):=fun P val d hr=>g0 hw hr
theorem qw {v:Value} {d:D} {n:Nat} (hq:x.quiet=true) (hr:∀ h l,P.p h l->Rep h l v d):Sim x P MP.reps (unpackItems v n none) (ma n d):=by
 intro ρ σ l s r st' e hs hp;obtain ⟨ds,ho,e⟩:=Option.map_eq_some_iff.mp e;cases e;obtain ⟨ds',e1,e2⟩:=Option.bind_eq_some_iff.mp ho;obtain ⟨hn,rfl⟩:=bb e2;obtain ⟨a,vs,rfl,hk,hv,z⟩:=mM hs.inv (hr _ _ hp) e1
 have fin:∀ {h':Heap},Heap.ExtBut s.heap.objs.size s.heap h'->OkQ x MP.reps l s.heap (Except.ok ds':Except Value (List D)) ⟨ρ,σ⟩ vs.toList {s with heap:=h'}:=fun hx=>by
  obtain ⟨k1,k2⟩:=hs.grow (s':={s with heap:=‹Heap›}) (fun b o q=>hx b o (Nat.ne_of_lt (Heap.lt_size q)) q) rfl rfl;exact ⟨ds',l,rfl,k1,k2,hv.later k2.later⟩
 rw [← hn,← z];rcases hk with hk | hk
 .exact wpAny_unpackItems_tuple (x.hquiet hq) hk fun h' hx=>fin hx
 .exact kun_itemsOf (x.hquiet hq) hk fun h' hx=>fin hx
inductive aT (x:Ctx):List Expr->List (D->AM Unit)->Prop
 | nil:aT x [] []
 | cons {t rest g gs}:assignEach (t::rest) x.env=(false,assign t x.env)::assignEach rest x.env->j8 x t g->aT x rest gs->aT x (t::rest) (g::gs)
theorem aT.each {ts:List Expr} {gs:List (D->AM Unit)} (h:aT x ts gs):∀ (P:MP) (vs:List Value) (ds:List D),(∀ h l,P.p h l->au h l vs ds)->vs.length=ds.length->
  Sim x P (fun _ _=>MP.tt) (assignInOrder ((assignEach ts x.env).map (·.2)) vs) (ur gs ds):=by
 induction h with
 | nil=>intro P vs ds _ _; exact Sim.of_eq (t':=pure ()) rfl (Sim.pure fun _ _ _=>trivial)
 | cons he ha hr ih=>
  intro P vs ds hp hl;rw [he];cases vs with
  | nil=>cases ds with
   | nil=>exact Sim.of_eq (t':=pure ()) rfl (Sim.pure fun _ _ _=>trivial)
   | cons _ _=>cases hl
  | cons v vs=>
   cases ds with
   | nil=>cases hl
   | cons d ds=>
    refine Sim.bind (R:=fun _ _=>MP.tt) (Sim.holding (ha P v d fun h l q=>?_)) fun _ _=>ih _ vs ds (fun h l q=>?_) (by simpa using hl)
    .cases hp h l q with | cons r _=>exact r
    .cases hp h l q.1 with | cons _ r=>exact r
theorem aT.length {ts:List Expr} {gs:List (D->AM Unit)} (h:aT x ts gs):((assignEach ts x.env).length=gs.length)/\(assignEach ts x.env).findIdx? (·.1)=none:=by
 induction h with
 | nil=>exact ⟨rfl,rfl⟩
 | cons he _ _ ih=>rw [he]; exact ⟨by simp [ih.1],by simp [List.findIdx?_cons,ih.2]⟩
theorem q9 {ts:List Expr} {gs:List (D->AM Unit)} (hq:x.quiet=true) (h:aT x ts gs) {v:Value} {d:D} (hr:∀ h l,P.p h l->Rep h l v d):Sim x P (fun _ _=>MP.tt) (unpack v (assignEach ts x.env)) (qq gs d):=by
 obtain ⟨e1,e2⟩:=h.length;unfold unpack;rw [e1,e2];refine Sim.bind ((qw hq hr).holding) fun vs ds=>?_;intro ρ σ l s r st' e hs hp;exact h.each (P.and (MP.reps vs ds)) vs ds (fun h l q=>q.2) (au.length hp.2) ρ σ l s r st' e hs hp
theorem sd {ts:List Expr} {k:Nat} {pos:Pos} {gs:List (D->AM Unit)} (hq:x.quiet=true) (h:aT x ts gs):j8 x (.Tuple ts k pos) (qq gs):=fun P v d hr=>by
 rw [assign_Tuple]; exact Sim.at (q9 hq h hr)
theorem aT.stores {ts:List Expr} {gs:List (D->AM Unit)} (h:aT x ts gs):∀ (P:MP) (v:Value) (d:D),(∀ h l,P.p h l->Rep h l v d)->
  Sim x P (fun _ _=>MP.tt) (assignAll v ((assignEach ts x.env).map (·.2))) (tL gs d):=by
 induction h with
 | nil=>intro P v d _; exact Sim.of_eq (t':=pure ()) rfl (Sim.pure fun _ _ _=>trivial)
 | cons he ha hr ih=>
  intro P v d hp;rw [he];cases hr with
  | nil=>exact ha P v d hp
  | cons he2 ha2 hr2=>
   rw [he2] at ih ⊢;refine Sim.bind (R:=fun _ _=>MP.tt) (Sim.holding (ha P v d hp)) fun _ _=>ih _ v d fun h l q=>hp h l q.1
theorem cn {targets:List Expr} {value:Expr} {pos:Pos} {f:AM D} {gs:List (D->AM Unit)} (h:a9 x value f) (ha:aT x targets gs) (hs:swapsWithSole targets value pos.line x.env=pure false)
  (hw:swappedStores targets value x.env=pure none):iJ x (.Assign targets value pos) (bF f gs):=fun P=>by
 rw [exec_Assign_arm,hs];refine Sim.at ?_;refine Sim.of_eq (t':=eval value x.env>>=fun v=>swappedStores targets value x.env>>=fun sw=>assignStores x.env v sw ((assignEach targets x.env).map (·.2))) rfl ?_;rw [hw];refine (h P).bind fun v d=>?_;refine Sim.of_eq (t':=assignAll v ((assignEach targets x.env).map (·.2))>>=fun _=>pure .next) rfl ?_;exact Sim.bind (R:=fun _ _=>MP.tt) (ha.stores _ v d fun h l q=>q.2) fun _ _=>Sim.pure fun _ _ _=>trivial
theorem t6:∀ (vs:List String),(∀ v∈vs,Str.o v∈x.wr)->∀ (P:MP) (us:List Value) (ds:List D),(∀ h l,P.p h l->au h l us ds)->us.length=ds.length->
  Sim x P (fun _ _=>MP.tt) (assignInOrder ((vs.map Str.o).map fun n=>bindName x.env n) us) (ur (vs.map aQ) ds):=by
 intro vs
 induction vs with
 | nil=>exact fun _ P us ds _ _=>Sim.of_eq (t':=pure ()) (by cases us <;> rfl) (Sim.pure fun _ _ _=>trivial)
 | cons v vs ih=>
  intro hv P us ds hp hl;cases us with
  | nil=>cases ds with
   | nil=>exact Sim.of_eq (t':=pure ()) rfl (Sim.pure fun _ _ _=>trivial)
   | cons _ _=>cases hl
  | cons u us=>
   cases ds with
   | nil=>cases hl
   | cons d ds=>
    refine Sim.bind (Sim.holding (jK (hv v List.mem_cons_self) (fun h l q=>?_))) fun _ _=>
     ih (fun w hw=>hv w (List.mem_cons_of_mem _ hw)) _ us ds (fun h l q=>?_) (Nat.succ.inj hl)
    .cases hp h l q with | cons r _=>exact r
    .cases hp h l q.1 with | cons _ r=>exact r
theorem au.reverse {h:Heap} {l:Lay}:∀ {vs:List Value} {ds:List D},au h l vs ds->au h l vs.reverse ds.reverse:=
 au.ind (C:=fun vs ds=>au h l vs.reverse ds.reverse) .nil fun r _ ih=>by
  rw [List.reverse_cons,List.reverse_cons];exact au.append (.cons r .nil) ih
theorem mo {targets:List Expr} {value:Expr} {pos:Pos} {f:AM D} (vs:List String) (hq:x.quiet=true) (h:a9 x value f) (hv:∀ v∈vs,Str.o v∈x.wr) (hs:swapsWithSole targets value pos.line x.env=pure false)
  (hw:swappedStores targets value x.env=pure (some (vs.map Str.o))):iJ x (.Assign targets value pos) (ql f vs):=fun P=>by
 rw [exec_Assign_arm,hs];refine Sim.at ?_;refine Sim.of_eq (t':=eval value x.env>>=fun v=>swappedStores targets value x.env>>=fun sw=>assignStores x.env v sw ((assignEach targets x.env).map (·.2))) rfl ?_;rw [hw];refine (h P).bind fun v d=>?_;refine Sim.of_eq (t':=PySem.rule "assign.swapped-stores" >>=fun _=>unpackItems v (vs.map Str.o).length none>>=fun items=>assignInOrder ((vs.map Str.o).reverse.map fun n=>bindName x.env n) items.reverse>>=fun _=>pure .next) rfl (Sim.rule ?_);rw [List.length_map];refine Sim.bind (qw hq fun h l q=>q.2) fun us ds=>?_;rw [← List.map_reverse];refine Sim.bind (R:=fun _ _=>MP.tt) ?_ fun _ _=>Sim.pure fun _ _ _=>trivial;intro ρ σ l s r st' e hs hp;exact t6 vs.reverse (fun v q=>hv v (List.mem_reverse.mp q)) ((P.and (MP.rep v d)).and (MP.reps us ds)) us.reverse ds.reverse (fun h l q=>au.reverse q.2) (by simpa using au.length hp.2) ρ σ l s r st' e hs hp
theorem PlainList.update {h:Heap} {a:Addr} {items:Array Value} (q:h.PlainList a items) (f:Array Value->Array Value):(h.update a (Obj.mapSeq f)).PlainList a (f items):=by
 obtain ⟨n,ho⟩:=q;exact ⟨_,PySem.IsL.update ho f⟩
theorem rz {prog:Program} {w:World} {A:Around} {E:Value->Shared->Prop} {s:Shared} {l:Addr} {items:Array Value} {k:Int} {t:Tok} {v:Value} {Q:Unit->Shared->Prop} (hl:s.heap.PlainList l items)
  (h0:0<=k) (hfit:k < 2 ^ 63) (hn:k < items.size)
  (hQ:∀ h',h'.PlainList l (items.setIfInBounds k.toNat v)->Heap.SameBut l s.heap h'->Q () {s with heap:=h'}):
  wpAny (model prog w) A (setItem (.ref l) (.int k t) v) Q E s:=by
 have hli:=hl.isList;obtain ⟨ne,ho⟩:=id hl;unfold setItem;refine wpAny_holding (wpAny_bind (wpAny_sequenceKey hli.typeIs (by decide) ?_));refine wpAny_bind (wpAny_callSpecial?_slot (name:=Str.ofString "__setitem__") hli.typeIs slot_list_setitem
  (wpAny_call_entry slot_list_setitem hli.typeIs entry_list_setitem ?_ (args_list_setitem _ _ _)))
 show wpAny _ _ (Builtin.List.listSubscript? (.int k t)>>=_) _ _ s;refine wpAny_bind (wpAny_listSubscript_int (fitsIndex_of h0 hfit) ?_);clear hfit;obtain ⟨j,rfl⟩:=Int.eq_ofNat_of_zero_le h0;have hj:j < items.size:=by omega
 have hx':items[j]?=some items[j]:=Array.getElem?_eq_getElem hj;show wpAny _ _ ((seqItemAt l j>>=fun r=>pure (r.map (j,·)))>>=_) _ _ s;refine wpAny_bind (wpAny_bind (wpAny_seqItemAt ho rfl (wpAny_pure ?_)));rw [hx'];show wpAny _ _ (setSeqItemAt l j v>>=_) _ _ s;have hfin:=PlainList.update hl (·.setIfInBounds j v);refine wpAny_bind (wpAny_setSeqItemAt ho rfl ?_)
 first
  | exact wpAny_bind (wpAny_pure (wpAny_pure ⟨.none,rfl,wpAny_pure (hQ _ hfin (Heap.SameBut.update ..))⟩))
  | exact wpAny_pure ⟨.none,rfl,wpAny_pure (hQ _ hfin (Heap.SameBut.update ..))⟩
theorem yH {β:Type} {f:O->Option (O×β)} {d:D} {ρ:aq} {σ:List O} {r:Except Value β} {st':ASt} (e:rG f d ⟨ρ,σ⟩=some (r,st')):∃ n o q,d=.obj n/\σ[n]?=some o/\f o=some q/\r=.ok q.2/\st'=⟨ρ,σ.set n q.1⟩:=by
 obtain ⟨_,h,e⟩:=Option.map_eq_some_iff.mp e;obtain ⟨n,hn,h⟩:=Option.bind_eq_some_iff.mp h;obtain ⟨q,h2,rfl⟩:=Option.map_eq_some_iff.mp h;obtain ⟨o,ho,h3⟩:=Option.bind_eq_some_iff.mp h2;cases e;exact ⟨n,o,q,dM hn,ho,h3,rfl,rfl⟩
theorem jR {β:Type} {f:O->Option (O×β)} {n:Nat} {ρ:aq} {σ:List O} {o:O} {q:O×β} (h:σ[n]?=some o) (e:f o=some q):rG f (.obj n) ⟨ρ,σ⟩=some (.ok q.2,⟨ρ,σ.set n q.1⟩):=by
 show ((σ[n]?.bind f).map _).map _=_;rw [h,Option.bind_some,e];rfl
theorem Sim.upd {α β:Type} {f:O->Option (O×β)} {R:α->β->MP} {t:Sem α} {vo:Value} {o:D} (ho:∀ h l,P.p h l->Rep h l vo o) (hl:∀ ob q,f ob=some q->ob.live=true)
  (k:∀ {ρ σ l s p ob q},St x ρ σ l s->P.p s.heap l->vo=.ref p.1->kx x.c s.heap l p ob->(∃ ob,s.heap.get? p.2=some ob)->f ob=some q->∀ {Q:α->Shared->Prop} {E:Value->Shared->Prop},
   (∀ a h' tk,Wrt p s.heap h'->(cg s.heap l h' l->kx x.c h' l p q.1/\(R a q.2).p h' l)->Q a {s with heap:=h',toks:=tk})->wpAny x.c.M x.A t Q E s):Sim x P R t (rG f o):=by
 intro ρ σ l s r st' e hs hp;obtain ⟨n,ob,q,rfl,hn,hf,rfl,rfl⟩:=yH e;obtain ⟨p,rfl,hm⟩:=(ho _ _ hp).obj_inv;refine k hs hp rfl (hs.inv.at hn hm) (hs.inv.mlt _ ⟨n,p,hm,.inr rfl⟩) hf fun a h' tk w g=>?_;obtain ⟨f1,f2⟩:=hs.inv.live n ob p hn (hl _ _ hf) hm;obtain ⟨g1,g2⟩:=g (.of_off fun a ob q=>w.keep a ob (fun z=>f1 (z▸q)) fun z=>f2 (z▸q));obtain ⟨q1,q2⟩:=hs.write (s':={s with heap:=h',toks:=tk}) hn (hl _ _ hf) hm w rfl rfl g1;exact ⟨q.2,l,rfl,q1,q2,g2⟩
theorem vy {vo vi vv:Value} {o i v:D} (ho:∀ h l,P.p h l->Rep h l vo o) (hi:∀ h l,P.p h l->Rep h l vi i) (hv:∀ h l,P.p h l->Rep h l vv v):Sim x P (fun _ _=>MP.tt) (setItem vo vi vv) (kN o i v):=
 Sim.upd ho (fun ob q e=>by cases ob <;> first | rfl | cases e) fun {ρ σ l s p ob q} hs hp e r h2 hf {Q E} k=>by
  subst e;have ri:=hi _ _ hp;have rv:=hv _ _ hp;obtain ⟨o',g,rfl⟩:=Option.map_eq_some_iff.mp hf;unfold GE at g;cases h1:ob.list? with
  | some ds=>
   rw [h1] at g;obtain rfl:=O.list?_some h1;obtain ⟨j,hj,g2⟩:=Option.bind_eq_some_iff.mp g;obtain ⟨hk,rfl⟩:=bb g2;obtain ⟨t,rfl⟩:=ri.int? hj;obtain ⟨vs,hl,hr⟩:=r;have z:=hr.length;rw [Array.length_toList] at z;refine rz hl hk.1 ?_ ?_ fun h' hl' hsb=>k () h' _ (.one hsb (let ⟨_,q⟩:=hl'; ⟨_,q⟩) h2) fun la=>⟨⟨_,hl',?_⟩,trivial⟩
   .have:j.toNat < 1000000:=Nat.lt_of_lt_of_le hk.2.1 hk.2.2;omega
   .omega
   .rw [Array.toList_setIfInBounds]; exact (hr.later la).set (rv.later la) _
  | none=>
   rw [h1] at g;obtain ⟨q,hd,g2⟩:=Option.bind_eq_some_iff.mp g;obtain ⟨j,hj,g3⟩:=Option.bind_eq_some_iff.mp g2;obtain ⟨hz,rfl⟩:=bb g3;obtain rfl:=O.dict?_some hd;obtain ⟨vs,hl,hr⟩:=r;refine wz (jY ri hj).1 hl (fun h' hd' hsb=>k () h' _ (.one hsb (let ⟨_,_,q,_⟩:=hd'; ⟨_,q⟩) h2) fun la=>⟨⟨_,?_,(hr.later la).store (rv.later la)⟩,trivial⟩) (by rw [hr.length]; exact bD hz);rw [hr.any j] at hd'; exact hd'
theorem lj {o i:Expr} {pos:Pos} {f g:AM D} (h1:a9 x o f) (h2:a9 x i g):j8 x (.Subscript o i pos) (gR f g):=fun P v d hr=>by
 rw [assign_Subscript];refine ((h1 _).holding).bind fun ov od=>((h2 _).holding).bind fun iv id=>Sim.at ?_;intro ρ σ l s r st' e hs hp;refine wpAny_bind (wpAny_holding (wpAny_mono (vy (P:=(P.and (MP.rep ov od)).and (MP.rep iv id)) (fun h l q=>q.1.2) (fun h l q=>q.2) (fun h l q=>hr h l q.1.1) ρ σ l s r st' e hs hp) (fun a s1 q=>?_) fun _ _ q=>q));exact wpAny_release q
theorem n9 {op:Operator} {u v:Value} {a b:D} (h1:∀ h l,P.p h l->Rep h l u a) (h2:∀ h l,P.p h l->Rep h l v b):Sim x P MP.rep (inplaceOp op u v) (vD op a b):=by
 intro ρ σ l s r st' e hs hp;obtain ⟨_,h,e⟩:=Option.map_eq_some_iff.mp e;obtain ⟨i,hi,h⟩:=Option.bind_eq_some_iff.mp h;obtain ⟨j,hj,h⟩:=Option.bind_eq_some_iff.mp h;obtain ⟨k,hk,rfl⟩:=Option.map_eq_some_iff.mp h;cases e;obtain ⟨t,rfl⟩:=(h1 _ _ hp).int? hi;obtain ⟨u,rfl⟩:=(h2 _ _ hp).int? hj;have fin:∀ u,OkQ x MP.rep l s.heap (.ok (.py (.int k)):Except Value D) ⟨ρ,σ⟩ (.int k u) {s with toks:=s.toks+1}:=fun u=>⟨_,l,rfl,hs.toks _,.refl ..,.py (.int _ _)⟩
 cases op with
 | Add=>cases hk; exact PySem.AutoIntOps.iadd_0 (fin _)
 | Sub=>cases hk; exact PySem.AutoIntOps.isub_0 (fin _)
 | _=>cases hk
theorem kh {v:String} {npos pos:Pos} {op:Operator} {e:Expr} {f:AM D} (h:a9 x e f) (hw:Str.o v∈x.wr):iJ x (.AugAssign (.Name (Str.o v) npos) op e pos) (mH v op f):=fun P=>by
 rw [exec_AugAssign_Name];exact Sim.at (Sim.bind mS fun old od=>((h _).holding).bind fun val d=>Sim.at (Sim.bind (Sim.operate (n9 (fun _ _ q=>q.1.2) fun _ _ q=>q.2)) fun nv nd=>Sim.at (Sim.bind (jK hw fun h l q=>q.2) fun _ _=>Sim.pure fun _ _ _=>trivial)))
end
noncomputable abbrev Chk:=Nat->AM Unit
noncomputable def sL (rest:AM aj):aj->AM aj
 | .next=>rest
 | .cont=>rest
 | .brk=>pure .next
 | .ret v=>pure (.ret v)
noncomputable def yT (chk:Chk):Nat->List D->(D->AM aj)->AM aj->AM aj
 | k,[],_,els=>chk k>>=fun _=>els
 | k,d::ds,body,els=>chk k>>=fun _=>body d>>=sL (yT chk (k+1) ds body els)
noncomputable def eW (b:AM Bool) (body els:AM aj):Nat->AM aj
 | 0=>AM.fail
 | n+1=>b>>=fun t=>if t=true then body>>=sL (eW b body els n) else els
noncomputable def cw (_:Expr):Bool:=true
structure Tr (x:Ctx) (Me:Addr->Prop) (l:Lay) (h:Heap) (l':Lay) (h':Heap):Prop where
 st:∀ W' lA hA,bt x.c x.S W' lA hA l h->(∀ b,Me b->hA.get? b=none)->bt x.c x.S W' lA hA l' h'
 keep:∀ b o,¬ Me b->h.get? b=some o->h'.get? b=some o
 later:cg h l h' l'
 F':∀ b,l'.F b->l.F b\/h.get? b=none
 mu':∀ b,l'.has b->l.has b\/h.get? b=none
structure Wk (x:Ctx) (it:Value) (items:List D) (chk:Chk) (okt:Expr->Bool) (Me:Addr->Prop) (Pk:Nat->Heap->Lay->Prop) (Mid:Nat->Value->Heap->Lay->Prop):Prop where
 chkp:∀ k st r st',chk k st=some (r,st')->r=.ok ()/\st'=st
 stable:∀ k h l h' l' (B:Addr->Prop),Pk k h l->(∀ a,B a->¬ Me a)->bt x.c x.S (fun a=>x.W a\/B a) l h l' h'->Pk k h' l'
 item:∀ k d ρ σ l s,items[k]?=some d->chk k ⟨ρ,σ⟩=some (.ok (),⟨ρ,σ⟩)->St x ρ σ l s->Pk k s.heap l->∀ (Q:Option Value->Shared->Prop) E,
  (∀ v l' s',St x ρ σ l' s'->Tr x Me l s.heap l' s'.heap->Rep s'.heap l' v d->Mid k v s'.heap l'->Q (some v) s')->wpAny x.c.M x.A (pyNext it) Q E s
 go:∀ k v d ρ σ l s target,okt target=true->St x ρ σ l s->Rep s.heap l v d->Mid k v s.heap l->∀ (Q:Unit->Shared->Prop) E,
  (∀ l' s',St x ρ σ l' s'->Tr x Me l s.heap l' s'.heap->Rep s'.heap l' v d->Pk (k+1) s'.heap l'->Q () s')->wpAny x.c.M x.A (letOwnedTupleGo target it v) Q E s
 stop:∀ k ρ σ l s,items[k]?=none->k=items.length->chk k ⟨ρ,σ⟩=some (.ok (),⟨ρ,σ⟩)->St x ρ σ l s->Pk k s.heap l->∀ (Q:Option Value->Shared->Prop) E,
  (∀ l' s',St x ρ σ l' s'->Tr x Me l s.heap l' s'.heap->Q none s')->wpAny x.c.M x.A (pyNext it) Q E s
 again:∀ k h l (s:Shared),s.heap=h->Pk k h l->∀ (Q:Value->Shared->Prop) E,Q it s->wpAny x.c.M x.A (pyIter it) Q E s
theorem Wk.keep {x:Ctx} {it:Value} {items:List D} {chk:Chk} {okt:Expr->Bool} {Me:Addr->Prop} {Pk:Nat->Heap->Lay->Prop} {Mid:Nat->Value->Heap->Lay->Prop} (W:Wk x it items chk okt Me Pk Mid)
  {k:Nat} {h h':Heap} {l l':Lay} (p:Pk k h l) (st:bt x.c x.S x.W l h l' h'):Pk k h' l':=
 W.stable k h l h' l' (fun _=>False) p (fun _ q=>q.elim) (st.weaken (fun _ _ _ q=>.inl q) fun _ _ _ q=>q)
structure Sib (y x:Ctx) (h:Heap):Prop where
 c:y.c=x.c
 A:y.A=x.A
 fs:y.fs=x.fs
 quiet:y.quiet=x.quiet
 here:∀ a o,h.get? a=some o->Mine.Env.here y.env a->Mine.Env.here x.env a
theorem Sib.refl (x:Ctx) (h:Heap):Sib x x h:=⟨rfl,rfl,rfl,rfl,fun _ _ _ q=>q⟩
abbrev iY (x:Ctx) (okt:Expr->Bool) (h:Heap) (it:Value) (items:List D) (chk:Chk) (l':Lay) (h':Heap):Prop:=
 ∀ y,Sib y x h'->∃ Me Pk Mid,Wk y it items chk okt Me Pk Mid/\Pk 0 h' l'/\∀ a,Me a->h.get? a=none/\cP x l' h' a
inductive ItQ (x:Ctx) (okt:Expr->Bool) (l:Lay) (h:Heap) (r:Except Value (List D×Chk)) (st':ASt) (it:Value) (s':Shared):Prop
 | mk (items:List D) (chk:Chk) (l':Lay):r=.ok (items,chk)->St x st'.ρ st'.σ l' s'->Sp x l h l' s'.heap->iY x okt h it items chk l' s'.heap->ItQ x okt l h r st' it s'
noncomputable def oZ (x:Ctx) (e:Expr) (okt:Expr->Bool) (f:AM (List D×Chk)):Prop:=
 (∀ v,foldedSetIterable e x.env v=pure v)/\
 ∀ ρ σ l s r st',f ⟨ρ,σ⟩=some (r,st')->St x ρ σ l s->
  wpAny x.c.M x.A (eval e x.env) (fun v s₁=>wpAny x.c.M x.A (pyIter v) (ItQ x okt l s.heap r st') (ErQ x l s.heap r st') s₁) (ErQ x l s.heap r st') s
noncomputable def ik (f:AM (List D×Chk)) (body:D->AM aj) (els:AM aj):AM aj:=f>>=fun p=>yT p.2 0 p.1 body els
section
variable {prog:Program} {w:World} {A:Around} {R:Result->Shared->Prop} {s:Shared}
theorem nq {target it body orelse env} (I:Nat->Shared->Prop)
  (turn:∀ n s,I n s->wpAny (model prog w) A (pyNext it) (fun r s₁=>match r with
   | none=>wpAny (model prog w) A (execs orelse env) (fun f s₃=>R (.ok f) s₃) (notedBy (model prog w) A env fun e s'=>R (.error e) s') s₁
   | some v=>wpAny (model prog w) A (letOwnedTupleGo target it v) (fun _ s₁'=>wpAny (model prog w) A (assign target env v) (fun _ s₂=>wpAny (model prog w) A (execs body env) (fun f s₃=>match f with
     | .next | .cont=>∃ m,m < n/\I m s₃
     | .brk=>R (.ok .next) s₃
     | .ret v=>R (.ok (.ret v)) s₃) (notedBy (model prog w) A env fun e s'=>R (.error e) s') s₂) (notedBy (model prog w) A env fun e s'=>R (.error e) s') s₁') (notedBy (model prog w) A env fun e s'=>R (.error e) s') s₁) (notedBy (model prog w) A env fun e s'=>R (.error e) s') s)
  (n:Nat) (h:I n s):codeAny (model prog w) A (.forLoop target it body orelse env) R s:=by
 refine codeAny_loop' rfl I (fun n s hI=>?_) n h;show wpAny _ _ ((forTurn target it body orelse env).onRaise (fun x=>do noteFrame x env; theTreesLotGoes x)) _ _ s;refine wpAny_noted ?_;simp only [forTurn];refine wpAny_bind (wpAny_standAt (wpAny_bind (wpAny_onRaise (wpAny_mono (turn n s hI) (fun r s₁ h₁=>?_) fun _ _ h'=>wpAny_standAt h'))));cases r with
 | none=>exact wpAny_pure (.inr ⟨rfl,codeAny_block h₁⟩)
 | some v=>
  refine wpAny_bind (wpAny_mono h₁ (fun _ s₁' h₁'=>?_) fun _ _ h'=>h');refine wpAny_bind (wpAny_mono h₁' (fun _ s₂ h₂=>wpAny_bind (wpAny_mono h₂ (fun f s₃ h₃=>?_) fun _ _ h'=>h')) fun _ _ h'=>h');cases f with
  | next=>exact wpAny_pure (.inl ⟨rfl,h₃⟩)
  | cont=>exact wpAny_pure (.inl ⟨rfl,h₃⟩)
  | brk=>exact wpAny_pure h₃
  | ret v=>exact wpAny_pure h₃
end
section
variable {x:Ctx}
inductive ErH {β:Type} (x:Ctx) (l:Lay) (h:Heap) (r:Except Value β) (st':ASt) (e:Value) (s':Shared):Prop
 | mk (X:Value) (l':Lay):r=.error X->St x st'.ρ st'.σ l' s'->Sp x l h l' s'.heap->ij x.env.frame h e X l' s'.heap->ErH x l h r st' e s'
noncomputable def jl (x:Ctx) (l0:Lay) (h0:Heap) (r:Except Value aj) (st':ASt) (q:Result) (s':Shared):Prop:=
 match q with
 | .ok f=>OkQ x MP.flow l0 h0 r st' f s'
 | .error e=>ErH x l0 h0 r st' e s'
theorem ii {l:Lay} {h:Heap} {r:Except Value aj} {st':ASt} {e:Value} {s':Shared} (hb0:∀ b o,x.c.base.get? b=some o->h.get? b=some o) (q:ErQ x l h r st' e s'):notedBy x.c.M x.A x.env (fun e s'=>jl x l h r st' (.error e) s') e s':=
 let ⟨X,l',hr,h1,h2,h3⟩:=q
 h3.note h1 h2 hb0 fun _ k1 k2 k3=>⟨X,l',hr,k1,k2,k3⟩
theorem tJ {l0:Lay} {h0:Heap} {r:Except Value aj} {st':ASt} {e:Value} {s':Shared} (hb0:∀ b o,x.c.base.get? b=some o->h0.get? b=some o) (h:jl x l0 h0 r st' (.error e) s'):
  cameBackBy x.c.M x.A x.env (ErQ x l0 h0 r st') e s':=by
 obtain ⟨X,l',rfl,h1,h2,h3⟩:=h;exact h3.cameBack h1 h2 hb0 fun s'' k1 k2 k3=>⟨X,l',rfl,k1,k2,k3.fly⟩
theorem iu {β γ δ:Type} {f:AM β} {g:β->AM γ} {k:γ->AM δ}:(f>>=g)>>=k=f>>=fun b=>g b>>=k:=by
 funext st
 show AM.andThen (AM.andThen f g) k st=AM.andThen f (fun b=>AM.andThen (g b) k) st;unfold AM.andThen;cases f st with
 | none=>rfl
 | some q=>obtain ⟨r,st1⟩:=q; cases r <;> rfl
theorem kD {β:Type} {b:β} {st st':ASt} {r:Except Value β} (e:(pure b:AM β) st=some (r,st')):r=.ok b/\st'=st:=by
 cases (show some (Except.ok b,st)=some (r,st') from e); exact ⟨rfl,rfl⟩
theorem si {f:Flow} {fl:aj} {rest:AM aj} {st1 st':ASt} {r:Except Value aj} {l0 l:Lay} {h0:Heap} {s:Shared} {More:Prop} (hf:(MP.flow f fl).p s.heap l) (e:sL rest fl st1=some (r,st')) (hs:St x st1.ρ st1.σ l s) (hp:Sp x l0 h0 l s.heap) (more:rest st1=some (r,st')->More):
  match (generalizing:=false) f with
  | .next | .cont=>More
  | .brk=>jl x l0 h0 r st' (.ok .next) s
  | .ret v=>jl x l0 h0 r st' (.ok (.ret v)) s:=by
 cases f <;> cases fl <;> first | exact hf.elim | exact more e | (obtain ⟨rfl,rfl⟩:=kD e; exact ⟨_,l,rfl,hs,hp,hf⟩)
theorem oZ.run {ex:Expr} {okt:Expr->Bool} {f:AM (List D×Chk)} (hi:oZ x ex okt f) {δ:Type} {g:List D×Chk->AM δ} {ρ:aq} {σ:List O} {l:Lay} {s:Shared} {r:Except Value δ} {st':ASt} (e:(f>>=g) ⟨ρ,σ⟩=some (r,st')) (hs:St x ρ σ l s) {Q:Value->Shared->Prop} {E:Value->Shared->Prop}
  (k:∀ items chk it ρ1 σ1 l1 s1,g (items,chk) ⟨ρ1,σ1⟩=some (r,st')->St x ρ1 σ1 l1 s1->Sp x l s.heap l1 s1.heap->iY x okt s.heap it items chk l1 s1.heap->Q it s1) (ke:∀ e s1,ErQ x l s.heap r st' e s1->E e s1):
  wpAny x.c.M x.A (eval ex x.env) (fun v s₁=>wpAny x.c.M x.A (pyIter v) Q E s₁) E s:=by
 rcases om e with ⟨p,st1,e1,e2⟩ | ⟨X,e1,rfl⟩
 .have ee:∀ e s1,ErQ x l s.heap (Except.ok p) st1 e s1->E e s1:=fun e s1 ⟨_,_,q,_,_,_⟩=>nomatch q;refine wpAny_mono (hi.2 ρ σ l s _ st1 e1 hs) (fun v s₁ q=>wpAny_mono q (fun it s₂ q=>?_) (ee)) ee;obtain ⟨_,_,l1,q,h1,h2,h3⟩:=q; cases q; exact k _ _ it _ _ l1 s₂ e2 h1 h2 h3
 .have ee:∀ e s1,ErQ x l s.heap (Except.error X:Except Value (List D×Chk)) st' e s1->E e s1:=fun e s1 ⟨_,l1,q,h1,h2,h3⟩=>ke e s1 ⟨X,l1,rfl,h1,h2,by cases q; exact h3⟩;exact wpAny_mono (hi.2 ρ σ l s _ st' e1 hs) (fun v s₁ q=>wpAny_mono q (fun it s₂ ⟨_,_,_,q,_,_,_⟩=>nomatch q) ee) ee
theorem oZ.ok {ex:Expr} {okt:Expr->Bool} {f:AM (List D×Chk)} (hi:oZ x ex okt f) {δ:Type} {g:List D×Chk->AM δ} {ρ:aq} {σ:List O} {l:Lay} {s:Shared} {c:δ} {st':ASt} (e:(f>>=g) ⟨ρ,σ⟩=some (.ok c,st')) (hs:St x ρ σ l s) {Q:Value->Shared->Prop} {E:Value->Shared->Prop}
  (k:∀ items chk it ρ1 σ1 l1 s1,g (items,chk) ⟨ρ1,σ1⟩=some (.ok c,st')->St x ρ1 σ1 l1 s1->Sp x l s.heap l1 s1.heap->iY x okt s.heap it items chk l1 s1.heap->Q it s1):
  wpAny x.c.M x.A (eval ex x.env) (fun v s₁=>wpAny x.c.M x.A (pyIter v) Q E s₁) E s:=hi.run e hs k fun _ _ ⟨_,_,q,_,_,_⟩=>nomatch q
inductive DD (x:Ctx) (l:Lay) (h:Heap) (r:Except Value aj) (st':ASt) (items:List D) (chk:Chk) (body:D->AM aj) (fo:AM aj) (Pk:Nat->Heap->Lay->Prop) (m:Nat) (s':Shared):Prop
 | mk (k:Nat) (ρ:aq) (σ:List O) (l':Lay):m=items.length+1 - k->k<=items.length->yT chk k (items.drop k) body fo ⟨ρ,σ⟩=some (r,st')->St x ρ σ l' s'->Sp x l h l' s'.heap->Pk k s'.heap l'->DD x l h r st' items chk body fo Pk m s'
theorem kg {it:Value} {items:List D} {chk:Chk} {okt:Expr->Bool} {Me:Addr->Prop} {Pk:Nat->Heap->Lay->Prop} {Mid:Nat->Value->Heap->Lay->Prop} (W:Wk x it items chk okt Me Pk Mid) {β:Type} {f:AM β} {k:Nat} {st:ASt} {q:Except Value β×ASt} (e:(chk k>>=fun _=>f) st=some q):chk k st=some (.ok (),st)/\f st=some q:=by
 obtain ⟨r,st'⟩:=q;rcases om e with ⟨_,st4,e5,e6⟩ | ⟨X,e5,_⟩
 .obtain ⟨_,q⟩:=W.chkp _ _ _ _ e5; cases q; exact ⟨e5,e6⟩
 .cases (W.chkp _ _ _ _ e5).1
theorem CN {target:Expr} {body orelse:List Stmt} {g:D->AM Unit} {fb fo:AM aj} {okt:Expr->Bool} (ha:j8 x target g) (hb:kQ x body fb) (ho:kQ x orelse fo) (ht:okt target=true) {it:Value} {items:List D} {chk:Chk} {Me:Addr->Prop} {Pk:Nat->Heap->Lay->Prop} {Mid:Nat->Value->Heap->Lay->Prop} (W:Wk x it items chk okt Me Pk Mid)
  {l:Lay} {h:Heap} {r:Except Value aj} {st':ASt} (hb0:∀ b o,x.c.base.get? b=some o->h.get? b=some o) (hnew:∀ b,Me b->h.get? b=none) {n:Nat} {s:Shared} (I:DD x l h r st' items chk (fun d=>g d>>=fun _=>fb) fo Pk n s):
  wpAny x.c.M x.A (pyNext it) (fun rr s₁=>match rr with
   | none=>wpAny x.c.M x.A (execs orelse x.env) (fun f s₃=>jl x l h r st' (.ok f) s₃) (notedBy x.c.M x.A x.env fun e s'=>jl x l h r st' (.error e) s') s₁
   | some v=>wpAny x.c.M x.A (letOwnedTupleGo target it v) (fun _ s₁'=>wpAny x.c.M x.A (assign target x.env v) (fun _ s₂=>wpAny x.c.M x.A (execs body x.env) (fun f s₃=>match f with
     | .next | .cont=>∃ m,m < n/\DD x l h r st' items chk (fun d=>g d>>=fun _=>fb) fo Pk m s₃
     | .brk=>jl x l h r st' (.ok .next) s₃
     | .ret v=>jl x l h r st' (.ok (.ret v)) s₃) (notedBy x.c.M x.A x.env fun e s'=>jl x l h r st' (.error e) s') s₂) (notedBy x.c.M x.A x.env fun e s'=>jl x l h r st' (.error e) s') s₁') (notedBy x.c.M x.A x.env fun e s'=>jl x l h r st' (.error e) s') s₁) (notedBy x.c.M x.A x.env fun e s'=>jl x l h r st' (.error e) s') s:=by
 obtain ⟨k,ρ3,σ3,l3,rfl,hkn,e4,hs3,st3,hk3⟩:=I;cases hd:items[k]? with
 | none=>
  have hlen:k=items.length:=Nat.le_antisymm hkn (List.getElem?_eq_none_iff.mp hd);rw [List.drop_eq_nil_of_le (Nat.le_of_eq hlen.symm)] at e4;obtain ⟨e5,e6⟩:=kg W e4;refine W.stop k ρ3 σ3 l3 s hd hlen e5 hs3 hk3 _ _ fun l4 s4 hs4 tr4=>?_;have st4:=tr4.st _ _ _ st3 hnew;exact wpAny_mono (ho .tt _ _ _ _ _ _ e6 hs4 trivial) (fun _ _ q=>q.from st4) fun _ _ q=>ii hb0 (q.from st4)
 | some d=>
  obtain ⟨hlt,hdk⟩:=List.getElem?_eq_some_iff.mp hd;rw [List.drop_eq_getElem_cons hlt,hdk] at e4;obtain ⟨e5,e6⟩:=kg W e4;rw [iu] at e6;refine W.item k d ρ3 σ3 l3 s hd e5 hs3 hk3 _ _ fun v l4 s4 hs4 tr4 rv hm=>W.go k v d ρ3 σ3 l4 s4 target ht hs4 rv hm _ _ fun l5 s5 hs5 tr5 rv5 hk5=>?_;have st5:=tr5.st _ _ _ (tr4.st _ _ _ st3 hnew) hnew;refine (ha (MP.rep v d) v d (fun _ _ q=>q)).run e6 hs5 rv5 (fun _ _ ρ6 σ6 l6 s6 e7 hs6 st6 _=>?_) fun _ _ q=>ii hb0 (q.from st5);refine (hb .tt).run e7 hs6 trivial (fun f fl ρ7 σ7 l7 s7 e8 hs7 st7 hf=>?_) fun _ _ q=>ii hb0 (q.from (st5.trans st6));exact si hf e8 hs7 (st5.trans (st6.trans st7)) fun q=>⟨_,by omega,k+1,ρ7,σ7,l7,rfl,hlt,q,hs7,st5.trans (st6.trans st7),W.keep hk5 (st6.trans st7)⟩
theorem oH {l:Lay} {h:Heap} {r:Except Value aj} {st':ASt} (hb0:∀ b o,x.c.base.get? b=some o->h.get? b=some o) {c:Code} {s:Shared} (q:codeAny x.c.M x.A c (fun q s'=>jl x l h r st' q s') s):
  codeAny x.c.M x.A c (fun q s'=>match q with | .ok f=>OkQ x MP.flow l h r st' f s' | .error e=>cameBackBy x.c.M x.A x.env (ErQ x l h r st') e s') s:=
 codeAny_mono q fun q _ h=>match q,h with
  | .ok _,h=>h
  | .error _,h=>tJ hb0 h
theorem fz {target iter:Expr} {body orelse:List Stmt} {pos:Pos} {okt:Expr->Bool} {f:AM (List D×Chk)} {g:D->AM Unit} {fb fo:AM aj} (hi:oZ x iter okt f) (ha:j8 x target g) (hb:kQ x body fb) (ho:kQ x orelse fo) (ht:okt target=true):
  iJ x (.For target iter body orelse pos) (ik f (fun d=>g d>>=fun _=>fb) fo):=fun _ _ _ l s r st' e hs _=>
 wpAny_For (hi.run e hs (fun items chk it ρ1 σ1 l' s2 e2 hs2 st2 hW=>by
  obtain ⟨Me,Pk,Mid,W,hk,hMe⟩:=hW x (Sib.refl ..);exact oH hs.inv.base (nq (DD x l s.heap r st' items chk (fun d=>g d>>=fun _=>fb) fo Pk) (fun _ _ I=>CN ha hb ho ht W hs.inv.base (fun b q=>(hMe b q).1) I) (items.length+1)
   ⟨0,ρ1,σ1,l',rfl,Nat.zero_le _,e2,hs2,st2,hk⟩)) fun _ _ q=>q) hi.1
inductive WhI (x:Ctx) (l:Lay) (h:Heap) (r:Except Value aj) (st':ASt) (b:AM Bool) (fb fo:AM aj) (m:Nat) (s':Shared):Prop
 | mk (ρ:aq) (σ:List O) (l':Lay):eW b fb fo m ⟨ρ,σ⟩=some (r,st')->St x ρ σ l' s'->Sp x l h l' s'.heap->WhI x l h r st' b fb fo m s'
theorem fD {test:Expr} {body orelse:List Stmt} {pos:Pos} {b:AM Bool} {fb fo:AM aj} (n:Nat) (ht:oW x test b) (hb:kQ x body fb) (ho:kQ x orelse fo):iJ x (.While test body orelse pos) (eW b fb fo n):=fun _ ρ σ l s r st' e hs _=>by
 have hb0:=hs.inv.base;refine wpAny_While (oH hb0 (codeAny_whileLoop (WhI x l s.heap r st' b fb fo) ?_ n ⟨ρ,σ,l,e,hs,.refl ..⟩))
 rintro m s3 ⟨ρ3,σ3,l3,e4,hs3,st3⟩
 cases m with
 | zero=>cases e4
 | succ m=>
  refine (ht .tt).run e4 hs3 trivial (fun t' t ρ4 σ4 l4 s4 e5 hs4 st4 heq=>?_) fun _ _ q=>ii hb0 (q.from st3);cases heq;have st5:=st3.trans st4;cases t' with
  | true=>
   refine (hb .tt).run e5 hs4 trivial (fun f fl ρ7 σ7 l7 s7 e8 hs7 st7 hf=>?_) fun _ _ q=>ii hb0 (q.from st5);exact si hf e8 hs7 (st5.trans st7) fun q=>⟨m,Nat.lt_succ_self m,ρ7,σ7,l7,q,hs7,st5.trans st7⟩
  | false=>exact wpAny_mono (ho .tt _ _ _ _ _ _ e5 hs4 trivial) (fun _ _ q=>q.from st5) fun _ _ q=>ii hb0 (q.from st5)
end
section
variable {x:Ctx} {ρ:aq} {σ:List O} {l l':Lay} {h h':Heap} {s s':Shared}
theorem Ctx.here_of (hW:x.W b):Mine.Env.here x.env b:=by
 rcases hW with rfl | ⟨y,_,e⟩
 .exact .inl rfl
 .exact .inr ⟨y,e⟩
theorem cP.same {b:Addr} (f:cP x l h b) (st:bt x.c x.S x.W l h l' h') {o:Obj} (e:h.get? b=some o):h'.get? b=some o:=st.same b o f.has (fun z=>f.here (Ctx.here_of z)) f.fs e
theorem cP.same' {b:Addr} {B:Addr->Prop} (f:cP x l h b) (st:bt x.c x.S (fun a=>x.W a\/B a) l h l' h') (hb:¬ B b) {o:Obj} (e:h.get? b=some o):h'.get? b=some o:=st.same b o f.has (fun z=>z.elim (fun z=>f.here (Ctx.here_of z)) hb) f.fs e
theorem cP.step' {b:Addr} {B:Addr->Prop} (f:cP x l h b) (st:bt x.c x.S (fun a=>x.W a\/B a) l h l' h'):cP x l' h' b:=
 let ⟨o,e⟩:=f.there
 ⟨st.there b o e,f.base,fun z=>(st.F' b z).elim f.F fun z=>z.elim f.has fun z=>aP z e,fun z=>(st.mu' b z).elim f.has fun z=>aP z e,f.here,f.fs⟩
theorem cP.step {b:Addr} (f:cP x l h b) (st:bt x.c x.S x.W l h l' h'):cP x l' h' b:=f.step' (B:=fun _=>False) (st.weaken (fun _ _ _ q=>.inl q) fun _ _ _ q=>q)
theorem St.other (hs:St x ρ σ l s) (B:Addr->Prop) (hB:∀ b,B b->cP x l s.heap b) (keep:∀ b o,¬ B b->s.heap.get? b=some o->s'.heap.get? b=some o) (hg:s'.gens=s.gens) (ho:s'.os=s.os):St x ρ σ l s':=by
 obtain ⟨i,e,f,fo,g,os⟩:=hs;have kF:∀ a o,l.F a->s.heap.get? a=some o->s'.heap.get? a=some o:=fun a o q=>keep a o fun z=>(hB a z).F q;have kH:∀ a o,l.has a->s.heap.get? a=some o->s'.heap.get? a=some o:=fun a o q=>keep a o fun z=>(hB a z).has q;have la:cg s.heap l s'.heap l:=.of_off kF;refine ⟨⟨fun b o q=>keep b o (fun z=>aP (hB b z).base q) (i.base b o q),i.len,fun a q=>?_,fun a q=>?_,i.mnew,i.live,i.inj,
  fun n o p h1 h2=>(i.objs n o p h1 h2).later la (fun ob=>kH _ ob ⟨n,p,h2,.inl rfl⟩) fun ob=>kH _ ob ⟨n,p,h2,.inr rfl⟩⟩,?_,?_,fo,hg.trans g,ho.trans os⟩
 .obtain ⟨o,h⟩:=i.flt a q; exact ⟨o,kF a o q h⟩
 .obtain ⟨o,h⟩:=i.mlt a q; exact ⟨o,kH a o q h⟩
 .exact e.of_step la (fun a _ h1 _ _=>h1) (fun a _ _ h2 _ _=>h2) (fun a o q1 q2 q3 q=>⟨o.slots,keep a o (fun z=>(hB a z).here q3) q⟩)
 .exact FunFrames.stay f fun a ha ob q d=>⟨ob,keep a ob (fun z=>(hB a z).fs ha) q,d⟩
theorem bt.other {W':Addr->Prop} {h0:Heap} {l0:Lay} (st:bt x.c x.S W' l0 h0 l h) (B:Addr->Prop) (hB:∀ b,B b->h0.get? b=none) (keep:∀ b o,¬ B b->h.get? b=some o->h'.get? b=some o):bt x.c x.S W' l0 h0 l h':=by
 have nB:∀ a o,h0.get? a=some o->¬ B a:=fun a o q z=>aP (hB a z) q;refine ⟨⟨st.later.mu,st.later.F,fun a o q e=>keep a o (nB a o e) (st.later.same a o q e)⟩,fun a o e=>?_,st.mu',st.F',fun a o h1 h2 h3 e=>keep a o (nB a o e) (st.same a o h1 h2 h3 e),fun a o h1 h2 e=>?_⟩
 .obtain ⟨o',e'⟩:=st.there a o e;exact ⟨o',keep a o' (nB a o e) e'⟩
 .obtain ⟨sl,e'⟩:=st.slots a o h1 h2 e;exact ⟨sl,keep a _ (nB a o e) e'⟩
theorem Tr.other {Me:Addr->Prop} (B:Addr->Prop) (hB:∀ b,B b->Me b) (hF:∀ b,B b->cP x l h b) (keep:∀ b o,¬ B b->h.get? b=some o->h'.get? b=some o):Tr x Me l h l h':=
 ⟨fun _ _ _ st hn=>st.other B (fun b q=>hn b (hB b q)) keep,fun b o hb e=>keep b o (fun z=>hb (hB b z)) e,.of_off fun b o q=>keep b o fun z=>(hF b z).F q,fun _ q=>.inl q,fun _ q=>.inl q⟩
theorem Tr.refl (Me:Addr->Prop):Tr x Me l h l h:=⟨fun _ _ _ st _=>st,fun _ _ _ e=>e,.refl _ _,fun _ q=>.inl q,fun _ q=>.inl q⟩
theorem cP.tr {Me:Addr->Prop} {b:Addr} (f:cP x l h b) (t:Tr x Me l h l' h') (hb:¬ Me b):cP x l' h' b:=
 let ⟨o,e⟩:=f.there
 ⟨⟨o,t.keep b o hb e⟩,f.base,fun z=>(t.F' b z).elim f.F fun z=>aP z e,fun z=>(t.mu' b z).elim f.has fun z=>aP z e,f.here,f.fs⟩
theorem cP.sib {y:Ctx} {h₂:Heap} {b:Addr} (f:cP x l h b) (q:Sib y x h₂) (e:∃ o,h₂.get? b=some o):cP y l h b:=
 ⟨f.there,by rw [q.c]; exact f.base,f.F,f.has,fun z=>by obtain ⟨o,e⟩:=e; exact f.here (q.here b o e z),by unfold Ctx.S; rw [q.fs]; exact f.fs⟩
theorem cP.at {b:Addr} (f:cP x l h b) (e:∃ o,h'.get? b=some o):cP x l h' b:=⟨e,f.base,f.F,f.has,f.here,f.fs⟩
noncomputable def mY (T:String):Bool:=!(["enumerate", "zip", "dict_itemiterator", "dict_reverseitemiterator", "odict_iterator", "itertools.zip_longest", "itertools.pairwise"].contains T)
theorem rP {M:Model} {A:Around} {I:Addr} {o:Obj} {T:String} {target:Expr} {v:Value} (ho:s.heap.get? I=some o) (hc:o.cls=.type T) (hT:mY T=true) {Q:Unit->Shared->Prop} {E:Value->Shared->Prop} (k:Q () s):
  wpAny M A (letOwnedTupleGo target (.ref I) v) Q E s:=by
 have core:∀ a:Addr,wpAny M A (load I>>=fun o=>match o.cls,o.data with
   | .type n,.fields vs=>
    if ["enumerate", "zip", "dict_itemiterator", "dict_reverseitemiterator", "odict_iterator", "itertools.zip_longest", "itertools.pairwise"].contains n&&vs[0]?==some (rawInt a) then (do
     PySem.rule "for.unpacks-the-owned-tuple"
     updateField I 0 .none)
    else pure ()
   | _,_=>pure ()) Q E s:=fun a=>by
  refine wpAny_bind (wpAny_load ho ?_);obtain ⟨_,_,od,_⟩:=o;obtain rfl:=hc;cases od with
  | fields vs=>
   show wpAny M A (if (_&&_)=true then _ else _) Q E s;rw [(Bool.not_eq_true' _).mp hT];exact wpAny_pure k
  | _=>exact wpAny_pure k
 have two:wpAny M A (do
   let (.ref r,.ref a):=(Value.ref I,v) | return
   let o ← load r
   match o.cls,o.data with
   | .type n,.fields vs=>
    if ["enumerate", "zip", "dict_itemiterator", "dict_reverseitemiterator", "odict_iterator", "itertools.zip_longest", "itertools.pairwise"].contains n&&vs[0]?==some (rawInt a) then (do
     PySem.rule "for.unpacks-the-owned-tuple"
     updateField r 0 .none)
    else pure ()
   | _,_=>pure ()) Q E s:=by
  cases v with
  | ref a=>exact core a
  | _=>exact wpAny_pure k
 unfold letOwnedTupleGo;cases target <;> first | exact wpAny_pure k | exact two
theorem uV {Fz:Addr->Prop} {I:Addr} {fp:List Addr} {n:Nat} {Pv:Nat->Value->Prop} {St0:Nat->Heap->Prop} {items:List D} (W:Walks x.c.prog x.c.w x.A I fp [I] n Pv St0) (hn:n=items.length)
  (hT:∀ k h,St0 k h->∃ o T,h.get? I=some o/\o.cls=.type T/\mY T=true) (hfp:∀ b∈fp,b=I\/Fz b):
  Wk x (.ref I) items (fun _=>pure ()) cw (fun a=>a=I) (fun k h l=>St0 k h/\(cP x l h I/\∀ a,Fz a->l.F a)/\∀ i d,items[i]?=some d->∀ v,Pv i v->Rep h l v d) (fun k _ h l=>St0 (k+1) h/\(cP x l h I/\∀ a,Fz a->l.F a)/\∀ i d,items[i]?=some d->∀ v,Pv i v->Rep h l v d) where
 chkp:=fun k st r st' e=>kD e
 stable:=fun k h l h' l' B hk hB st=>⟨W.frame k h h' hk.1 (fun b hb o e=>(hfp b hb).elim (fun z=>z▸hk.2.1.1.same' st (fun z=>hB _ z rfl) (z▸e)) fun z=>st.later.same b o (hk.2.1.2 b z) e),⟨hk.2.1.1.step' st,fun a q=>st.later.F a (hk.2.1.2 a q)⟩,fun i d e v hv=>(hk.2.2 i d e v hv).later st.later⟩
 item:=fun k d ρ σ l s hd _ hs hk Q E hQ=>by
  obtain ⟨h1,⟨h2,h2'⟩,h3⟩:=hk;refine W.item k s Q E (by rw [hn]; exact (List.getElem?_eq_some_iff.mp hd).1) h1 fun v h' tk hv hst hkeep=>?_;have keep:∀ b o,¬ b=I->s.heap.get? b=some o->h'.get? b=some o:=fun b o z=>hkeep b o fun q=>z (List.mem_singleton.mp q);have la:cg s.heap l h' l:=.of_off fun a o q=>keep a o fun z=>h2.F (z▸q);obtain ⟨o,T,e,_⟩:=hT _ _ hst;exact hQ v l _ (hs.other (·=I) (fun b z=>z▸h2) keep rfl rfl) (Tr.other (·=I) (fun _ z=>z) (fun b z=>z▸h2) keep) ((h3 k d hd v hv).later la) ⟨hst,⟨h2.at ⟨o,e⟩,h2'⟩,fun i d e v hv=>(h3 i d e v hv).later la⟩
 go:=fun k v d ρ σ l s target _ hs rv hm Q E hQ=>by
  obtain ⟨o,T,e,hc,ht⟩:=hT _ _ hm.1;exact rP e hc ht (hQ l s hs (.refl _) rv hm)
 stop:=fun k ρ σ l s _ hk' _ hs hk Q E hQ=>by
  obtain ⟨h1,⟨h2,h2'⟩,h3⟩:=hk;rw [hk',← hn] at h1;refine W.done s Q E h1 fun h' tk hkeep=>?_;have keep:∀ b o,¬ b=I->s.heap.get? b=some o->h'.get? b=some o:=fun b o z=>hkeep b o fun q=>z (List.mem_singleton.mp q);exact hQ l _ (hs.other (·=I) (fun b z=>z▸h2) keep rfl rfl) (Tr.other (·=I) (fun _ z=>z) (fun b z=>z▸h2) keep)
 again:=fun k h l s e hk Q E q=>by subst e; exact W.self k s Q E hk.1 q
open Classical in
noncomputable def gx (n:Nat) (o:O):AM Unit:=fun st=>if st.σ[n]?=some o then some (.ok (),st) else none
noncomputable def KK.d (k:KK):D:=.py k.py
noncomputable def lY (x:Str):List D:=x.cps.toList.map fun c=>.py (.str ⟨#[c]⟩)
noncomputable def Gy:O->Option PyData
 | .froz p=>some p
 | _=>none
noncomputable def w4 (σ:List O):D->Option PyData
 | .py p=>some p
 | .obj n=>σ[n]?.bind Gy
 | _=>none
theorem rQ {c:Cx} {σ:List O} {l:Lay} {h:Heap} {v:Value} {d:D} {p:PyData} (i:Inv c σ l h) (r:Rep h l v d) (e:w4 σ d=some p):Rp h l.F v p:=by
 cases d with
 | py q=>cases e; exact r.py_inv
 | obj n=>
  obtain ⟨o,ho,e⟩:=Option.bind_eq_some_iff.mp e;obtain ⟨q,rfl,hq⟩:=r.obj_inv;have:=i.at ho hq;cases o with
  | froz _=>cases e; exact this.2
  | _=>cases e
 | _=>cases e
noncomputable def ym:O->Option (List D)
 | .list ds=>some ds
 | .dict _ kvs=>some (kvs.map fun kv=>kv.1.d)
 | _=>none
noncomputable def Bt (σ:List O) (d:D):Option (List D×Chk):=d.obj?.bind fun n=>σ[n]?.bind fun o=>(ym o).map fun ds=>(ds,fun _=>gx n o)
noncomputable def xW (σ:List O) (d:D):Option (List D×Chk):=match Bt σ d with
 | some q=>some q
 | none=>match d.str? with
  | some y=>some (lY y,fun _=>pure ())
  | none=>match oj d with
   | some ds=>some (ds,fun _=>pure ())
   | none=>((w4 σ d).bind list?).map fun ps=>(ps.map .py,fun _=>pure ())
noncomputable def aM (d:D):AM (List D×Chk):=eA fun σ=>xW σ d
theorem pP {n:Nat} {o:O} {st st':ASt} {r:Except Value Unit} (e:gx n o st=some (r,st')):st.σ[n]?=some o/\r=.ok ()/\st'=st:=by
 unfold gx at e;split at e
 .rename_i q; cases e; exact ⟨q,rfl,rfl⟩
 .cases e
theorem St.newIter (hs:St x ρ σ l s) (o:Obj):St x ρ σ l {s with heap:=s.heap.push o}/\bt x.c x.S x.W l s.heap l (s.heap.push o)/\(o.isFreed=false->cP x l (s.heap.push o) s.heap.objs.size)/\s.heap.get? s.heap.objs.size=none:=by
 obtain ⟨k1,k2⟩:=hs.push o s.toks;exact ⟨k1,k2,fun hf=>hs.free_new (bi _) ⟨_,Heap.get?_push_size _ hf⟩,bi _⟩
noncomputable def o5 (h:Heap) (I:Addr) (T:String) (dt:Data):Prop:=∃ o,h.get? I=some o/\o.cls=.type T/\o.data=dt
theorem uc {I:Addr} {n:Nat} {o:O} {items:List D} {T:String} {dt:Addr->Nat->Data} (hT:mY T=true)
  (hitem:∀ {σ l s} {p:Addr×Addr} {k d},Inv x.c σ l s.heap->kx x.c s.heap l p o->l.mu[n]?=some p->o5 s.heap I T (dt p.1 k)->items[k]?=some d->∀ (Q:Option Value->Shared->Prop) E,
   (∀ v h',o5 h' I T (dt p.1 (k+1))->Heap.SameBut I s.heap h'->Rep s.heap l v d->Q (some v) {s with heap:=h'})->wpAny x.c.M x.A (pyNext (.ref I)) Q E s)
  (hstop:∀ {σ l s} {p:Addr×Addr},Inv x.c σ l s.heap->kx x.c s.heap l p o->l.mu[n]?=some p->o5 s.heap I T (dt p.1 items.length)->∀ (Q:Option Value->Shared->Prop) E,(∀ h',Heap.ExtBut I s.heap h'->Q none {s with heap:=h'})->wpAny x.c.M x.A (pyNext (.ref I)) Q E s)
  (hagain:∀ {s a k},o5 s.heap I T (dt a k)->∀ (Q:Value->Shared->Prop) E,Q (.ref I) s->wpAny x.c.M x.A (pyIter (.ref I)) Q E s):
  Wk x (.ref I) items (fun _=>gx n o) cw (fun a=>a=I) (fun k h l=>∃ p,l.mu[n]?=some p/\o5 h I T (dt p.1 k)/\cP x l h I) (fun k _ h l=>∃ p,l.mu[n]?=some p/\o5 h I T (dt p.1 (k+1))/\cP x l h I) where
 chkp:=fun k st r st' e=>(pP e).2
 stable:=fun k h l h' l' B hk hB st=>by
  obtain ⟨p,h1,⟨o,e,r⟩,h3⟩:=hk;exact ⟨p,st.later.mu _ _ h1,⟨o,h3.same' st (fun z=>hB _ z rfl) e,r⟩,h3.step' st⟩
 item:=fun k d ρ σ l s hd hc hs hk Q E hQ=>by
  obtain ⟨p,h1,h2,h3⟩:=hk;refine hitem hs.inv (hs.inv.at (pP hc).1 h1) h1 h2 hd Q E fun v h' hit hsb rv=>?_;have hkeep:∀ b o,¬ b=I->s.heap.get? b=some o->h'.get? b=some o:=fun b o hb e=>cK hsb b o hb e;exact hQ v l _ (hs.other (·=I) (fun b hb=>hb▸h3) hkeep rfl rfl) (Tr.other (·=I) (fun _ hb=>hb) (fun b hb=>hb▸h3) hkeep) (rv.later (.of_off fun a o q=>hkeep a o fun z=>h3.F (z▸q)))
   ⟨p,h1,hit,h3.at (hit.imp fun _ z=>z.1)⟩
 go:=fun k v d ρ σ l s target _ hs rv hm Q E hQ=>by
  obtain ⟨p,h1,⟨o,e,hc,r⟩,h3⟩:=hm;exact rP e hc hT (hQ l s hs (.refl _) rv ⟨p,h1,⟨o,e,hc,r⟩,h3⟩)
 stop:=fun k ρ σ l s hd hk' hc hs hk Q E hQ=>by
  obtain ⟨p,h1,h2,h3⟩:=hk;subst hk';refine hstop hs.inv (hs.inv.at (pP hc).1 h1) h1 h2 Q E fun h' hx=>?_;exact hQ l _ (hs.other (·=I) (fun b hb=>hb▸h3) (fun b o hb e=>hx b o hb e) rfl rfl) (Tr.other (·=I) (fun _ hb=>hb) (fun b hb=>hb▸h3) fun b o hb e=>hx b o hb e)
 again:=fun k h l s e hk Q E q=>by
  subst e;obtain ⟨p,h1,h2,_⟩:=hk;exact hagain h2 Q E q
theorem td {I:Addr} {n:Nat} {ds:List D} (hq:x.quiet=true):Wk x (.ref I) ds (fun _=>gx n (.list ds)) cw (fun a=>a=I)
  (fun k h l=>∃ p,l.mu[n]?=some p/\o5 h I "list_iterator" (.fields #[.ref p.1,.int k 0])/\cP x l h I) (fun k _ h l=>∃ p,l.mu[n]?=some p/\o5 h I "list_iterator" (.fields #[.ref p.1,.int (k+1:Nat) 0])/\cP x l h I):=
 uc (dt:=fun a k=>.fields #[.ref a,.int k 0]) rfl (fun i r hm h2 hd Q E k=>by
  obtain ⟨vs,hl,hr⟩:=r;obtain ⟨v,hv,rv⟩:=hr.get hd;rw [Array.getElem?_toList] at hv;exact wpAny_pyNext_list_item h2 hl.isList hv fun h' a b=>k v h' a b rv) (fun i r hm h2 Q E k=>by
  obtain ⟨vs,hl,hr⟩:=r;have hz:=hr.length;rw [Array.length_toList] at hz;exact wpAny_pyNext_list_end (x.hquiet hq) h2 hl.isList (by rw [Array.getElem?_eq_none_iff,hz]; exact Nat.le_refl _) k) fun h2 Q E q=>wpAny_pyIter_listiter h2 q
theorem fO.get {h:Heap} {l:Lay} {vs:List (KK×Value)} {ds:List (KK×D)} (r:fO h l vs ds) {i:Nat} {k:KK} {d:D} (e:ds[i]?=some (k,d)):∃ v,vs[i]?=some (k,v)/\Rep h l v d:=by
 induction r generalizing i with
 | nil=>cases e
 | cons r _ ih=>cases i with
  | zero=>cases e; exact ⟨_,rfl,r⟩
  | succ i=>exact ih (i:=i) e
theorem DH {h:Heap} {l:Lay} {k:KK} {v:Value} (e:sQ k v=true):Rep h l v k.d:=by
 rcases eU e with ⟨n,t,rfl,rfl⟩ | ⟨y,t,rfl,rfl⟩
 .exact .py (.int _ _)
 .exact .py (.str _ _)
theorem tz {I:Addr} {n ep:Nat} {kvs:List (KK×D)} (hq:x.quiet=true):Wk x (.ref I) (kvs.map fun kv=>kv.1.d) (fun _=>gx n (.dict ep kvs)) cw (fun a=>a=I)
  (fun k h l=>∃ p,l.mu[n]?=some p/\o5 h I "dict_keyiterator" (.fields #[.ref p.1,.int k 0,.int kvs.length 0,.int ep 0])/\cP x l h I) (fun k _ h l=>∃ p,l.mu[n]?=some p/\o5 h I "dict_keyiterator" (.fields #[.ref p.1,.int (k+1:Nat) 0,.int kvs.length 0,.int ep 0])/\cP x l h I):=
 uc (dt:=fun a k=>.fields #[.ref a,.int k 0,.int kvs.length 0,.int ep 0]) rfl (fun i r hm h2 hd Q E k=>by
  obtain ⟨vs,hl,hr⟩:=r;obtain ⟨⟨kk,d'⟩,hd2,rfl⟩:=Option.map_eq_some_iff.mp (List.getElem?_map ..▸hd);obtain ⟨v,hv,rv⟩:=hr.get hd2;rw [← hr.length] at h2 k;exact wpAny_pyNext_dict_item h2 hl hv fun key h' hkey a b=>k key h' a b (DH hkey)) (fun i r hm h2 Q E k=>by
  obtain ⟨vs,hl,hr⟩:=r;rw [List.length_map,← hr.length] at h2;exact wpAny_pyNext_dict_end (x.hquiet hq) h2 hl (List.getElem?_eq_none_iff.mpr (Nat.le_refl _)) k) fun h2 Q E q=>wpAny_pyIter_keyiter h2 q
theorem oD {h:Heap} {l:Lay} {vs:Array Value} {ds:List D} (hr:au h l vs.toList ds):∀ (i:Nat) (d:D),ds[i]?=some d->∀ v,vs[i]?=some v->Rep h l v d:=fun i d hd v hv=>by
 obtain ⟨v',e,r⟩:=hr.get hd;have e':vs[i]?=some v':=by rw [← Array.getElem?_toList]; exact e
 rw [hv] at e'; cases e'; exact r
theorem lf {ρ:aq} {σ:List O} {l:Lay} {s:Shared} (hs:St x ρ σ l s) {o:Obj} (hf:o.isFreed=false) {items:List D} {chk:Chk}
  (W:∀ y:Ctx,y.c=x.c->y.quiet=x.quiet->∃ Pk Mid,Wk y (.ref s.heap.objs.size) items chk cw (fun a=>a=s.heap.objs.size) Pk Mid/\(cP y l (s.heap.push o) s.heap.objs.size->Pk 0 (s.heap.push o) l)):iY x cw s.heap (.ref s.heap.objs.size) items chk l (s.heap.push o):=fun y sib=>by
 have f:cP x l (s.heap.push o) s.heap.objs.size:=hs.free_new (bi _) ⟨_,Heap.get?_push_size _ hf⟩;obtain ⟨Pk,Mid,w,h⟩:=W y sib.c sib.quiet;exact ⟨_,Pk,Mid,w,h (f.sib sib f.there),fun a e=>e▸⟨bi _,f⟩⟩
theorem iK (hq:x.quiet=true) {ρ:aq} {σ:List O} {l:Lay} {s:Shared} (hs:St x ρ σ l s) {o:Obj} (hf:o.isFreed=false) {Fz:Addr->Prop} {fp:List Addr} {n:Nat} {Pv:Nat->Value->Prop} {St0:Nat->Heap->Prop} {items:List D}
  (W:∀ {A:Around},A.handled=none->Walks x.c.prog x.c.w A s.heap.objs.size fp [s.heap.objs.size] n Pv St0) (hn:n=items.length) (hT:∀ k h,St0 k h->∃ o T,h.get? s.heap.objs.size=some o/\o.cls=.type T/\mY T=true)
  (hfp:∀ b∈fp,b=s.heap.objs.size\/Fz b) (hF:∀ a,Fz a->l.F a) (h0:St0 0 (s.heap.push o)) (hP:∀ i d,items[i]?=some d->∀ v,Pv i v->Rep (s.heap.push o) l v d):iY x cw s.heap (.ref s.heap.objs.size) items (fun _=>pure ()) l (s.heap.push o):=
 lf hs hf fun y hc q=>⟨_,_,uV (by rw [hc]; exact W (y.hquiet (q.trans hq))) hn hT hfp,fun f=>⟨h0,⟨f,hF⟩,hP⟩⟩
theorem iY.weaken {h0 h h':Heap} {l0 l l':Lay} {it:Value} {items:List D} {chk:Chk} (W:iY x cw h it items chk l' h') (st:bt x.c x.S x.W l0 h0 l h):iY x cw h0 it items chk l' h':=fun y sib=>by
 obtain ⟨Me,Pk,Mid,w,hk,hm⟩:=W y sib;exact ⟨Me,Pk,Mid,w,hk,fun a q=>⟨st.new (hm a q).1,(hm a q).2⟩⟩
section
variable {ρ:aq} {σ:List O} {l:Lay} {s:Shared} {v:Value} {Q E:Value->Shared->Prop}
theorem y7 (hq:x.quiet=true) (hs:St x ρ σ l s) {a:Addr} {vs:Array Value} {ds:List D} (hF:l.F a) (hl:s.heap.IsList a vs) (hr:au s.heap l vs.toList ds)
  (k:∀ it s',St x ρ σ l s'->bt x.c x.S x.W l s.heap l s'.heap->iY x cw s.heap it ds (fun _=>pure ()) l s'.heap->Q it s'):wpAny x.c.M x.A (pyIter (.ref a)) Q E s:=by
 refine wpAny_pyIter_list hl ?_;obtain ⟨k1,k2,_⟩:=hs.newIter {cls:=.type "list_iterator",data:=.fields #[.ref a,.int 0 0]};have ne:a≠s.heap.objs.size:=fun z=>by obtain ⟨o,q⟩:=hs.inv.flt a hF; rw [z] at q; exact aP (bi _) q
 exact k _ _ k1 k2 (iK hq hs rfl (Fz:=(·=a)) (fun h=>Walks.list h _ a ne vs) (by rw [← hr.length]; rfl) (fun k h st=>by obtain ⟨⟨o,e,hc,_⟩,_⟩:=st; exact ⟨o,_,e,hc,rfl⟩) (fun b hb=>(List.mem_cons.mp hb).imp_right List.mem_singleton.mp) (fun b e=>e▸hF) ⟨⟨_,Heap.get?_push_size _ rfl,rfl,rfl⟩,hl.push _⟩ (oD (hr.later k2.later)))
theorem we (hq:x.quiet=true) (hs:St x ρ σ l s) {a:Addr} {vs:Array Value} {ds:List D} (hF:l.F a) (hl:IsTup s.heap a vs) (hr:au s.heap l vs.toList ds)
  (k:∀ it s',St x ρ σ l s'->bt x.c x.S x.W l s.heap l s'.heap->iY x cw s.heap it ds (fun _=>pure ()) l s'.heap->Q it s'):wpAny x.c.M x.A (pyIter (.ref a)) Q E s:=by
 refine wpAny_pyIter_tuple hl ?_;obtain ⟨k1,k2,_⟩:=hs.newIter {cls:=.type "tuple_iterator",data:=.fields #[.ref a,.int 0 0]};have ne:a≠s.heap.objs.size:=fun z=>by obtain ⟨o,q⟩:=hs.inv.flt a hF; rw [z] at q; exact aP (bi _) q
 exact k _ _ k1 k2 (iK hq hs rfl (Fz:=(·=a)) (fun h=>Walks.tuple h _ a ne vs) (by rw [← hr.length]; rfl) (fun k h st=>by obtain ⟨⟨o,e,hc,_⟩,_⟩:=st; exact ⟨o,_,e,hc,rfl⟩) (fun b hb=>(List.mem_cons.mp hb).imp_right List.mem_singleton.mp) (fun b e=>e▸hF) ⟨⟨_,Heap.get?_push_size _ rfl,rfl,rfl⟩,IsTup.keeps hl (fun b o e=>Heap.get?_push_of_some _ e)⟩ (oD (hr.later k2.later)))
theorem AF (hq:x.quiet=true) (hs:St x ρ σ l s) {y:Str} {t:Tok}
  (k:∀ it s',St x ρ σ l s'->bt x.c x.S x.W l s.heap l s'.heap->iY x cw s.heap it (lY y) (fun _=>pure ()) l s'.heap->Q it s'):wpAny x.c.M x.A (pyIter (.str y t)) Q E s:=by
 have rp:∀ (h:Heap) (i:Nat) (d:D),(lY y)[i]?=some d->∀ v,SignAt y i v->Rep h l v d:=fun h i d hd v ⟨c,u,hc,hv⟩=>by
  unfold lY at hd;rw [List.getElem?_map,Array.getElem?_toList,hc] at hd;cases hd;rw [hv];exact .py (.str _ _)
 have hz:y.cps.size=(lY y).length:=(List.length_map ..).symm
 have new:∀ (T:String),mY T=true->(∀ {A:Around},A.handled=none->Walks x.c.prog x.c.w A s.heap.objs.size [s.heap.objs.size] [s.heap.objs.size] y.cps.size (SignAt y) (fun i h=>h.IsStrIter s.heap.objs.size T y t i))->
   Q (.ref s.heap.objs.size) {s with heap:=s.heap.push {cls:=.type T,data:=.fields #[.str y t,rawInt (0:Nat)]}}:=fun T hT W=>by
  obtain ⟨k1,k2,_⟩:=hs.newIter {cls:=.type T,data:=.fields #[.str y t,rawInt (0:Nat)]};exact k _ _ k1 k2 (iK hq hs rfl (Fz:=fun _=>False) W hz (fun k h st=>by obtain ⟨o,e,hc,_⟩:=st; exact ⟨o,_,e,hc,hT⟩) (fun b hb=>.inl (List.mem_singleton.mp hb)) (fun _ q=>q.elim) ⟨_,Heap.get?_push_size _ rfl,rfl,rfl⟩ (rp _))
 cases ha:y.cps.all (· < 128)
 .exact wpAny_pyIter_wide ha (new _ rfl fun h=>Walks.strWide h _ y t)
 .exact wpAny_pyIter_ascii ha (new _ rfl fun h=>Walks.strAscii h _ y t)
theorem zd (hq:x.quiet=true) (hs:St x ρ σ l s) {n:Nat} {o:O} {ds:List D} {p:Addr×Addr} (hn:σ[n]?=some o) (hp:l.mu[n]?=some p) (e:ym o=some ds)
  (k:∀ it s',St x ρ σ l s'->bt x.c x.S x.W l s.heap l s'.heap->iY x cw s.heap it ds (fun _=>gx n o) l s'.heap->Q it s'):wpAny x.c.M x.A (pyIter (.ref p.1)) Q E s:=by
 have r:=hs.inv.at hn hp;cases o with
 | list ds=>
  cases e;obtain ⟨vs,hl,hr⟩:=r;refine wpAny_pyIter_list hl.isList ?_;obtain ⟨k1,k2,_⟩:=hs.newIter {cls:=.type "list_iterator",data:=.fields #[.ref p.1,.int 0 0]};exact k _ _ k1 k2 (lf hs rfl fun y _ q=>⟨_,_,td (q.trans hq),fun f=>⟨p,hp,⟨_,Heap.get?_push_size _ rfl,rfl,rfl⟩,f⟩⟩)
 | dict ep kvs=>
  cases e;obtain ⟨vs,hl,hr⟩:=r;refine wpAny_pyIter_dict (hs.inv.notSys hp) hl ?_;rw [hr.length];obtain ⟨k1,k2,_⟩:=hs.newIter {cls:=.type "dict_keyiterator",data:=.fields #[.ref p.1,.int 0 0,.int kvs.length 0,.int ep 0]};exact k _ _ k1 k2 (lf hs rfl fun y _ q=>⟨_,_,tz (q.trans hq),fun f=>⟨p,hp,⟨_,Heap.get?_push_size _ rfl,rfl,rfl⟩,f⟩⟩)
 | _=>cases e
theorem DO (hq:x.quiet=true) {d:D} {items:List D} {chk:Chk} (hs:St x ρ σ l s) (rv:Rep s.heap l v d) (e:xW σ d=some (items,chk))
  (k:∀ it s',St x ρ σ l s'->bt x.c x.S x.W l s.heap l s'.heap->iY x cw s.heap it items chk l s'.heap->Q it s'):wpAny x.c.M x.A (pyIter v) Q E s:=by
 unfold xW at e;cases h1:Bt σ d with
 | some q=>
  rw [h1] at e;cases e;obtain ⟨n,hn,h2⟩:=Option.bind_eq_some_iff.mp h1;obtain ⟨o,ho,h3⟩:=Option.bind_eq_some_iff.mp h2;obtain ⟨ds,hd,h4⟩:=Option.map_eq_some_iff.mp h3;cases h4;obtain rfl:=dM hn;obtain ⟨p,rfl,hp⟩:=rv.obj_inv;exact zd hq hs ho hp hd k
 | none=>
  rw [h1] at e;cases h2:d.str? with
  | some y=>
   rw [h2] at e;cases e;obtain ⟨t,rfl⟩:=rv.str? h2;exact AF hq hs k
  | none=>
   rw [h2] at e;cases h3:oj d with
   | some ds=>
    rw [h3] at e;cases e;obtain ⟨a,vs,rfl,f,hl,hr⟩:=yK rv h3;exact we hq hs f hl hr k
   | none=>
    rw [h3] at e;obtain ⟨ps,h4,h5⟩:=Option.map_eq_some_iff.mp e;obtain ⟨p,h6,h7⟩:=Option.bind_eq_some_iff.mp h4;cases h5;obtain rfl:=list?_some h7;obtain ⟨a,vs,_,rfl,f,o,r⟩:=(rQ hs.inv rv h6).list_inv;exact y7 hq hs f ⟨_,o,rfl,_,rfl⟩ r.rep k
end
theorem cV {e:Expr} {f:AM D} (hq:x.quiet=true) (h:a9 x e f) (hf:∀ v,foldedSetIterable e x.env v=pure v):oZ x e cw (f>>=aM):=⟨hf,fun ρ σ l s r st' ee hs=>(h .tt).run ee hs trivial (fun v d ρ1 σ1 l1 s1 e2 hs1 st1 rv=>by
 obtain ⟨⟨items,chk⟩,ho,e3⟩:=Option.map_eq_some_iff.mp e2;cases e3;exact DO hq hs1 rv ho fun it s2 k1 k2 k3=>⟨items,chk,l1,rfl,k1,st1.trans k2,k3.weaken st1⟩) fun _ _ q=>q⟩
end
noncomputable def gS (x:Ctx) (func:Expr) (fv:Value):Prop:=∀ ρ σ l s,St x ρ σ l s->∀ (Q:Value->Shared->Prop) E,Q fv s->wpAny x.c.M x.A (eval func x.env) Q E s
noncomputable def f6 (x:Ctx) (es:List Expr) (g:AM (List D)):Prop:=∀ P fv pos,Sim x P MP.args (evalArgs fv true (backTo pos (starEach es x.env)) []) g
noncomputable def eV (x:Ctx) (fv:Value) (k:List D->AM D):Prop:=∀ (P:MP) vs ds,(∀ h l,P.p h l->au h l vs ds)->Sim x P MP.rep (PySem.call fv vs []) (k ds)
section
variable {x:Ctx} {P:MP}
theorem al {n:String} {pos:Pos} {v:Value} (hg:xg x.c n v) (hk:x.env.kindOf (Str.o n)=some .globalImplicit) (hd:(Str.o n==("__debug__" :PySem.Str))=false):gS x (.Name (Str.o n) pos) v:=by
 intro ρ σ l s hs Q E q;have hgl:s.heap.Ns x.env.globals x.c.mg:=by rw [x.hgl]; exact x.c.top.g.keeps hs.inv.base
 have hbl:s.heap.Ns x.env.builtins x.c.mb:=by rw [x.hbt]; exact x.c.top.b.keeps hs.inv.base
 rcases hg.has with h | ⟨h1,h2⟩
 .exact Calls.Name_function_global x.hfn hk (Calls.loadGlobal_global hgl h q) hd
 .exact Calls.Name_function_global x.hfn hk (Calls.loadGlobal_builtin hgl h1 hbl h2 q) hd
theorem ap:nZ x [] (pure []):=fun P pos=>tK
theorem D9 {e:Expr} {rest:List Expr} {f:AM D} {g:AM (List D)} (h1:a9 x e f) (h2:nZ x rest g) (hst:starEach (e::rest) x.env=(false,eval e x.env)::starEach rest x.env):nZ x (e::rest) (f>>=fun d=>g>>=fun ds=>pure (d::ds)):=
 fun P pos=>rK (h1 P) (fun P=>h2 P pos) hst
theorem DB {e:Expr} {rest:List Expr} {p:Pos} {f:AM D} {g:AM (List D)} (h1:a9 x e f) (h2:nZ x rest g):nZ x (.Starred e p::rest) (f>>=fun d=>eA (fun σ=>gO σ d)>>=fun ds=>g>>=fun es=>pure (ds++es)):=
 fun P pos=>rC (h1 P) (fun P=>h2 P pos)
theorem eD:f6 x [] (pure []):=fun P fv pos=>nr
theorem Af {e:Expr} {p:Pos} {g:AM D} (h:a9 x e g):f6 x [.Starred e p] (g>>=fun d=>eA fun σ=>gO σ d):=fun P fv pos=>mT (h P)
theorem ai {e:Expr} {rest:List Expr} {g:AM (List D)} (h:nZ x (e::rest) g) (hst:starEach (e::rest) x.env=(false,eval e x.env)::starEach rest x.env):f6 x (e::rest) g:=fun P fv pos=>sR (h P pos) hst
theorem aK {n:Str} {p pos:Pos} {args:List Expr} {fv:Value} {g:AM (List D)} {k:List D->AM D} (hc:gS x (.Name n p) fv) (hk:df x.c fv) (ha:f6 x args g) (hcall:eV x fv k):a9 x (.Call (.Name n p) args [] pos) (g>>=k):=fun P=>by
 intro ρ σ l s r st' e hs hp;rw [arm_eval_Call_Name'];refine wpAny_bind (hc ρ σ l s hs _ _ ?_);exact jW (first:=[]) (fd:=[]) hk (ha P fv pos) (fun vs ds=>hcall _ vs ds fun h l q=>q.2) ρ σ l s r st' e hs hp
theorem eN {β:Type} {f:List O->Option β} {ρ:aq} {σ:List O} {r:Except Value β} {st':ASt} (e:eA f ⟨ρ,σ⟩=some (r,st')):∃ b,f σ=some b/\r=.ok b/\st'=⟨ρ,σ⟩:=by
 obtain ⟨b,h,e⟩:=Option.map_eq_some_iff.mp e;cases e; exact ⟨b,h,rfl,rfl⟩
noncomputable def lenS (n:Nat):Option Nat:=if n<=ar then some n else none
noncomputable def vS (σ:List O) (d:D):Option Nat:=match d.str? with
 | some y=>lenS y.length
 | none=>match d.obj?.bind fun n=>lr σ[n]? with
  | some kvs=>lenS kvs.length
  | none=>(nA σ d).bind fun ds=>lenS ds.length
noncomputable def gQ:List D->AM D
 | [d]=>eA fun σ=>(vS σ d).map fun (n:Nat)=>.py (.int (n:Int))
 | _=>AM.fail
theorem kj {fv:Value} {f:List D->AM D} (h0:f []=AM.fail) (h2:∀ a b t,f (a::b::t)=AM.fail)
  (h:∀ P v d,(∀ h l,P.p h l->Rep h l v d)->Sim x P MP.rep (PySem.call fv [v] []) (f [d])):eV x fv f:=fun P vs ds hv=>by
 rcases ds with _ | ⟨d,_ | ⟨b,t⟩⟩
 .rw [h0]; exact Sim.fail
 .intro ρ σ l s r st' e hs hp;obtain ⟨v,rfl,_⟩:=(hv _ _ hp).one;exact h P v d (fun h l q=>by obtain ⟨v',e,r⟩:=(hv h l q).one; cases e; exact r) ρ σ l s r st' e hs hp
 .rw [h2]; exact Sim.fail
theorem vY {fv:Value} {f:List D->AM D} (h2:∀ a t,f (a::t)=AM.fail) (h:∀ P,Sim x P MP.rep (PySem.call fv [] []) (f [])):eV x fv f:=fun P vs ds hv=>by
 rcases ds with _ | ⟨b,t⟩
 .intro ρ σ l s r st' e hs hp;obtain rfl:=(hv _ _ hp).nil_inv;exact h P ρ σ l s r st' e hs hp
 .rw [h2]; exact Sim.fail
theorem FB {σ:List O} {l:Lay} {s:Shared} {v:Value} {d:D} {n:Nat} {Q E:Value->Shared->Prop} (i:Inv x.c σ l s.heap) (rv:Rep s.heap l v d) (hn:vS σ d=some n) (fin:∀ t tk,Q (.int (n:Int) t) {s with toks:=tk}):wpAny x.c.M x.A (PySem.call (.builtin "len") [v]) Q E s:=by
 have hsm:ar=1000000:=rfl;unfold vS at hn;cases h1:d.str? with
 | some y=>
  rw [h1] at hn;obtain ⟨hz,rfl⟩:=bb hn;obtain ⟨t,rfl⟩:=rv.str? h1;exact PySem.P.len_str (by omega) (fin _ _)
 | none=>
  rw [h1] at hn;cases h2:d.obj?.bind fun n=>lr σ[n]? with
  | some kvs=>
   rw [h2] at hn;obtain ⟨hz,rfl⟩:=bb hn;obtain ⟨m,hm,ho⟩:=Option.bind_eq_some_iff.mp h2;obtain ⟨ep,ho⟩:=nt ho;obtain rfl:=dM hm;obtain ⟨p,rfl,hp⟩:=rv.obj_inv;obtain ⟨ws,hd,hrr⟩:=i.at ho hp;have z:=hrr.length;rw [← z] at fin;exact call_len_dict (i.notSys hp) hd.dictOf (by omega) (fin _ _)
  | none=>
   rw [h2] at hn;obtain ⟨ds,e1,e2⟩:=Option.bind_eq_some_iff.mp hn;obtain ⟨hz,rfl⟩:=bb e2;obtain ⟨a,vs,rfl,hk,hr,z⟩:=mM i rv e1;rw [← z] at fin;rcases hk with hk | hk
   .exact PyProof.Rows.len_tuple hk (by omega) (fin _ _)
   .exact call_len_list hk (by omega) (fin _ _)
theorem dB:eV x (.builtin "len") gQ:=kj rfl (fun _ _ _=>rfl) fun P v d hr=>by
 intro ρ σ l s r st' e hs hp;obtain ⟨_,hn,rfl,rfl⟩:=eN (f:=fun σ=>(vS σ d).map fun (n:Nat)=>D.py (.int (n:Int))) e;obtain ⟨n,hm,rfl⟩:=Option.map_eq_some_iff.mp hn;exact FB hs.inv (hr _ _ hp) hm fun t tk=>⟨_,l,rfl,hs.toks _,.refl ..,.py (.int _ _)⟩
end
noncomputable def okA {β:Type} (f:AM β):AM β:=fun st=>match f st with
 | some (.ok b,st')=>some (.ok b,st')
 | _=>none
theorem Bz {β:Type} {f:AM β} {st st':ASt} {r:Except Value β} (e:okA f st=some (r,st')):∃ b,r=.ok b/\f st=some (.ok b,st'):=by
 unfold okA at e;cases h:f st with
 | none=>rw [h] at e; cases e
 | some q=>
  obtain ⟨r0,st1⟩:=q;rw [h] at e;cases r0 with
  | ok b=>cases e; exact ⟨b,rfl,rfl⟩
  | error _=>cases e
theorem te {β:Type} {f:AM β} {st st':ASt} {b:β} (e:f st=some (.ok b,st')):okA f st=some (.ok b,st'):=by unfold okA; rw [e]
theorem Sim.okA {x:Ctx} {α β:Type} {P:MP} {R:α->β->MP} {t:Sem α} {f:AM β} (h:Sim x P R t f):Sim x P R t (okA f):=fun ρ σ l s r st' e hs hp=>by
 obtain ⟨b,rfl,e1⟩:=Bz e;exact h ρ σ l s _ st' e1 hs hp
noncomputable def jH (a b:Int):List D:=(List.range (b - a).toNat).map fun (i:Nat)=>.py (.int (a+(i:Int)))
noncomputable def i7 (a b:Int):AM (List D×Chk):=if a.natAbs<=ar/\b.natAbs<=ar then pure (jH a b,fun _=>pure ()) else AM.fail
noncomputable def zQ {α β:Type} (o:Option α) (f:α->AM β):AM β:=fun st=>o.bind fun a=>f a st
noncomputable def dw:List D->AM (List D×Chk)
 | [b]=>zQ b.int? (i7 0)
 | [a,b]=>zQ a.int? fun i=>zQ b.int? (i7 i)
 | _=>AM.fail
theorem tZ {α β:Type} {o:Option α} {f:α->AM β} {st:ASt} {q:Except Value β×ASt} (e:zQ o f st=some q):∃ a,o=some a/\f a st=some q:=Option.bind_eq_some_iff.mp e
theorem sB {a b:Int} {st st':ASt} {r:Except Value (List D×Chk)} (e:i7 a b st=some (r,st')):a.natAbs<=ar/\b.natAbs<=ar/\(pure (jH a b,fun _=>pure ()):AM (List D×Chk)) st=some (r,st'):=by
 unfold i7 at e;split at e
 .rename_i h; exact ⟨h.1,h.2,e⟩
 .cases e
section
variable {x:Ctx}
theorem vF (hq:x.quiet=true) {ρ:aq} {σ:List O} {l l0:Lay} {h0:Heap} {s:Shared} (hs:St x ρ σ l s) (st:bt x.c x.S x.W l0 h0 l s.heap) {a b:Int} (ha:a.natAbs<=ar) (hb:b.natAbs<=ar) {t u v:Tok} (tk:Nat) {r:Except Value (List D×Chk)} {st':ASt}
  (e:(pure (jH a b,fun _=>pure ()):AM (List D×Chk)) ⟨ρ,σ⟩=some (r,st')):
  wpAny x.c.M x.A (pyIter (.ref s.heap.objs.size)) (ItQ x cw l0 h0 r st')
   (ErQ x l0 h0 r st')
   {s with heap:=s.heap.push {cls:=.type "range",data:=.fields #[.int a t,.int b u,.int 1 v]},toks:=tk}:=by
 obtain ⟨rfl,rfl⟩:=kD e;have hz:ar=1000000:=rfl;obtain ⟨k1,k2⟩:=hs.push {cls:=.type "range",data:=.fields #[.int a t,.int b u,.int 1 v]} tk;refine wpAny_pyIter_range (IsRange.new ..) (small_one (by omega) (by omega) (by omega) (by omega)) ?_;obtain ⟨k3,k4,_⟩:=k1.newIter {cls:=.type "range_iterator",data:=.fields #[rawInt a,rawInt (Builtin.Range.rangeSize a b 1),rawInt 1]};have hn:((b - a).toNat:Int)=Builtin.Range.rangeSize a b 1:=by rw [rangeSize_one]; split <;> omega
 refine ⟨_,_,l,rfl,k3,(st.trans k2).trans k4,(iK hq k1 rfl (Fz:=fun _=>False) (n:=(b - a).toNat) (fun h=>Walks.range h _ a 1 _) (by rw [jH,List.length_map,List.length_range]) (fun k h st=>⟨_,_,st,rfl,rfl⟩) (fun b hb=>.inl (List.mem_singleton.mp hb)) (fun _ q=>q.elim) ?_ fun i d hd v hv=>?_).weaken (st.trans k2)⟩
 .show IsRangeIter _ _ (a+(0:Nat) * 1) (((b - a).toNat:Int) - (0:Nat)) 1;rw [hn,Int.mul_one,show a+((0:Nat):Int)=a from Int.add_zero a,show Builtin.Range.rangeSize a b 1 - ((0:Nat):Int)=_ from Int.sub_zero _];exact Heap.get?_push_size _ rfl
 .obtain ⟨t,rfl⟩:=hv;unfold jH at hd;rw [List.getElem?_map,Option.map_eq_some_iff] at hd;obtain ⟨j,hj,rfl⟩:=hd;obtain ⟨_,rfl⟩:=List.getElem?_eq_some_iff.mp hj;rw [List.getElem_range,Int.mul_one];exact .py (.int _ _)
theorem fE {n:Str} {p pos:Pos} {args:List Expr} {g:AM (List D)} (hq:x.quiet=true) (hc:gS x (.Name n p) (.type "range")) (ha:f6 x args g) (hf:∀ v,foldedSetIterable (.Call (.Name n p) args [] pos) x.env v=pure v):
  oZ x (.Call (.Name n p) args [] pos) cw (okA g>>=dw):=⟨hf,fun ρ σ l s r st' e hs=>by
 rw [arm_eval_Call_Name'];refine wpAny_bind (hc ρ σ l s hs _ _ (gl (first:=[]) (ha .tt _ _).okA e hs trivial (fun vs ds ρ1 σ1 l1 s1 e2 hs1 st1' rv=>⟨df.type _ _ hs1.inv.base,?_⟩) fun _ _ q=>q));show wpAny x.c.M x.A (PySem.call (.type "range") vs []) _ _ s1;rcases ds with _ | ⟨d,_ | ⟨d2,_ | ⟨d3,ds⟩⟩⟩
 .cases e2
 .obtain ⟨b,hb,e3⟩:=tZ e2;obtain ⟨_,z,e4⟩:=sB e3;obtain ⟨v,rfl,r1⟩:=rv.one;obtain ⟨t,rfl⟩:=r1.int? hb;exact call_range_1 (vF hq hs1 st1' (by decide) z _ e4)
 .obtain ⟨a,ha,e3⟩:=tZ e2;obtain ⟨b,hb,e4⟩:=tZ e3;obtain ⟨y,z,e5⟩:=sB e4;obtain ⟨v,w,rfl,r1,r2⟩:=rv.two;obtain ⟨t,rfl⟩:=r1.int? ha;obtain ⟨u,rfl⟩:=r2.int? hb;exact call_range_2 (vF hq hs1 st1' y z _ e5)
 .cases e2⟩
end
structure Gen where
 iter:AM (List D×Chk)
 tgt:D->AM Unit
 tests:List (AM Bool)
noncomputable def ey:List (AM Bool)->AM Bool
 | []=>pure true
 | t::ts=>t>>=fun b=>if b=true then ey ts else pure false
noncomputable def pH (chk:Chk) (body:D->List D->AM (List D)):Nat->List D->List D->AM (List D)
 | k,[],acc=>chk k>>=fun _=>pure acc
 | k,d::ds,acc=>chk k>>=fun _=>body d acc>>=fun acc'=>pH chk body (k+1) ds acc'
noncomputable def qr (elt:AM D):List Gen->List D->AM (List D)
 | [],acc=>elt>>=fun d=>if acc.length<=ar then pure (acc++[d]) else AM.fail
 | g::gs,acc=>g.iter>>=fun p=>pH p.2 (fun d acc=>g.tgt d>>=fun _=>ey g.tests>>=fun b=>if b=true then qr elt gs acc else pure acc) 0 p.1 acc
noncomputable def EF (elt:AM D) (g:Gen) (gs:List Gen) (d:D) (acc:List D):AM (List D):=g.tgt d>>=fun _=>ey g.tests>>=fun b=>if b=true then qr elt gs acc else pure acc
inductive aI (x:Ctx):List Expr->List (AM Bool)->Prop
 | nil:aI x [] []
 | cons {e es b bs}:oW x e b->aI x es bs->aI x (e::es) (b::bs)
structure Dp (y:Ctx) (c:Comprehension) (g:Gen):Prop where
 async:c.is_async=0
 okt:cw c.target=true
 tgt:j8 y c.target g.tgt
 tests:aI y c.ifs g.tests
inductive ca (y:Ctx):List Comprehension->List Gen->Prop
 | nil:ca y [] []
 | cons {c cs g gs}:Dp y c g->oZ y c.iter cw g.iter->ca y cs gs->ca y (c::cs) (g::gs)
noncomputable def nX (env:Env) (es:List Expr) (b:Bool):Sem Bool:=forIn es b fun c r=>if r=true then do let ok ← isTrue c env (eval c env); pure (ForInStep.yield ok) else pure (ForInStep.yield r)
noncomputable def jn (elt:Expr) (gens:List Comprehension) (scope:Scope) (pos:Pos) (depth:Nat) (it acc:Value) (env:Env) (ok:Bool):Sem Fin:=do
 if ok then
  match gens[depth+1]? with
  | some g'=>
   let x ← eval g'.iter env
   standAt g'.iter.pos
   let x ← if g'.is_async !=0 then foldedIterable g'.iter x else foldedSetIterable g'.iter env x
   let _ ← runOwn (.compStart (.ListComp elt gens scope pos) (depth+1) (← holding [x] (if g'.is_async !=0 then asyncIter x else pyIter x)) acc env) env
  | none=>(do let _ ← call (.builtin "list.append") [acc,← eval elt env])
 again (.compLoop (.ListComp elt gens scope pos) depth it acc env)
theorem oQ {env:Env}:∀ es:List Expr,nX env es false=(pure false:Sem Bool)
 | []=>rfl
 | e::es=>by unfold nX; rw [List.forIn_cons]; exact oQ es
theorem zX {y:Ctx} {es:List Expr} {bs:List (AM Bool)} (h:aI y es bs):∀ P,Sim y P MP.eq (nX y.env es true) (ey bs):=by
 induction h with
 | nil=>intro P; exact Sim.pure fun _ _ _=>rfl
 | @cons e es b bs he _ ih=>
  intro P;refine Sim.of_eq (t':=isTrue e y.env (eval e y.env)>>=fun ok=>nX y.env es ok) (by unfold nX; rw [List.forIn_cons,if_pos rfl]; simp only [bind_assoc,pure_bind]) ?_;refine (he P).bindEq fun c=>?_;cases c with
  | true=>exact ih _
  | false=>rw [oQ]; exact Sim.pure fun _ _ _=>rfl
theorem vm {elt:Expr} {gens:List Comprehension} {scope:Scope} {pos:Pos} {depth:Nat} {it acc:Value} {env:Env} {target iter:Expr} {ifs:List Expr} (hg:gens[depth]?=some ⟨target,iter,ifs,0⟩):
  compTurn (.ListComp elt gens scope pos) depth it acc env=(do
   standAt iter.pos
   match ← pyNext it with
   | none=>pure (.done .next)
   | some v=>
    letOwnedTupleGo target it v
    assign target env v
    let ok ← nX env ifs true
    jn elt gens scope pos depth it acc env ok):=by
 unfold compTurn;simp only [hg];rfl
theorem mr {prog:Program} {w:World} {A:Around} {s:Shared} {R:Result->Shared->Prop} {elt:Expr} {gens:List Comprehension} {scope:Scope} {pos:Pos} {depth:Nat} {it acc:Value} {env:Env} {target iter:Expr} {ifs:List Expr}
  (hg:gens[depth]?=some ⟨target,iter,ifs,0⟩) (h0:codeAny (model prog w) A (.compLoop (.ListComp elt gens scope pos) depth it acc env) R s)
  (h:wpAny (model prog w) A (pyIter it) (fun it' s'=>codeAny (model prog w) A (.compLoop (.ListComp elt gens scope pos) depth it' acc env) R s') (notedBy (model prog w) A env fun x s'=>R (.error x) s') s):
  codeAny (model prog w) A (.compStart (.ListComp elt gens scope pos) depth it acc env) R s:=by
 refine codeAny_of_tree ?_;show wpAny _ _ ((compStart (.ListComp elt gens scope pos) depth it acc env).onRaise (fun x=>do noteFrame x env; standAt theWindowsPlace)) _ _ s;refine wpAny_notedAt ?_;unfold compStart;have hc:(clausesOf (.ListComp elt gens scope pos))[depth]?=some ⟨target,iter,ifs,0⟩:=hg;rw [hc];show wpAny _ _ (ask>>=_) _ _ s;refine wpAny_bind (wpAny_askSetting (wpAny_ite ?_));split
 .exact wpAny_bind (wpAny_pure (wpAny_pure (And.intro rfl h0)))
 .refine wpAny_bind (wpAny_rule ?_);show wpAny _ _ (standAt iter.pos>>=_) _ _ s;exact wpAny_bind (wpAny_standAt (wpAny_bind (wpAny_mono h (fun it' s' h'=>wpAny_pure (And.intro rfl h')) fun _ _ x=>x)))
structure gw (y:Ctx) (Wz:Addr->Prop) (h0:Heap) (l0:Lay) (a:Addr) (ds:List D) (l:Lay) (h:Heap):Prop where
 step:bt y.c y.S Wz l0 h0 l h
 sub:∀ b,y.W b->Wz b
 free:cP y l h a
 new:h0.get? a=none
 list:∃ vs,h.PlainList a vs/\au h l vs.toList ds
theorem gw.keep {y:Ctx} {Wz:Addr->Prop} {h0 h h':Heap} {l0 l l':Lay} {a:Addr} {ds:List D} (q:gw y Wz h0 l0 a ds l h) (st:bt y.c y.S y.W l h l' h'):gw y Wz h0 l0 a ds l' h':=by
 obtain ⟨vs,⟨o,ho⟩,hr⟩:=q.list;exact ⟨q.step.trans (st.weaken (fun b _ _ z=>q.sub b z) fun _ _ _ z=>z),q.sub,q.free.step st,q.new,vs,⟨o,q.free.same st ho⟩,hr.later st.later⟩
theorem gw.tr {y:Ctx} {Wz:Addr->Prop} {h0 h h':Heap} {l0 l l':Lay} {a:Addr} {ds:List D} {Me:Addr->Prop} (q:gw y Wz h0 l0 a ds l h) (t:Tr y Me l h l' h') (hm:∀ b,Me b->h0.get? b=none) (ha:¬ Me a):gw y Wz h0 l0 a ds l' h':=by
 obtain ⟨vs,⟨o,ho⟩,hr⟩:=q.list;exact ⟨t.st _ _ _ q.step hm,q.sub,q.free.tr t ha,q.new,vs,⟨o,t.keep a _ ha ho⟩,hr.later t.later⟩
section
variable {y:Ctx} {elt:Expr} {gens:List Comprehension} {scope:Scope} {pos:Pos} {el:AM D}
theorem wH {Wz:Addr->Prop} {h0:Heap} {l0:Lay} {a:Addr} {acc:List D} {d:D} {ρ:aq} {σ:List O} {l:Lay} {s:Shared} {v:Value} (hs:St y ρ σ l s) (ha:gw y Wz h0 l0 a acc l s.heap) (rv:Rep s.heap l v d) (hz:acc.length<=ar) {Q:Value->Shared->Prop} {E:Value->Shared->Prop}
  (k:∀ s',St y ρ σ l s'->gw y Wz h0 l0 a (acc++[d]) l s'.heap->bt y.c y.S (fun b=>y.W b\/b=a) l s.heap l s'.heap->Q .none s'):wpAny y.c.M y.A (call (.builtin "list.append") [.ref a,v]) Q E s:=by
 obtain ⟨vs,hl,hr⟩:=ha.list;have z:=hr.length;rw [Array.length_toList] at z;refine wpAny_list_append_plain hl (fun h' hl' hsb=>?_) (by rw [z]; exact bD hz);have hkeep:∀ b o,¬ b=a->s.heap.get? b=some o->h'.get? b=some o:=fun b o hb e=>cK hsb b o hb e;have la:cg s.heap l h' l:=.of_off fun b o q=>hkeep b o fun z=>ha.free.F (z▸q);have there:∃ o,h'.get? a=some o:=by obtain ⟨o,e⟩:=hl'; exact ⟨_,e⟩
 refine k _ (hs.other (fun b=>b=a) (fun b hb=>hb▸ha.free) hkeep rfl rfl) ⟨ha.step.other (fun b=>b=a) (fun b hb=>hb▸ha.new) hkeep,ha.sub,ha.free.at there,ha.new,_,hl',?_⟩ ?_
 .have:=au.append (.cons (rv.later la) .nil) (hr.later la)
  simpa using this
 .refine ⟨la,fun b o e=>?_,fun b q=>.inl q,fun b q=>.inl q,fun b o h1 h2 h3 e=>hkeep b o (fun z=>h2 (.inr z)) e,fun b o h1 h2 e=>⟨o.slots,hkeep b o (fun z=>h2 (.inr z)) e⟩⟩;by_cases hb:b=a
  .exact hb▸there
  .exact ⟨o,hkeep b o hb e⟩
theorem pn {y:Ctx} {l l':Lay} {h h':Heap} {B:Addr->Prop} (st:bt y.c y.S y.W l h l' h'):bt y.c y.S (fun b=>y.W b\/B b) l h l' h':=st.weaken (fun _ _ _ q=>.inl q) fun _ _ _ q=>q
abbrev Ja (y:Ctx) (a:Addr) (b:Addr):Prop:=y.W b\/b=a
inductive CpQ (y:Ctx) (Wz:Addr->Prop) (h0:Heap) (l0:Lay) (a:Addr) (lA:Lay) (hA:Heap) (acc':List D) (st':ASt) (q:Result) (s':Shared):Prop
 | mk (f:Flow) (l':Lay):q=.ok f->St y st'.ρ st'.σ l' s'->gw y Wz h0 l0 a acc' l' s'.heap->bt y.c y.S (Ja y a) lA hA l' s'.heap->CpQ y Wz h0 l0 a lA hA acc' st' q s'
inductive CpI (y:Ctx) (Wz:Addr->Prop) (h0:Heap) (l0:Lay) (a:Addr) (lA:Lay) (hA:Heap) (acc':List D) (st':ASt) (body:D->List D->AM (List D)) (items:List D) (chk:Chk) (Pk:Nat->Heap->Lay->Prop) (n:Nat) (s:Shared):Prop
 | mk (k:Nat) (ρ:aq) (σ:List O) (l:Lay) (acc:List D):n=items.length+1 - k->k<=items.length->pH chk body k (items.drop k) acc ⟨ρ,σ⟩=some (.ok acc',st')->St y ρ σ l s->gw y Wz h0 l0 a acc l s.heap->Pk k s.heap l->bt y.c y.S (Ja y a) lA hA l s.heap->CpI y Wz h0 l0 a lA hA acc' st' body items chk Pk n s
theorem lD {M:Model} {A:Around} {s:Shared} {c:Code} {R:Result->Shared->Prop} (hq:c.quiet=true) (I:Nat->Shared->Prop)
  (turn:∀ n s,I n s->∀ (Q:Fin->Shared->Prop) (E:Value->Shared->Prop),(∀ f s',R (.ok f) s'->Q (.done f) s')->(∀ m s',m < n->I m s'->Q (.again c) s')->wpAny M (A.under c) (M.den c) Q E s) (n:Nat) (h:I n s):codeAny M A c R s:=
 codeAny_loop hq I (fun n s h=>turn n s h _ _ (fun _ _ h=>h) fun m _ hm hI=>⟨rfl,m,hm,hI⟩) n h
noncomputable def xD (y:Ctx) (elt:Expr) (gens:List Comprehension) (scope:Scope) (pos:Pos) (el:AM D) (Wz:Addr->Prop) (h0:Heap) (l0:Lay) (a:Addr) (cs:List Comprehension) (gs:List Gen):Prop:=
  ∀ (depth:Nat) (c:Comprehension) (g:Gen),Dp y c g->gens[depth]?=some c->(∀ i,gens[depth+1+i]?=cs[i]?)->
  ∀ (it:Value) (items:List D) (chk:Chk) (Me:Addr->Prop) Pk Mid,Wk y it items chk cw Me Pk Mid->(¬ Me a)->(∀ b,Me b->h0.get? b=none)->∀ (lA:Lay) (hA:Heap),(∀ b,Me b->hA.get? b=none)->
  ∀ acc' st' n s,CpI y Wz h0 l0 a lA hA acc' st' (EF el g gs) items chk Pk n s->
   codeAny y.c.M y.A (.compLoop (.ListComp elt gens scope pos) depth it (.ref a) y.env) (CpQ y Wz h0 l0 a lA hA acc' st') s
theorem zi (hel:a9 y elt el) {Wz:Addr->Prop} {h0:Heap} {l0:Lay} {a:Addr} {depth:Nat} {it:Value} (hg:gens[depth+1]?=none) {acc acc1:List D} {ρ:aq} {σ:List O} {l:Lay} {s:Shared} {st2:ASt} (e:qr el [] acc ⟨ρ,σ⟩=some (.ok acc1,st2)) (hs:St y ρ σ l s) (ha:gw y Wz h0 l0 a acc l s.heap)
  {Q:Fin->Shared->Prop} {E:Value->Shared->Prop} (ag:∀ l5 s5,St y st2.ρ st2.σ l5 s5->gw y Wz h0 l0 a acc1 l5 s5.heap->bt y.c y.S (Ja y a) l s.heap l5 s5.heap->Q (.again (.compLoop (.ListComp elt gens scope pos) depth it (.ref a) y.env)) s5):
  wpAny y.c.M y.A (jn elt gens scope pos depth it (.ref a) y.env true) Q E s:=by
 unfold jn;rw [if_pos rfl,hg];show wpAny _ _ ((eval elt y.env>>=fun x=>call (.builtin "list.append") [.ref a,x]>>=fun _=>pure ())>>=fun _=>_) _ _ s;refine wpAny_bind (wpAny_bind ((hel .tt).ok e hs trivial fun ve de ρ5 σ5 l5 s5 e5 hs5 st5 rv5=>?_));by_cases hz:acc.length<=ar
 .rw [if_pos hz] at e5;obtain ⟨q,rfl⟩:=kD e5;cases q;exact wpAny_bind (wH hs5 (ha.keep st5) rv5 hz fun s6 hs6 ha6 st6=>wpAny_pure (wpAny_pure (ag l5 s6 hs6 ha6 ((pn st5).trans st6))))
 .rw [if_neg hz] at e5; cases e5
theorem zW {Wz:Addr->Prop} {h0:Heap} {l0:Lay} {a:Addr} {cs:List Comprehension} {gs:List Gen} {c:Comprehension} {g:Gen} (hc:Dp y c g) (hi:oZ y c.iter cw g.iter) {depth:Nat} {it:Value} (hg:gens[depth+1]?=some c) (hgn:∀ i,gens[depth+1+1+i]?=cs[i]?)
  (ih:xD y elt gens scope pos el Wz h0 l0 a cs gs) {acc acc1:List D} {ρ:aq} {σ:List O} {l:Lay} {s:Shared} {st2:ASt} (e:qr el (g::gs) acc ⟨ρ,σ⟩=some (.ok acc1,st2)) (hs:St y ρ σ l s) (ha:gw y Wz h0 l0 a acc l s.heap)
  {Q:Fin->Shared->Prop} {E:Value->Shared->Prop} (ag:∀ l5 s5,St y st2.ρ st2.σ l5 s5->gw y Wz h0 l0 a acc1 l5 s5.heap->bt y.c y.S (Ja y a) l s.heap l5 s5.heap->Q (.again (.compLoop (.ListComp elt gens scope pos) depth it (.ref a) y.env)) s5):
  wpAny y.c.M y.A (jn elt gens scope pos depth it (.ref a) y.env true) Q E s:=by
 obtain ⟨target,iter,ifs,as⟩:=c;obtain rfl:as=0:=hc.async;unfold jn;rw [if_pos rfl,hg];show wpAny _ _ (eval iter y.env>>=fun x=>standAt iter.pos>>=fun _=>foldedSetIterable iter y.env x>>=fun x=>holding [x] (pyIter x)>>=fun it'=>runOwn (.compStart (.ListComp elt gens scope pos) (depth+1) it' (.ref a) y.env) y.env>>=fun _=>PySem.again (.compLoop (.ListComp elt gens scope pos) depth it (.ref a) y.env)) _ _ s;refine wpAny_bind (wpAny_mono (hi.ok e hs fun items chk it' ρ5 σ5 l6 s6 e5 hs6 st6 hW=>?_) (fun xv _ q=>wpAny_bind (wpAny_standAt (wpAny_bind (wpAny_of_eq (hi.1 xv) (wpAny_bind (wpAny_holding q)))))) fun _ _ q=>q);obtain ⟨Me,Pk,Mid,W,hp,hM⟩:=hW y (Sib.refl ..)
 have inner:=ih (depth+1) ⟨target,iter,ifs,0⟩ g hc hg hgn it' items chk Me Pk Mid W (fun z=>let ⟨o,q⟩:=ha.free.there; aP (hM a z).1 q)
  (fun b q=>ha.step.new (hM b q).1) l s.heap (fun b q=>(hM b q).1) acc1 st2 _ s6 ⟨0,ρ5,σ5,l6,acc,rfl,Nat.zero_le _,e5,hs6,ha.keep st6,hp,pn st6⟩
 refine wpAny_bind (wpAny_runOwn (codeAny_mono (mr hg inner (W.again 0 _ l6 s6 rfl hp _ _ inner)) fun r s' h=>?_) (by intro q; cases q));obtain ⟨f,l7,rfl,hs7,ha7,st7⟩:=h;exact wpAny_pure (ag l7 s' hs7 ha7 st7)
theorem r9 {Wz:Addr->Prop} {h0:Heap} {l0:Lay} {a:Addr} {cs:List Comprehension} {gs:List Gen}
  (tail:∀ {depth it acc acc1 ρ σ l s st2},(∀ i,gens[depth+1+i]?=cs[i]?)->qr el gs acc ⟨ρ,σ⟩=some (.ok acc1,st2)->St y ρ σ l s->gw y Wz h0 l0 a acc l s.heap->∀ {Q:Fin->Shared->Prop} {E:Value->Shared->Prop},(∀ l5 s5,St y st2.ρ st2.σ l5 s5->gw y Wz h0 l0 a acc1 l5 s5.heap->bt y.c y.S (Ja y a) l s.heap l5 s5.heap->Q (.again (.compLoop (.ListComp elt gens scope pos) depth it (.ref a) y.env)) s5)->
   wpAny y.c.M y.A (jn elt gens scope pos depth it (.ref a) y.env true) Q E s):xD y elt gens scope pos el Wz h0 l0 a cs gs:=by
 intro depth c g hc hgd hgn it items chk Me Pk Mid W hMa hM0 lA hA hMA acc' st' n0 s0 hI0;obtain ⟨target,iter,ifs,as⟩:=c;obtain rfl:as=0:=hc.async;refine lD rfl _ (fun n s hI Q E kd ka=>?_) _ hI0;clear hI0;show wpAny _ y.A ((compTurn (.ListComp elt gens scope pos) depth it (.ref a) y.env).onRaise (fun x=>do noteFrame x y.env; theTreesLotGoes x)) Q E s;obtain ⟨k,ρ,σ,l,acc,rfl,hk,e,hs,ha,hpk,stA⟩:=hI;refine wpAny_noted ?_;rw [vm hgd];refine wpAny_bind (wpAny_standAt (wpAny_bind ?_));cases hd:items[k]? with
 | none=>
  have hlen:k=items.length:=Nat.le_antisymm hk (List.getElem?_eq_none_iff.mp hd);rw [List.drop_eq_nil_of_le (Nat.le_of_eq hlen.symm)] at e;obtain ⟨e1,e2⟩:=kg W e;obtain ⟨q,rfl⟩:=kD e2;cases q;exact W.stop k ρ σ l s hd hlen e1 hs hpk _ _ fun l1 s1 hs1 tr1=>wpAny_pure (kd _ _ ⟨_,l1,rfl,hs1,ha.tr tr1 hM0 hMa,tr1.st _ _ _ stA hMA⟩)
 | some d=>
  obtain ⟨hlt,hdk⟩:=List.getElem?_eq_some_iff.mp hd;rw [List.drop_eq_getElem_cons hlt,hdk] at e;obtain ⟨e1,e2⟩:=kg W e
  replace e2:=(congrFun (iu (f:=g.tgt d)) _).symm.trans e2
  refine W.item k d ρ σ l s hd e1 hs hpk _ _ fun v l1 s1 hs1 tr1 rv1 hm1=>wpAny_bind (W.go k v d ρ σ l1 s1 target hc.okt hs1 rv1 hm1 _ _ fun l2 s2 hs2 tr2 rv2 hp2=>?_);have ha2:=(ha.tr tr1 hM0 hMa).tr tr2 hM0 hMa;have stA2:=tr2.st _ _ _ (tr1.st _ _ _ stA hMA) hMA;refine wpAny_bind ((hc.tgt (MP.rep v d) v d (fun _ _ q=>q)).ok e2 hs2 rv2 fun _ _ ρ3 σ3 l3 s3 e3 hs3 st3 _=>?_)
  replace e3:=(congrFun (iu (f:=ey g.tests)) _).symm.trans e3
  refine wpAny_bind ((zX hc.tests .tt).ok e3 hs3 trivial fun b b' ρ4 σ4 l4 s4 e4 hs4 st4 hb=>?_);cases hb;have st24:=st3.trans st4;have ha4:=ha2.keep st24
  have ag:∀ {acc1 ρ5 σ5},pH chk (EF el g gs) (k+1) (items.drop (k+1)) acc1 ⟨ρ5,σ5⟩=some (.ok acc',st')->∀ l5 s5,St y ρ5 σ5 l5 s5->gw y Wz h0 l0 a acc1 l5 s5.heap->bt y.c y.S (Ja y a) l4 s4.heap l5 s5.heap->Q (.again (.compLoop (.ListComp elt gens scope pos) depth it (.ref a) y.env)) s5:=
   fun {acc1 ρ5 σ5} e5 l5 s5 h1 h2 h3=>ka _ s5 (by omega) ⟨k+1,ρ5,σ5,l5,acc1,rfl,hlt,e5,h1,h2,W.stable _ _ _ _ _ (fun b=>b=a) (W.keep hp2 st24) (fun b q z=>hMa (q▸z)) h3,(stA2.trans (pn st24)).trans h3⟩
  cases b with
  | false=>exact wpAny_pure (ag e4 l4 s4 hs4 ha4 (.refl ..))
  | true=>
   rw [if_pos rfl] at e4;rcases om e4 with ⟨acc1,⟨ρ5,σ5⟩,e5,e6⟩ | ⟨X,_,q⟩
   .exact tail hgn e5 hs4 ha4 (ag e6)
   .cases q
theorem zr (hel:a9 y elt el) {Wz:Addr->Prop} {h0:Heap} {l0:Lay} {a:Addr} {cs:List Comprehension} {gs:List Gen} (hG:ca y cs gs):xD y elt gens scope pos el Wz h0 l0 a cs gs:=by
 induction hG with
 | nil=>exact r9 fun hgn=>zi hel (hgn 0)
 | cons h1 h2 _ ih=>exact r9 fun hgn=>zW h1 h2 (hgn 0) (fun i=>(congrArg (gens[·]?) (by omega)).trans (hgn (i+1))) ih
end
noncomputable def eZ (ns:List (Str×NameKind)):List (Str×NameKind):=ns.map fun p=>if p.2=.free then (p.1,.cell) else p
noncomputable def lP (env:Env):List (Str×NameKind)->List (Str×Addr)->List (Str×Addr)
 | [],acc=>acc
 | (n,k)::r,acc=>if (k==.free)=true then lP env r ((n,(env.cells.lookup n).getD 0)::acc) else lP env r acc
theorem lB {scope:Scope} {env:Env} (h:∀ n,(n,NameKind.free)∈scope.names->∃ a,env.cells.lookup n=some a):closureFor scope env=pure (lP env scope.names []):=by
 unfold closureFor
 have key:∀ (ns:List (Str×NameKind)) (acc:List (Str×Addr)),(∀ n,(n,NameKind.free)∈ns->∃ a,env.cells.lookup n=some a)->
   (forIn ns acc fun (x:Str×NameKind) (cs:List (Str×Addr))=>(match x with | (name,kind)=>if (kind==.free)=true then (do let c ← cellOf env name; pure (ForInStep.yield ((name,c)::cs))) else pure (ForInStep.yield cs):Sem _))=pure (lP env ns acc):=by
  intro ns
  induction ns with
  | nil=>intro acc _; rfl
  | cons p r ih=>
   obtain ⟨n,k⟩:=p;intro acc hn;rw [List.forIn_cons];unfold lP;by_cases hk:(k==NameKind.free)=true
   .simp only [hk,if_true];have hkf:k=.free:=by simpa using hk
    obtain ⟨a,ha⟩:=hn n (by rw [hkf]; exact List.mem_cons_self);have hc:cellOf env n=pure a:=by unfold cellOf; rw [ha]
    rw [hc];simp only [pure_bind,ha,Option.getD_some];exact ih _ fun m hm=>hn m (List.mem_cons_of_mem _ hm)
   .simp only [hk,if_false,pure_bind];exact ih _ fun m hm=>hn m (List.mem_cons_of_mem _ hm)
 have:=key scope.names [] h;rw [show (fun cs=>(pure cs:Sem _))=pure from rfl]
 first
 | (simp only [bind_pure]; exact this)
 | exact this
theorem fU (env:Env):∀ ns acc,lP env ns acc=lP env ns []++acc
 | [],acc=>rfl
 | (n,k)::r,acc=>by
  unfold lP;by_cases hk:(k==NameKind.free)=true
  .rw [if_pos hk,if_pos hk,fU env r,fU env r [_]]; simp
  .rw [if_neg hk,if_neg hk,fU env r]
theorem BA (env:Env):∀ ns n a,(n,a)∈lP env ns []->(n,NameKind.free)∈ns/\a=(env.cells.lookup n).getD 0:=by
 intro ns
 induction ns with
 | nil=>intro n a h; cases h
 | cons q r ih=>
  intro n a h;obtain ⟨m,k⟩:=q;unfold lP at h;by_cases hk:(k==NameKind.free)=true
  .rw [if_pos hk,fU] at h;have hkf:k=.free:=by simpa using hk
   subst hkf;rcases List.mem_append.mp h with h | h
   .obtain ⟨h1,h2⟩:=ih n a h; exact ⟨List.mem_cons_of_mem _ h1,h2⟩
   .cases List.mem_singleton.mp h; exact ⟨List.mem_cons_self,rfl⟩
  .rw [if_neg hk] at h;obtain ⟨h1,h2⟩:=ih n a h; exact ⟨List.mem_cons_of_mem _ h1,h2⟩
theorem dT {α:Type}:∀ {l:List (Str×α)} {n:Str} {a:α},(n,a)∈l->∃ b,l.lookup n=some b:=by
 intro l
 induction l with
 | nil=>intro n a h; cases h
 | cons q r ih=>
  intro n a h;obtain ⟨m,b⟩:=q;rw [List.lookup_cons];cases hb:n==m with
  | true=>exact ⟨b,rfl⟩
  | false=>
   rcases List.mem_cons.mp h with h | h
   .cases h; simp at hb
   .exact ih h
theorem AP (env:Env):∀ ns n,(n,NameKind.free)∈ns->∃ a,(n,a)∈lP env ns []:=by
 intro ns
 induction ns with
 | nil=>intro n h; cases h
 | cons q r ih=>
  intro n h;obtain ⟨m,k⟩:=q;unfold lP;rcases List.mem_cons.mp h with h | h
  .cases h;rw [if_pos (by rfl),fU];exact ⟨_,List.mem_append_right _ List.mem_cons_self⟩
  .obtain ⟨a,ha⟩:=ih n h;by_cases hk:(k==NameKind.free)=true
   .rw [if_pos hk,fU]; exact ⟨a,List.mem_append_left _ ha⟩
   .rw [if_neg hk]; exact ⟨a,ha⟩
theorem cO:∀ ns n acc,cellsFrom n ns acc=cellsFrom n ns []++acc
 | [],_,_=>rfl
 | (m,k)::r,n,acc=>by
  unfold cellsFrom;by_cases hk:(k==NameKind.cell)=true
  .rw [if_pos hk,if_pos hk,cO r,cO r _ [_]]; simp
  .rw [if_neg hk,if_neg hk,cO r]
theorem rm:∀ ns n m a,(m,a)∈cellsFrom n ns []->(m,NameKind.cell)∈ns:=by
 intro ns
 induction ns with
 | nil=>intro n m a h; cases h
 | cons q r ih=>
  intro n m a h;obtain ⟨m',k⟩:=q;unfold cellsFrom at h;by_cases hk:(k==NameKind.cell)=true
  .have hkf:k=.cell:=by simpa using hk
   subst hkf;rw [if_pos hk,cO] at h;rcases List.mem_append.mp h with h | h
   .exact List.mem_cons_of_mem _ (ih _ m a h)
   .cases List.mem_singleton.mp h; exact List.mem_cons_self
  .rw [if_neg hk] at h;exact List.mem_cons_of_mem _ (ih _ m a h)
theorem fG:∀ ns n m,(m,NameKind.cell)∈ns->∃ a,(m,a)∈cellsFrom n ns []
 | (m',k)::r,n,m,h=>by
  unfold cellsFrom;rcases List.mem_cons.mp h with h | h
  .cases h;rw [if_pos (by rfl),cO];exact ⟨_,List.mem_append_right _ List.mem_cons_self⟩
  .by_cases hk:(k==NameKind.cell)=true
   .obtain ⟨a,ha⟩:=fG r (n+1) m h;rw [if_pos hk,cO]; exact ⟨a,List.mem_append_left _ ha⟩
   .obtain ⟨a,ha⟩:=fG r n m h;rw [if_neg hk]; exact ⟨a,ha⟩
theorem lF {α:Type}:∀ (l r:List (Str×α)) (n:Str),(l++r).lookup n=(l.lookup n).or (r.lookup n)
 | [],_,_=>by simp
 | (m,a)::l,r,n=>by
  simp only [List.cons_append,List.lookup_cons];cases n==m with
  | true=>rfl
  | false=>exact lF l r n
noncomputable def restr (fs:List String) (ρ:aq):aq:=fs.filterMap fun v=>(ρ.lookup v).map fun d=>(v,d)
theorem kX {fs:List String} {ρ:aq} {v:String} {d:D} (h:(restr fs ρ).lookup v=some d):v∈fs/\ρ.lookup v=some d:=by
 unfold restr at h
 induction fs with
 | nil=>cases h
 | cons u fs ih=>
  rw [List.filterMap_cons] at h;cases hu:ρ.lookup u with
  | none=>
   rw [hu] at h;obtain ⟨h1,h2⟩:=ih h;exact ⟨List.mem_cons_of_mem _ h1,h2⟩
  | some e=>
   rw [hu] at h;simp only [Option.map_some,List.lookup_cons] at h;cases hb:v==u with
   | true=>
    rw [hb] at h; cases h;have:v=u:=by simpa using hb
    subst this;exact ⟨List.mem_cons_self,hu⟩
   | false=>
    rw [hb] at h;obtain ⟨h1,h2⟩:=ih h;exact ⟨List.mem_cons_of_mem _ h1,h2⟩
section
variable {x:Ctx} {ρ:aq} {σ σ':List O} {l l':Lay} {s s':Shared}
theorem St.backK (hs:St x ρ σ l s) (la:cg s.heap l s'.heap l') (hm:∀ a o,s.heap.get? a=some o->Mine.Env.here x.env a\/a∈x.S->(l'.has a->l.has a)/\(l'.F a->l.F a\/l.has a))
  (sl:∀ a o,¬ l.has a->Mine.Env.here x.env a->s.heap.get? a=some o->∃ sl,s'.heap.get? a=some {o with slots:=sl}) (inv:Inv x.c σ' l' s'.heap) (ff:s'.heap.FunFrames x.c.base x.fs) (hg:s'.gens=x.c.gens) (ho:s'.os=x.c.os):St x ρ σ' l' s':=
 ⟨inv,hs.env.of_step la (fun a o h1 e hh z=>h1 ((hm a o e (.inl hh)).1 z)) (fun a o h1 h2 e hh z=>((hm a o e (.inl hh)).2 z).elim h2 h1) (fun a o h1 _ hh e=>sl a o h1 hh e),ff,
  fun a ha=>let ⟨o,e⟩:=FunFrames.frames_there hs.ff a ha; ⟨fun z=>((hm a o e (.inr ha)).2 z).elim (hs.foff a ha).1 (hs.foff a ha).2,fun z=>(hs.foff a ha).2 ((hm a o e (.inr ha)).1 z)⟩,hg,ho⟩
theorem St.back {S':List Addr} {W':Addr->Prop} (hs:St x ρ σ l s) (st:bt x.c S' W' l s.heap l' s'.heap) (hW:∀ a o,s.heap.get? a=some o->¬ W' a) (inv:Inv x.c σ' l' s'.heap) (ff:s'.heap.FunFrames x.c.base x.fs) (hg:s'.gens=x.c.gens) (ho:s'.os=x.c.os):St x ρ σ' l' s':=
 hs.backK st.later (fun a _ e _=>⟨fun z=>(st.mu' a z).elim id fun q=>aP q e,fun z=>(st.F' a z).elim .inl fun z=>z.elim .inr fun q=>aP q e⟩) (fun a o h1 _ e=>st.slots a o h1 (hW a o e) e) inv ff hg ho
end
theorem kP {M:Model} {A:Around} {E:Value->Shared->Prop} {s:Shared} {scope:Scope} {env:Env} {cl:List (Str×Addr)} {Q:Env->Shared->Prop}
  (hQ:Q {scope,locals:=s.heap.objs.size,globals:=env.globals,cells:=cellsFrom (s.heap.objs.size+1) scope.names cl,qual:=env.qual,func:=none,code:=env.code,frame:=env.frame,builtins:=env.builtins}
   {s with heap:=pushCells (s.heap.push {cls:=.type "dict",data:=.dict #[]}) scope.names}):
  wpAny M A (newFunctionEnv scope env.globals cl [] env.qual none .none (some env)) Q E s:=by
 simp only [newFunctionEnv,Option.isSome_some,if_true];refine wpAny_bind (wpAny_alloc ?_);refine wpAny_bind (wpAny_layCells _ (fun name kind cells=>by cases hkc:kind==NameKind.cell <;> simp [hkc]) _ _ _ _ ?_);refine wpAny_bind (wpAny_pure (wpAny_pure ?_));rw [show ({s with heap:=s.heap.push {cls:=.type "dict",data:=.dict #[]}}:Shared).heap.objs.size=s.heap.objs.size+1 from Heap.size_push ..];exact hQ
theorem cu:∀ {l:List (Str×NameKind)} {n:Str} {k:NameKind},(l.map (·.1)).Nodup->(n,k)∈l->l.lookup n=some k:=by
 intro l
 induction l with
 | nil=>intro n k _ h; cases h
 | cons q r ih=>
  intro n k hn h;obtain ⟨m,j⟩:=q;rw [List.map_cons,List.nodup_cons] at hn;rw [List.lookup_cons];rcases List.mem_cons.mp h with h | h
  .cases h; simp
  .have:(n==m)=false:=by
    have:n≠m:=fun e=>hn.1 (e▸List.mem_map.mpr ⟨(n,k),h,rfl⟩)
    simpa using this
   rw [this]; exact ih hn.2 h
theorem lw {scope:Scope} {env:Env} (hk:env.scope.kind=.function) (hf:∀ n,(n,NameKind.free)∈scope.names->env.kindOf n=some .cell):(relabel scope env).names=eZ scope.names:=by
 unfold relabel eZ;dsimp only;refine List.map_congr_left fun p hp=>?_;obtain ⟨n,k⟩:=p;by_cases h:k=.free
 .subst h;simp [hk,hf n hp]
 .have:(k==NameKind.free)=false:=by simpa using h
  simp [this,h]
theorem eO:∀ (ns:List (Str×NameKind)) (n:Str),(eZ ns).lookup n=(ns.lookup n).map fun k=>if k=.free then .cell else k
 | [],_=>rfl
 | (m,k)::r,n=>by
  unfold eZ;rw [List.map_cons];by_cases hk:k=.free
  .subst hk;simp only [if_true,List.lookup_cons];cases n==m with
   | true=>rfl
   | false=>exact eO r n
  .simp only [hk,if_false,List.lookup_cons];cases n==m with
   | true=>simp [hk]
   | false=>exact eO r n
noncomputable def mh (ns:List (Str×NameKind)):List Str:=(ns.filter fun p=>p.2==.local||p.2==.cell).map (·.1)
theorem qb {ns:List (Str×NameKind)} {n:Str} (h:n∈mh ns):(n,NameKind.local)∈ns\/(n,NameKind.cell)∈ns:=by
 obtain ⟨⟨m,k⟩,hm,rfl⟩:=List.mem_map.mp h;obtain ⟨h1,h2⟩:=List.mem_filter.mp hm;cases k <;> simp at h2 <;> first | exact .inl h1 | exact .inr h1
structure mt (x:Ctx) (scope:Scope):Prop where
 kind:scope.kind=.function
 nodup:(scope.names.map (·.1)).Nodup
 free:∀ n,(n,NameKind.free)∈scope.names->x.env.kindOf n=some .cell
noncomputable def Ctx.child (x:Ctx) (scope:Scope) (h:mt x scope) (C:Addr) (cells:List (Str×Addr)) (hC:x.c.base.get? C=none) (hcells:∀ n a,cells.lookup n=some a->x.c.base.get? a=none):Ctx where
 c:=x.c
 room:=x.room
 A:=x.A
 env:={scope:=relabel scope x.env,locals:=C,globals:=x.env.globals,cells:=cells,qual:=x.env.qual,func:=none,code:=x.env.code,frame:=x.env.frame,builtins:=x.env.builtins}
 wr:=mh scope.names
 fs:=x.fs
 quiet:=x.quiet
 hfr:=x.hfr
 hfn:=h.kind
 hgl:=x.hgl
 hbt:=x.hbt
 hfr0:=x.hfr0
 hdep:=x.hdep
 huni:=x.huni
 hquiet:=x.hquiet
 hbL:=hC
 hbC:=hcells
 hwr:=fun n hn=>by
  have e:Env.kindOf {scope:=relabel scope x.env,locals:=C,globals:=x.env.globals,cells:=cells,qual:=x.env.qual,func:=none,code:=x.env.code,frame:=x.env.frame,builtins:=x.env.builtins} n=(eZ scope.names).lookup n:=by
   show (relabel scope x.env).names.lookup n=_;rw [lw x.hfn h.free]
  rw [e,eO];rcases qb hn with q | q
  .rw [cu h.nodup q]; exact .inl rfl
  .rw [cu h.nodup q]; exact .inr rfl
section
variable {x:Ctx} {ρ:aq} {σ:List O} {l:Lay} {s:Shared}
theorem St.off (hs:St x ρ σ l s) {a:Addr} (q:s.heap.get? a=none):¬ l.F a/\¬ l.has a:=⟨fun z=>let ⟨_,e⟩:=hs.inv.flt a z; aP q e,fun z=>let ⟨_,e⟩:=hs.inv.mlt a z; aP q e⟩
inductive xn (x:Ctx) (scope:Scope) (h h':Heap) (n:Str) (a:Addr):Prop
 | new:(n,a)∈cellsFrom (h.objs.size+1) scope.names []->h'.IsCell a none->h.objs.size+1<=a->h.get? a=none->xn x scope h h' n a
 | old:(n,NameKind.free)∈scope.names->x.env.cells.lookup n=some a->xn x scope h h' n a
structure yM (x y:Ctx) (scope:Scope) (C:Addr) (cells:List (Str×Addr)):Prop where
 c:y.c=x.c
 A:y.A=x.A
 fs:y.fs=x.fs
 quiet:y.quiet=x.quiet
 room:y.room=x.room
 env:y.env={scope:=relabel scope x.env,locals:=C,globals:=x.env.globals,cells:=cells,qual:=x.env.qual,func:=none,code:=x.env.code,frame:=x.env.frame,builtins:=x.env.builtins}
 wr:y.wr=mh scope.names
 names:y.env.scope.names=eZ scope.names
inductive CM (x:Ctx) (scope:Scope) (C:Addr) (cells:List (Str×Addr)) (ρ:aq) (σ:List O) (l:Lay) (s:Shared) (h':Heap):Prop
 | mk (y:Ctx):yM x y scope C cells->St y ρ σ l {s with heap:=h'}->(∀ b o,s.heap.get? b=some o->h'.get? b=some o)->(∀ a o,s.heap.get? a=some o->¬ y.W a)->(∀ a o,s.heap.get? a=some o->Mine.Env.here y.env a->Mine.Env.here x.env a)->CM x scope C cells ρ σ l s h'
theorem oy {scope:Scope} (hsc:mt x scope) (hs:St x ρ σ l s) (fs:List String) (hfs:∀ v∈fs,(Str.o v,NameKind.free)∈scope.names) {h':Heap} (hh:pushCells (s.heap.push {cls:=.type "dict",data:=.dict #[]}) scope.names=h')
  {cells:List (Str×Addr)} (hcl:cellsFrom (s.heap.objs.size+1) scope.names (lP x.env scope.names [])=cells):CM x scope s.heap.objs.size cells (restr fs ρ) σ l s h':=by
 have hC0:s.heap.get? s.heap.objs.size=none:=bi _;have keep:∀ b o,s.heap.get? b=some o->h'.get? b=some o:=fun b o e=>by rw [← hh]; exact pushCells_keeps _ _ b o (Heap.get?_push_of_some _ e)
 have ok:=cellsFrom_ok scope.names (s.heap.push {cls:=.type "dict",data:=.dict #[]}) (s.heap.objs.size+1) [] ⟨fun _ _ hm=>(nomatch hm),List.Pairwise.nil⟩ (by rw [Heap.size_push]; exact Nat.le_refl _);rw [Heap.size_push,hh] at ok;rw [cO] at hcl
 have cs:∀ n a,cells.lookup n=some a->xn x scope s.heap h' n a:=by
  intro n a e;rw [← hcl,lF] at e;cases h1:(cellsFrom (s.heap.objs.size+1) scope.names []).lookup n with
  | some b=>
   rw [h1] at e; cases e;have hm:=mem_of_lookup h1;obtain ⟨q1,q2⟩:=ok.empty n a hm;exact .new hm q1 q2 (Heap.get?_none_of_le (Nat.le_of_succ_le q2))
  | none=>
   rw [h1] at e;obtain ⟨q1,rfl⟩:=BA _ _ n a (mem_of_lookup e);obtain ⟨b,hb⟩:=hs.env.cellk n (hsc.free n q1);exact .old q1 (by rw [hb]; rfl)
 have hns:h'.Ns s.heap.objs.size (fun _=>none):=by rw [← hh]; exact (Heap.Ns.new s.heap (.type "dict")).keeps (pushCells_keeps _ _)
 have g:=hs.grow (s':={s with heap:=h'}) keep rfl rfl;have bn:∀ {a},s.heap.get? a=none->x.c.base.get? a=none:=ju hs.inv.base
 have hcb:∀ n a,cells.lookup n=some a->x.c.base.get? a=none:=fun n a e=>by
  cases cs n a e with
  | new _ _ _ q=>exact bn q
  | old _ q=>exact x.hbC n a q
 have hre:=lw x.hfn hsc.free;have kindE:∀ n,(relabel scope x.env).names.lookup n=(scope.names.lookup n).map fun k=>if k=.free then .cell else k:=fun n=>by rw [hre,eO]
 have kindF:∀ {v},v∈fs->(relabel scope x.env).names.lookup (Str.o v)=some .cell:=fun hv=>by rw [kindE,cu hsc.nodup (hfs _ hv)]; rfl
 refine .mk (x.child scope hsc s.heap.objs.size cells (bn hC0) hcb) ⟨rfl,rfl,rfl,rfl,rfl,rfl,rfl,hre⟩
  ⟨g.1.inv,⟨⟨_,hns,fun v d e k=>?_⟩,fun n hk=>?_,fun n a e=>?_,fun v d a e k ce=>?_,fun v d e=>.inr (kindF (kX e).1),fun n m a e1 e2=>?_,hs.off hC0,fun n a e=>?_⟩,g.1.ff,g.1.foff,hs.gens,hs.os⟩ keep (fun a o e z=>?_) fun a o e z=>?_
 .cases (kindF (kX e).1).symm.trans k
 .obtain ⟨k,hk1,hk2⟩:=Option.map_eq_some_iff.mp ((kindE n).symm.trans hk);have hm:=mem_of_lookup hk1;by_cases hkf:k=.free
  .subst hkf;obtain ⟨a,ha⟩:=AP x.env scope.names n hm;exact dT (show (n,a)∈cells from hcl▸List.mem_append_right _ ha)
  .rw [if_neg hkf] at hk2;subst hk2;obtain ⟨a,ha⟩:=fG scope.names (s.heap.objs.size+1) n hm;exact dT (show (n,a)∈cells from hcl▸List.mem_append_left _ ha)
 .cases cs n a e with
  | new _ q _ _=>exact ⟨none,q⟩
  | old _ q=>exact let ⟨v,o,h1,h2⟩:=hs.env.cell n a q; ⟨v,o,keep a o h1,h2⟩
 .obtain ⟨h1,h2⟩:=kX e;have hf:=hfs v h1;cases cs _ a ce with
  | new q _ _ _=>cases (cu hsc.nodup (rm _ _ _ _ q)).symm.trans (cu hsc.nodup hf)
  | old _ q=>exact let ⟨val,⟨o,q1,q2⟩,q3⟩:=hs.env.cellv v d a h2 (hsc.free _ hf) q; ⟨val,⟨o,keep a o q1,q2⟩,q3.later g.2.later⟩
 .cases cs n a e1 with
  | new q1 _ _ qn=>cases cs m a e2 with
   | new q2 _ _ _=>exact name_of_addr ok.apart q1 q2
   | old _ q2=>exact let ⟨_,q⟩:=hs.env.cthere q2; aP qn q
  | old _ q1=>cases cs m a e2 with
   | new _ _ _ qm=>exact let ⟨_,q⟩:=hs.env.cthere q1; aP qm q
   | old _ q2=>exact hs.env.apart n m a q1 q2
 .cases cs n a e with
  | new _ _ q1 q2=>exact ⟨(hs.off q2).1,(hs.off q2).2,Nat.ne_of_gt q1⟩
  | old _ q=>exact ⟨(hs.env.offC n a q).1,(hs.env.offC n a q).2.1,fun z=>let ⟨_,q⟩:=hs.env.cthere q; aP hC0 ((show a=s.heap.objs.size from z)▸q)⟩
 .rcases z with z | ⟨n,hn,z⟩
  .exact aP hC0 ((show a=s.heap.objs.size from z)▸e)
  .cases cs n a z with
   | new _ _ _ q=>exact aP q e
   | old q _=>
    have e1:=cu hsc.nodup q;rcases qb hn with w | w <;> cases (cu hsc.nodup w).symm.trans e1
 .rcases z with z | ⟨n,z⟩
  .exact aP hC0 ((show a=s.heap.objs.size from z)▸e)
  .cases cs n a z with
   | new _ _ _ q=>exact aP q e
   | old _ q=>exact .inr ⟨n,q⟩
open Classical in
noncomputable def without (h:Heap) (B:Addr->Prop):Heap:=⟨h.objs.mapIdx fun i o=>if B i then {o with data:=.freed} else o,h.life⟩
theorem iZ {h:Heap} {B:Addr->Prop} {a:Addr} (hb:¬ B a):(without h B).get? a=h.get? a:=by
 unfold without Heap.get?;simp only [Array.getElem?_mapIdx];cases h.objs[a]? with
 | none=>rfl
 | some o=>simp only [Option.map_some,if_neg hb]
theorem jM {h:Heap} {B:Addr->Prop} {a:Addr} (hb:B a):(without h B).get? a=none:=by
 unfold without Heap.get?;simp only [Array.getElem?_mapIdx];cases h.objs[a]? with
 | none=>rfl
 | some o=>simp only [Option.map_some,if_pos hb]
theorem gk {h:Heap} {B:Addr->Prop} {a:Addr} {o:Obj} (e:(without h B).get? a=some o):¬ B a/\h.get? a=some o:=by
 by_cases hb:B a
 .rw [jM hb] at e; cases e
 .exact ⟨hb,by rw [← iZ hb]; exact e⟩
theorem bt.without {c:Cx} {S:List Addr} {W':Addr->Prop} {l:Lay} {h:Heap} (B:Addr->Prop) (hF:∀ b,B b->¬ l.F b):bt c S W' l (without h B) l h:=
 ⟨⟨fun _ _ e=>e,fun _ e=>e,fun a o _ e=>(gk e).2⟩,fun a o e=>⟨o,(gk e).2⟩,fun _ q=>.inl q,fun _ q=>.inl q,fun a o _ _ _ e=>(gk e).2,fun a o _ _ e=>⟨o.slots,(gk e).2⟩⟩
theorem St.back' {σ':List O} {l':Lay} {s':Shared} {S':List Addr} {W' B:Addr->Prop} (hs:St x ρ σ l s) (hB:∀ b,B b->cP x l s.heap b) (st:bt x.c S' W' l (without s.heap B) l' s'.heap) (hW:∀ a o,s.heap.get? a=some o->¬ B a->¬ W' a) (inv:Inv x.c σ' l' s'.heap) (ff:s'.heap.FunFrames x.c.base x.fs) (hg:s'.gens=x.c.gens) (ho:s'.os=x.c.os):St x ρ σ' l' s':=by
 have la:cg s.heap l s'.heap l':=⟨st.later.mu,st.later.F,fun a o q e=>st.later.same a o q (by rw [iZ fun z=>(hB a z).F q]; exact e)⟩
 have ex:∀ {a o},s.heap.get? a=some o->¬ B a->(without s.heap B).get? a=some o:=fun e h=>by rw [iZ h]; exact e
 have nb:∀ {a},Mine.Env.here x.env a\/a∈x.S->¬ B a:=fun h z=>h.elim (hB _ z).here (hB _ z).fs;exact hs.backK la (fun a o e h=>⟨fun z=>(st.mu' a z).elim id fun q=>aP q (ex e (nb h)),fun z=>(st.F' a z).elim .inl fun z=>z.elim .inr fun q=>aP q (ex e (nb h))⟩) (fun a o h1 hh e=>st.slots a o h1 (hW a o e (nb (.inl hh))) (ex e (nb (.inl hh)))) inv ff hg ho
end
structure tI (x:Ctx) (scope:Scope) (elt:Expr) (c:Comprehension) (cs:List Comprehension) (g:Gen) (gs:List Gen) (el:AM D):Prop where
 sc:mt x scope
 async:c.is_async=0
 iter:oZ x c.iter cw g.iter
 body:∀ y:Ctx,y.c=x.c->y.quiet=x.quiet->y.room=x.room->y.env.scope.names=eZ scope.names->y.wr=mh scope.names->a9 y elt el/\Dp y c g/\ca y cs gs
noncomputable def rY (g:Gen) (gs:List Gen) (el:AM D) (p:List D×Chk):AM (List D):=
 pH p.2 (fun d acc=>g.tgt d>>=fun _=>ey g.tests>>=fun b=>if b=true then qr el gs acc else pure acc) 0 p.1 []
noncomputable def xL (fs:List String) (f:AM (List D)):AM (List D):=fun st=>(f ⟨restr fs st.ρ,st.σ⟩).bind fun q=>match q.1 with
 | .ok ds=>some (.ok ds,⟨st.ρ,q.2.σ⟩)
 | .error _=>none
theorem r6 {fs:List String} {f:AM (List D)} {st st':ASt} {r:Except Value (List D)} (e:xL fs f st=some (r,st')):∃ ds st2,f ⟨restr fs st.ρ,st.σ⟩=some (.ok ds,st2)/\r=.ok ds/\st'=⟨st.ρ,st2.σ⟩:=by
 obtain ⟨⟨q,st2⟩,h,e⟩:=Option.bind_eq_some_iff.mp e;cases q with
 | ok ds=>cases e; exact ⟨ds,st2,h,rfl,rfl⟩
 | error X=>cases e
section
variable {x:Ctx} {scope:Scope} {elt:Expr} {c:Comprehension} {cs:List Comprehension} {g:Gen} {gs:List Gen} {el:AM D}
theorem yM.step {y:Ctx} {C:Addr} {cells:List (Str×Addr)} (q:yM x y scope C cells) {W:Addr->Prop} {l l':Lay} {h h':Heap}:bt y.c y.S W l h l' h'↔bt x.c x.S W l h l' h':=by
 unfold Ctx.S;rw [q.c,q.fs]
structure un (x:Ctx) (l0:Lay) (h0:Heap) (a C:Addr) (ds:List D) (l:Lay) (s:Shared):Prop where
 st:Sp x l0 h0 l s.heap
 fC:cP x l s.heap C
 nC:h0.get? C=none
 ns:∃ m,s.heap.Ns C m
 fa:cP x l s.heap a
 na:h0.get? a=none
 ne:C≠a
 list:∃ vs,s.heap.PlainList a vs/\au s.heap l vs.toList ds
theorem xE (hc:tI x scope elt c cs g gs el) {y:Ctx} {C:Addr} {cells:List (Str×Addr)} (hch:yM x y scope C cells) {pos:Pos} {ρ ρ':aq} {σ:List O} {l l0:Lay} {h0 h3 h4:Heap} {s:Shared} {it:Value} {items:List D} {chk:Chk} {a:Addr} {ds:List D} {st2:ASt} (hs:St x ρ σ l s) (stA:Sp x l0 h0 l s.heap) (hW:iY x cw h0 it items chk l s.heap)
  (up:∀ b o,s.heap.get? b=some o->h3.get? b=some o) (ha0:s.heap.get? a=none) (hal:h3.get? a=some {cls:=.type "list",data:=.seq #[]}) (hC0:s.heap.get? C=none) (hCa:C≠a) (hy:St y ρ' σ l {s with heap:=h4}) (keep:∀ b o,h3.get? b=some o->h4.get? b=some o) (hnew:∀ b o,h3.get? b=some o->¬ y.W b)
  (here:∀ b o,h3.get? b=some o->Mine.Env.here y.env b->Mine.Env.here x.env b) (e2:rY g gs el (items,chk) ⟨ρ',σ⟩=some (.ok ds,st2)) {R:Result->Shared->Prop}
  (fin:∀ f l' s',St x ρ st2.σ l' s'->un x l0 h0 a C ds l' s'->R (.ok f) s'):
  codeAny x.c.M x.A (.compStart (.ListComp elt (c::cs) scope pos) 0 it (.ref a) y.env) R {s with heap:=h4}:=by
 obtain ⟨target,iter,ifs,as⟩:=c;obtain rfl:as=0:=hc.async;obtain ⟨hbe,hbc,hbg⟩:=hc.body y hch.c hch.quiet hch.room hch.names hch.wr;have hyL:y.env.locals=C:=by rw [hch.env]
 obtain ⟨Me,Pk,Mid,W,hpk,hMe⟩:=hW y ⟨hch.c,hch.A,hch.fs,hch.quiet,fun b o e=>here b o (up b o e)⟩
 have st4:bt y.c y.S y.W l s.heap l h4:=
  ⟨.of_off fun b o _ e=>keep b o (up b o e),fun b o e=>⟨o,keep b o (up b o e)⟩,fun _ q=>.inl q,fun _ q=>.inl q,fun b o _ _ _ e=>keep b o (up b o e),fun b o _ _ e=>⟨o.slots,keep b o (up b o e)⟩⟩
 have haF:cP x l h4 a:=hs.free_new ha0 ⟨_,keep _ _ hal⟩;have hCF:cP x l h4 C:=hs.free_new hC0 (hyL▸hy.env.lthere);have hacc:gw y (fun b=>x.W b\/y.W b) h0 l0 a [] l h4:=⟨((hch.step.mpr stA).weaken (fun _ _ _ q=>.inl q) fun _ _ _ q=>q).trans (st4.weaken (fun _ _ _ q=>.inr q) fun _ _ _ q=>q),fun _ q=>.inr q,haF.sib ⟨hch.c,hch.A,hch.fs,hch.quiet,here⟩ ⟨_,hal⟩,stA.new ha0,#[],⟨0,keep _ _ hal⟩,.nil⟩
 have hpk4:=W.keep hpk st4
 have inner:=zr (gens:=⟨target,iter,ifs,0⟩::cs) (scope:=scope) (pos:=pos) hbe hbg 0 ⟨target,iter,ifs,0⟩ g hbc rfl (fun i=>congrArg (fun j=>((⟨target,iter,ifs,0⟩::cs:List Comprehension))[j]?) (Nat.add_comm 1 i)) it items chk Me Pk Mid W (fun z=>let ⟨_,q⟩:=(hMe _ z).2.there; aP ha0 q) (fun b q=>(hMe b q).1) l (without s.heap Me) (fun b q=>jM q)
  ds st2 _ {s with heap:=h4} ⟨0,ρ',σ,l,[],rfl,Nat.zero_le _,e2,hy,hacc,hpk4,(bt.without Me fun b q=>(hMe b q).2.F).trans (pn st4)⟩
 rw [← hch.c,← hch.A];refine codeAny_mono (mr rfl inner (W.again 0 _ l _ rfl hpk4 _ _ inner)) fun r s' h=>?_;obtain ⟨f,l',rfl,hy',hacc',stW'⟩:=h;refine fin f l' s' (hs.back' (fun b q=>(hMe b q).2) (hch.step.mp stW') (fun b o e _ z=>z.elim (hnew b o (up b o e)) fun z=>aP ha0 (z▸e)) (hch.c▸hy'.inv) (by rw [← hch.c,← hch.fs]; exact hy'.ff) (by rw [← hch.c]; exact hy'.gens) (by rw [← hch.c]; exact hy'.os))
  ⟨(hch.step.mp hacc'.step).weaken (fun b o e z=>z.elim id fun z=>let ⟨o',e'⟩:=stA.there b o e; (hnew b o' (up _ _ e') z).elim) fun _ _ _ q=>q,⟨hyL▸hy'.env.lthere,hCF.base,hyL▸hy'.env.offL.1,hyL▸hy'.env.offL.2,hCF.here,hCF.fs⟩,stA.new hC0,hyL▸hy'.env.loc.imp fun _ q=>q.1,
   ⟨hacc'.free.there,haF.base,hacc'.free.F,hacc'.free.has,haF.here,haF.fs⟩,stA.new ha0,hCa,hacc'.list⟩
theorem rW (hc:tI x scope elt c cs g gs el) (fs:List String) (hfs:∀ v∈fs,(Str.o v,NameKind.free)∈scope.names) {pos:Pos} {ρ:aq} {σ:List O} {l:Lay} {s:Shared} {δ:Type} {K:List D->AM δ} {r:Except Value δ} {st':ASt}
  (hs:St x ρ σ l s) (e:(g.iter>>=fun p=>xL fs (rY g gs el p)>>=K) ⟨ρ,σ⟩=some (r,st')) {use:Option (Value->Sem Unit)} {Q:Value->Shared->Prop} {E:Value->Shared->Prop}
  (fin:∀ f ds ρ1 σ1 a C l' s',K ds ⟨ρ1,σ1⟩=some (r,st')->St x ρ1 σ1 l' s'->un x l s.heap a C ds l' s'->compPost x.c.M x.A E use Q (.ref a) C (.ok f) s') (ke:∀ e s1,ErQ x l s.heap r st' e s1->E e s1):
  wpAny x.c.M x.A (comprehension (.ListComp elt (c::cs) scope pos) scope x.env (firstIterPos (c::cs) pos) (newList []) (firstAsync (c::cs)) (firstIter (c::cs) x.env) use) Q E s:=by
 obtain ⟨target,iter,ifs,as⟩:=c;obtain rfl:as=0:=hc.async;refine wpAny_comprehension_free (cl:=lP x.env scope.names []) rfl hc.iter.1 (lB fun n hn=>hs.env.cellk n (hc.sc.free n hn)) hc.sc.kind (fun z hz hl=>cu hc.sc.nodup (by rw [← hl]; exact hz)) ?_;refine hc.iter.run e hs (fun items chk it ρ1 σ1 l2 s2 e2 hs2 stA hW=>?_) ke;rcases om e2 with ⟨ds,st3,e3,e4⟩ | ⟨X,e3,_⟩
 case inr=>obtain ⟨_,_,_,q,_⟩:=r6 e3; cases q
 obtain ⟨_,st2,e3,q,rfl⟩:=r6 e3;cases q;refine wpAny_newObj_type (kP ?_) (by show (0:Nat)<=sizeLine; exact Nat.zero_le _);obtain ⟨hs3,_⟩:=hs2.push {cls:=.type "list",data:=.seq #[]} s2.toks;obtain ⟨y,hch,hy,keep,hnew,here⟩:=oy hc.sc hs3 fs hfs rfl rfl;have inner:=xE hc hch (pos:=pos) (a:=s2.heap.objs.size) hs2 stA hW (fun b o e=>Heap.get?_push_of_some _ e) (bi _) (Heap.get?_push_size _ rfl) (Heap.get?_none_of_le (by rw [Heap.size_push]; exact Nat.le_succ _)) (by rw [Heap.size_push]; exact Nat.succ_ne_self _) hy keep hnew here e3 fun f l' s' h1 h2=>fin f ds _ _ _ _ l' s' e4 h1 h2;rw [hch.env] at inner;exact inner
end
noncomputable def Ab (keep:Bool) (ds:List D):AM D:=fun st=>match (if keep=true then none else dk ds) with
 | some ps=>some (.ok (.py (.list ps)),st)
 | none=>some (.ok (.obj st.σ.length),⟨st.ρ,st.σ++[.list ds]⟩)
noncomputable def bf (keep:Bool) (fs:List String) (g:Gen) (gs:List Gen) (el:AM D):AM D:=g.iter>>=fun p=>xL fs (rY g gs el p)>>=Ab keep
section
variable {x:Ctx}
inductive Gk (x:Ctx) (l0:Lay) (h0:Heap) (r:Except Value D) (st':ASt) (a:Addr) (l:Lay) (s:Shared):Prop
 | mk (d:D) (l':Lay):r=.ok d->St x st'.ρ st'.σ l' s->Sp x l0 h0 l' s.heap->Rep s.heap l' (.ref a) d->(∀ b,b≠a->cP x l s.heap b->cP x l' s.heap b)->Gk x l0 h0 r st' a l s
theorem kA {keep:Bool} {ρ:aq} {σ:List O} {l l0:Lay} {h0:Heap} {s:Shared} {a:Addr} {ds:List D} (hs:St x ρ σ l s) (st:bt x.c x.S x.W l0 h0 l s.heap) (hf:cP x l s.heap a) (hn:h0.get? a=none) (hl:∃ vs,s.heap.PlainList a vs/\au s.heap l vs.toList ds)
  {r:Except Value D} {st':ASt} (e:Ab keep ds ⟨ρ,σ⟩=some (r,st')):Gk x l0 h0 r st' a l s:=by
 obtain ⟨vs,hl,hr⟩:=hl;unfold Ab at e;cases hk:(if keep=true then none else dk ds) with
 | some ps=>
  rw [hk] at e;cases e
  have he:dk ds=some ps:=by
   cases keep with
   | true=>cases hk
   | false=>exact hk
  obtain ⟨n,ho⟩:=hl;have la:=cg.freeze s.heap l a;exact ⟨_,l.freeze a,rfl,hs.freeze hf,st.freeze hn,.py (.list (.inr rfl) ho ((hr.rp he).mono la.F la.same)),fun b hb q=>⟨q.there,q.base,fun z=>z.elim q.F hb,q.has,q.here,q.fs⟩⟩
 | none=>
  rw [hk] at e;cases e;refine ⟨_,l.add (a,a),rfl,hs.add (p:=(a,a)) hf hf (o:=.list ds) ⟨vs,hl,hr⟩ rfl,st.add hn hn,.obj (p:=(a,a)) ?_,fun b hb q=>⟨q.there,q.base,q.F,fun z=>(Lay.has_add.mp z).elim q.has fun z=>z.elim hb hb,q.here,q.fs⟩⟩;show (l.mu++[(a,a)])[σ.length]?=_;rw [← hs.inv.len]; exact List.getElem?_concat_length
theorem bq {scope:Scope} {elt:Expr} {c:Comprehension} {cs:List Comprehension} {g:Gen} {gs:List Gen} {el:AM D} {pos:Pos} (keep:Bool) (fs:List String) (hc:tI x scope elt c cs g gs el) (hfs:∀ v∈fs,(Str.o v,NameKind.free)∈scope.names):
  a9 x (.ListComp elt (c::cs) scope pos) (bf keep fs g gs el):=fun P ρ σ l s r st' e hs _=>by
 rw [eval_ListComp];refine rW (use:=none) hc fs hfs hs e (fun _ ds ρ1 σ1 a C l' s' e3 hs' B=>?_) fun _ _ q=>q;obtain ⟨m,hNs⟩:=B.ns;refine ⟨m,hNs,fun h' hsb=>?_⟩;have hkeep:∀ b o,¬ b=C->s'.heap.get? b=some o->h'.get? b=some o:=fun b o hb e=>cK hsb b o hb e;obtain ⟨vs,⟨o,ho⟩,hr⟩:=B.list;have ho':=hkeep a _ (Ne.symm B.ne) ho;obtain ⟨d,l'',h1,h2,h3,h4,_⟩:=kA (s:={s' with heap:=h'}) (hs'.other (fun b=>b=C) (fun b hb=>hb▸B.fC) hkeep rfl rfl) (B.st.other (fun b=>b=C) (fun b hb=>hb▸B.nC) hkeep) (B.fa.at ⟨_,ho'⟩) B.na ⟨vs,⟨o,ho'⟩,hr.later (.of_off fun b o q=>hkeep b o fun z=>B.fC.F (z▸q))⟩ e3;exact ⟨d,l'',h1,h2,h3,h4⟩
theorem gV {v:String} {scope:Scope} {elt:Expr} {c:Comprehension} {cs:List Comprehension} {g:Gen} {gs:List Gen} {el:AM D} {pos pos' spos:Pos} (keep:Bool) (fs:List String) (hc:tI x scope elt c cs g gs el) (hfs:∀ v∈fs,(Str.o v,NameKind.free)∈scope.names)
  (hw:Str.o v∈x.wr) (hs:swapsWith (.ListComp elt (c::cs) scope pos) (some (.Name (Str.o v) pos')) spos.line x.env=pure true):iJ x (.Assign [.Name (Str.o v) pos'] (.ListComp elt (c::cs) scope pos) spos) (bG v (bf keep fs g gs el)):=fun P ρ σ l s r st' e hs' _=>by
 unfold bG bf at e;simp only [iu] at e;rw [exec_Assign_Name_used _ _ _ _ hs];refine wpAny_bind (wpAny_standAt (wpAny_bind ?_));show wpAny _ _ (comprehension (.ListComp elt (c::cs) scope pos) scope x.env (firstIterPos (c::cs) pos) (newList []) (firstAsync (c::cs)) (firstIter (c::cs) x.env) (some (assign (.Name (Str.o v) pos') x.env))>>=fun _=>pure ()) _ _ s;refine wpAny_bind (rW hc fs hfs hs' e (fun _ ds ρ1 σ1 a C l' s' e5 hs2 B=>?_) fun _ _ q=>q);rcases om e5 with ⟨d,⟨ρ2,σ2⟩,e6,e7⟩ | ⟨X,e6,rfl⟩
 .obtain ⟨_,l'',q,h2,h3,h4,h5⟩:=kA hs2 B.st B.fa B.na B.list e6;cases q;show wpAny _ _ (assign (.Name (Str.o v) pos') x.env (.ref a)) _ _ s';refine (g0 (P:=MP.rep (.ref a) d) hw (fun _ _ q=>q)).run e7 h2 h4 (fun _ _ ρ4 σ4 l4 s4 e8 hs4 st4 _=>?_) fun _ _ q=>q.from h3;cases (show some (Except.ok aj.next,_)=some _ from e8);have hCF4:=(h5 C B.ne B.fC).step st4;obtain ⟨m,o,es,ep,q1,q2⟩:=B.ns;refine ⟨m,⟨o,es,ep,(h5 C B.ne B.fC).same st4 q1,q2⟩,fun h' hsb=>wpAny_pure (wpAny_pure ?_)⟩;have hkeep:∀ b o,¬ b=C->s4.heap.get? b=some o->h'.get? b=some o:=fun b o hb e=>cK hsb b o hb e;exact ⟨_,l4,rfl,hs4.other (fun b=>b=C) (fun b hb=>hb▸hCF4) hkeep rfl rfl,(h3.trans st4).other (fun b=>b=C) (fun b hb=>hb▸B.nC) hkeep,trivial⟩
 .obtain ⟨_,_,q,_⟩:=kA hs2 B.st B.fa B.na B.list e6; cases q
end
inductive dG (h:Heap) (l:Lay):List (Str×Value)->aq->Prop
 | nil:dG h l [] []
 | cons {v:String} {u d r bs}:Rep h l u d->dG h l r bs->dG h l ((Str.o v,u)::r) ((v,d)::bs)
theorem dG.names {h:Heap} {l:Lay}:∀ {r bs},dG h l r bs->r.map (·.1)=bs.map fun p=>Str.o p.1
 | _,_,.nil=>rfl
 | _,_,.cons _ r=>by simp [r.names]
theorem r7 (kindOf:Str->Option NameKind) (n:Str):∀ (r:List (Str×Value)) m,n∉r.map (·.1)->bindL kindOf r m n=m n
 | [],_,_=>rfl
 | (k,v)::r,m,h=>by
  unfold bindL;rw [r7 kindOf n r _ fun z=>h (by simp [z])];split
  .show (if n=k then some v else m n)=m n;rw [if_neg fun (e:n=k)=>h (by simp [e])]
  .rfl
theorem sv (kindOf:Str->Option NameKind) (n:Str):∀ (r:List (Str×Value)) m,n∉r.map (·.1)->bindC kindOf r m n=m n
 | [],_,_=>rfl
 | (k,v)::r,m,h=>by
  unfold bindC;rw [sv kindOf n r _ fun z=>h (by simp [z])];split
  .rfl
  .show (if n=k then some v else m n)=m n;rw [if_neg fun (e:n=k)=>h (by simp [e])]
theorem uY {h:Heap} {l:Lay} (kindOf:Str->Option NameKind):∀ {r:List (Str×Value)} {bs:aq},dG h l r bs->(bs.map (·.1)).Nodup->∀ {v:String} {d:D},bs.lookup v=some d->∀ (m cm:Str->Option Value),
  ∃ u,Rep h l u d/\(kindOf (Str.o v)=some .local->bindL kindOf r m (Str.o v)=some u)/\(kindOf (Str.o v)=some .cell->bindC kindOf r cm (Str.o v)=some u):=by
 intro r bs q
 induction q with
 | nil=>intro _ v d hv; cases hv
 | @cons w u e r bs q rs ih=>
  intro hn v d hv m cm;rw [List.map_cons,List.nodup_cons] at hn;rw [List.lookup_cons] at hv;cases hb:v==w with
  | true=>
   have:v=w:=by simpa using hb
   subst this;rw [hb] at hv; cases hv
   have hoff:Str.o v∉r.map (·.1):=by
    rw [rs.names];intro z;obtain ⟨⟨a,b⟩,h1,h2⟩:=List.mem_map.mp z;have:a=v:=fV h2;subst this;exact hn.1 (List.mem_map.mpr ⟨_,h1,rfl⟩)
   refine ⟨u,q,fun hk=>?_,fun hk=>?_⟩
   .unfold bindL; rw [r7 kindOf _ r _ hoff,if_pos hk]; simp
   .unfold bindC; rw [sv kindOf _ r _ hoff,if_neg (by rw [hk]; decide)]; simp
  | false=>
   rw [hb] at hv;obtain ⟨u',h1,h2,h3⟩:=ih hn.2 hv (if kindOf (Str.o w)=some .local then fun y=>if y=Str.o w then some u else m y else m) (if kindOf (Str.o w)=some .local then cm else fun y=>if y=Str.o w then some u else cm y);exact ⟨u',h1,h2,h3⟩
structure Bs where
 c:Cx
 room:Nat
 A:Around
 fs:List Env
 quiet:Bool
 hfr:A.frames=some fs
 hdep:A.depth+4 * room < 800
 huni:A.units+400 * room < 9000
 hquiet:quiet=true->A.handled=none
noncomputable def Bs.S (x:Bs):List Addr:=x.fs.filterMap (·.frame)
noncomputable def Ctx.bs (x:Ctx):Bs:=⟨x.c,x.room,x.A,x.fs,x.quiet,x.hfr,x.hdep,x.huni,x.hquiet⟩
structure ls (x:Bs) (σ:List O) (l:Lay) (s:Shared):Prop where
 inv:Inv x.c σ l s.heap
 ff:s.heap.FunFrames x.c.base x.fs
 foff:∀ a,a∈x.S->¬ l.F a/\¬ l.has a
 gens:s.gens=x.c.gens
 os:s.os=x.c.os
theorem St.bare {x:Ctx} {ρ:aq} {σ:List O} {l:Lay} {s:Shared} (h:St x ρ σ l s):ls x.bs σ l s:=⟨h.inv,h.ff,h.foff,h.gens,h.os⟩
structure xy (c:Cx) (f:Addr) (fd:FuncData) (body:List Stmt):Prop where
 here:∃ oc od osl,c.K.lookup f=some ⟨oc,od,.func fd,osl⟩
 code:codeIn c.K fd.code fd.qualname=true
 body:fd.body=.stmts body
 closure:fd.closure=[]
 co:fd.scope.isCoroutine=false
 gen:fd.scope.isGenerator=false
 kind:fd.scope.kind=.function
 globals:fd.globals=mainGlobals
 builtins:fd.builtins=builtinsNs
 nodup:(fd.scope.names.map (·.1)).Nodup
theorem lm {d c k r m:Nat} (hc:c<=k) (hr:1<=r) (h:d+k * r < m):d+c+k * (r - 1) < m:=by
 refine Nat.lt_of_le_of_lt ?_ h;rw [Nat.add_assoc];refine Nat.add_le_add_left (Nat.le_trans (Nat.add_le_add_right hc _) (Nat.le_of_eq ?_)) d;rw [Nat.add_comm,← Nat.mul_succ,Nat.succ_eq_add_one,Nat.sub_add_cancel hr]
noncomputable def Bs.callee (x:Bs) (hr:1<=x.room) (fd:FuncData) (body:List Stmt) (f:Addr) (hf:xy x.c f fd body) (L:Addr) (hL:x.c.base.get? L=none) (hC:∀ n a,(callEnvC fd L f).cells.lookup n=some a->x.c.base.get? a=none):Ctx where
 c:=x.c
 room:=x.room - 1
 A:=x.A.deeper (callEnvC fd L f)
 env:=callEnvC fd L f
 wr:=mh fd.scope.names
 fs:=callEnvC fd L f::x.fs
 quiet:=x.quiet
 hfr:=by show x.A.frames.map _=_; rw [x.hfr]; rfl
 hfn:=hf.kind
 hgl:=hf.globals
 hbt:=hf.builtins
 hfr0:=⟨_,_,rfl,rfl,rfl⟩
 hdep:=lm (by decide) hr x.hdep
 huni:=lm (by decide) hr x.huni
 hquiet:=x.hquiet
 hbL:=hL
 hbC:=hC
 hwr:=fun n hn=>by
  show fd.scope.names.lookup n=_\/fd.scope.names.lookup n=_;rcases qb hn with q | q
  .rw [cu hf.nodup q]; exact .inl rfl
  .rw [cu hf.nodup q]; exact .inr rfl
theorem xq {v:String} {d:D} {bs:aq} (h:bs.lookup v=some d):v∈bs.map (·.1):=by
 induction bs with
 | nil=>cases h
 | cons p bs ih=>
  rw [List.lookup_cons] at h;cases hb:v==p.1 with
  | true=>rw [eq_of_beq hb]; exact List.mem_cons_self
  | false=>rw [hb] at h; exact List.mem_cons_of_mem _ (ih h)
structure wP (x:Bs) (y:Ctx) (fd:FuncData) (f L:Addr):Prop where
 c:y.c=x.c
 A:y.A=x.A.deeper (callEnvC fd L f)
 env:y.env=callEnvC fd L f
 fs:y.fs=callEnvC fd L f::x.fs
 quiet:y.quiet=x.quiet
 room:y.room+1=x.room
 wr:y.wr=mh fd.scope.names
inductive yU (x:Bs) (fd:FuncData) (f:Addr) (bs:aq) (σ:List O) (l:Lay) (s s':Shared):Prop
 | mk (y:Ctx):wP x y fd f s.heap.objs.size->St y bs σ l s'->(∀ b o,s.heap.get? b=some o->s'.heap.get? b=some o)->(∀ a o,s.heap.get? a=some o->¬ y.W a)->yU x fd f bs σ l s s'
theorem sT {x:Bs} {σ:List O} {l:Lay} {s s':Shared} (hr:1<=x.room) {fd:FuncData} {body:List Stmt} {f:Addr} (hf:xy x.c f fd body) (hb:ls x σ l s) {binds:List (Str×Value)} {bs:aq} (hbind:dG s.heap l binds bs) (hnd:(bs.map (·.1)).Nodup)
  (hkn:∀ v∈bs.map (·.1),fd.scope.names.lookup (Str.o v)=some .local\/fd.scope.names.lookup (Str.o v)=some .cell)
  (q:InCallC s (callEnvC fd s.heap.objs.size f).locals (bindL (callEnvC fd s.heap.objs.size f).kindOf binds fun _=>none) (callEnvC fd s.heap.objs.size f).cells (bindC (callEnvC fd s.heap.objs.size f).kindOf binds fun _=>none) s'):yU x fd f bs σ l s s':=by
 obtain ⟨⟨⟨h',tk,rfl⟩,hns,keep,_⟩,hcell,hap,habove⟩:=q;have hL0:s.heap.get? s.heap.objs.size=none:=bi _;have cnew:∀ n a,(callEnvC fd s.heap.objs.size f).cells.lookup n=some a->s.heap.get? a=none:=fun n a e=>Heap.get?_none_of_le (Nat.le_of_lt (habove n a (mem_of_lookup e)));have la:cg s.heap l h' l:=.of_off fun a o _ e=>keep a o e;have off:∀ a,s.heap.get? a=none->¬ l.F a/\¬ l.has a:=fun a q=>⟨fun z=>let ⟨_,e⟩:=hb.inv.flt a z; aP q e,fun z=>let ⟨_,e⟩:=hb.inv.mlt a z; aP q e⟩
 have i:=hb.inv;have b0:=ju i.base hL0;refine .mk (x.callee hr fd body f hf s.heap.objs.size b0 fun n a e=>ju i.base (cnew n a e)) ⟨rfl,rfl,rfl,rfl,rfl,Nat.sub_add_cancel hr,rfl⟩
  ⟨⟨fun b o e=>keep b o (i.base b o e),i.len,fun a q=>let ⟨o,e⟩:=i.flt a q; ⟨o,keep a o e⟩,fun a q=>let ⟨o,e⟩:=i.mlt a q; ⟨o,keep a o e⟩,i.mnew,i.live,i.inj,fun n o p q1 q2=>(i.objs n o p q1 q2).later la (fun ob=>keep _ ob) (fun ob=>keep _ ob)⟩,
  ⟨⟨_,hns,fun v d e k=>?_⟩,fun n hk=>?_,fun n a e=>⟨_,hcell n a e⟩,fun v d a e k ce=>?_,fun v d e=>hkn v (xq e),fun n m a e1 e2=>name_of_addr hap (mem_of_lookup e1) (mem_of_lookup e2),off _ hL0,fun n a e=>?_⟩,?_,fun a ha=>?_,hb.gens,hb.os⟩ keep fun a o e z=>?_
 .obtain ⟨u,h1,h2,_⟩:=uY (callEnvC fd s.heap.objs.size f).kindOf hbind hnd e (fun _=>none) (fun _=>none);exact ⟨u,h2 k,h1.later la⟩
 .obtain ⟨a,ha⟩:=fG fd.scope.names (s.heap.objs.size+1) n (mem_of_lookup hk);exact dT ha
 .obtain ⟨u,h1,_,h3⟩:=uY (callEnvC fd s.heap.objs.size f).kindOf hbind hnd e (fun _=>none) (fun _=>none);exact ⟨u,by have:=hcell _ a ce; rw [h3 k] at this; exact this,h1.later la⟩
 .exact ⟨(off a (cnew n a e)).1,(off a (cnew n a e)).2,Nat.ne_of_gt (habove n a (mem_of_lookup e))⟩
 .obtain ⟨o,es,ep,h1,h2,_⟩:=hns;exact ⟨by show fd.scope.kind≠.module; rw [hf.kind]; decide,⟨s.heap.objs.size,o,rfl,b0,h1,fun vs z=>by rw [h2] at z; cases z⟩,hb.ff.of_keeps fun b o e _=>⟨o,keep b o e,rfl⟩⟩
 .rcases List.mem_cons.mp (show a∈s.heap.objs.size::x.S from ha) with rfl | ha'
  .exact off _ hL0
  .exact hb.foff a ha'
 .rcases z with z | ⟨n,_,z⟩
  .exact aP hL0 ((show a=s.heap.objs.size from z)▸e)
  .exact aP (cnew n a z) e
noncomputable def kq (c:Cx) (fd:FuncData) (bind:List D->Option aq):Prop:=
 ∀ (x:Bs) σ l s vs ds bs,x.c=c->ls x σ l s->au s.heap l vs ds->bind ds=some bs->∀ (Q:List (Str×Value)->Shared->Prop) E,
  (∀ binds l1 s1,ls x σ l1 s1->bt x.c x.S (fun _=>False) l s.heap l1 s1.heap->dG s1.heap l1 binds bs->Q binds s1)->wpAny x.c.M x.A.in1 (bindArgs fd ⟨vs,[]⟩) Q E s
noncomputable def bI:List String->List D->Option aq
 | [],[]=>some []
 | v::vs,d::ds=>(bI vs ds).map ((v,d)::·)
 | _,_=>none
theorem pS {ds:List D} {bs:aq} (e:bI [] ds=some bs):ds=[]/\bs=[]:=by
 cases ds with
 | nil=>cases e; exact ⟨rfl,rfl⟩
 | cons _ _=>cases e
theorem nM {p:String} {ps:List String} {ds:List D} {bs:aq} (e:bI (p::ps) ds=some bs):∃ d ds' bs',ds=d::ds'/\bI ps ds'=some bs'/\(p,d)::bs'=bs:=by
 cases ds with
 | nil=>cases e
 | cons d ds=>exact ⟨d,ds,(Option.map_eq_some_iff.mp e).imp fun _ h=>⟨rfl,h⟩⟩
theorem qp {h:Heap} {l:Lay} {ps:List String}:∀ {vs:List Value} {ds:List D} {bs:aq},au h l vs ds->bI ps ds=some bs->dG h l ((ps.map Str.o).zip vs) bs:=by
 induction ps with
 | nil=>intro vs ds bs r e; obtain ⟨rfl,rfl⟩:=pS e; exact .nil
 | cons p ps ih=>
  intro vs ds bs r e;obtain ⟨d,ds,bs,rfl,e2,rfl⟩:=nM e;obtain ⟨v,vs,rfl,q,qs⟩:=r.cons_inv;exact .cons q (ih qs e2)
theorem qi {ps:List String}:∀ {ds:List D} {bs:aq},bI ps ds=some bs->ps.length=ds.length:=by
 induction ps with
 | nil=>intro ds bs e; rw [(pS e).1]; rfl
 | cons p ps ih=>
  intro ds bs e;obtain ⟨d,ds,bs,rfl,e2,_⟩:=nM e;exact congrArg (·+1) (ih e2)
theorem aZ {ps:List String}:∀ {ds:List D} {bs:aq},bI ps ds=some bs->bs.map (·.1)=ps:=by
 induction ps with
 | nil=>intro ds bs e; rw [(pS e).2]; rfl
 | cons p ps ih=>
  intro ds bs e;obtain ⟨d,ds,bs,rfl,e2,rfl⟩:=nM e;exact congrArg (p::·) (ih e2)
noncomputable def w6:Nat->(List Value->Prop)->Prop
 | 0,p=>p []
 | n+1,p=>∀ v,w6 n fun vs=>p (v::vs)
theorem w6.of {n:Nat}:∀ {p:List Value->Prop},w6 n p->∀ vs:List Value,vs.length=n->p vs:=by
 induction n with
 | zero=>intro p h vs e; rw [List.eq_nil_of_length_eq_zero e]; exact h
 | succ n ih=>intro p h vs e; cases vs with
  | nil=>cases e
  | cons v vs=>exact ih (h v) vs (Nat.succ.inj e)
theorem bo {c:Cx} {fd:FuncData} (ps:List String) (h:w6 ps.length fun vs=>bindArgs fd ⟨vs,[]⟩=pure ((ps.map Str.o).zip vs)):kq c fd (bI ps):=by
 intro x σ l s vs ds bs _ hb rv e Q E k;rw [h.of vs (by rw [rv.length,qi e])];exact wpAny_pure (k _ l s hb (.refl ..) (qp rv e))
noncomputable def Ew:aj->D
 | .ret d=>d
 | _=>.py .none
noncomputable def rE:Except Value aj->Except Value D
 | .ok fl=>.ok (Ew fl)
 | .error X=>.error X
section
variable {x:Bs}
abbrev Sf (x:Bs) (l:Lay) (h:Heap) (l':Lay) (h':Heap):Prop:=bt x.c x.S (fun _=>False) l h l' h'
inductive BOk (x:Bs) (l:Lay) (h:Heap) (r:Except Value D) (st':ASt) (v:Value) (s':Shared):Prop
 | mk (d:D) (l':Lay):r=.ok d->ls x st'.σ l' s'->Sf x l h l' s'.heap->Rep s'.heap l' v d->BOk x l h r st' v s'
inductive BEr (x:Bs) (l:Lay) (h:Heap) (r:Except Value D) (st':ASt) (e:Value) (s':Shared):Prop
 | mk (X:Value) (l':Lay):r=.error X->ls x st'.σ l' s'->Sf x l h l' s'.heap->ij none h e X l' s'.heap->BEr x l h r st' e s'
noncomputable def Fa (x:Bs) (l:Lay) (h:Heap) (r:Except Value D) (st':ASt) (q:Result) (s':Shared):Prop:=match q with
 | .ok (.ret v)=>BOk x l h r st' v s'
 | .ok _=>False
 | .error e=>BEr x l h r st' e s'
theorem wP.back {y:Ctx} {fd:FuncData} {f L:Addr} (q:wP x y fd f L) {ρ:aq} {σ:List O} {l0 l:Lay} {h0:Heap} {s:Shared} (h1:St y ρ σ l s) (h2:Sp y l0 h0 l s.heap) (hL:h0.get? L=none) (hW:∀ a o,h0.get? a=some o->¬ y.W a):ls x σ l s/\Sf x l0 h0 l s.heap:=by
 have hS:y.S=L::x.S:=by unfold Ctx.S; rw [q.fs]; rfl
 refine ⟨⟨q.c▸h1.inv,?_,fun a ha=>h1.foff a (by rw [hS]; exact List.mem_cons_of_mem _ ha),by rw [← q.c]; exact h1.gens,by rw [← q.c]; exact h1.os⟩,?_⟩
 .have:=h1.ff;rw [q.fs,q.c] at this;exact this.2.2
 .show bt x.c x.S (fun _=>False) l0 h0 l s.heap;rw [← q.c];exact h2.weaken (fun a o e z=>hW a o e z) fun a o e z=>(List.mem_cons.mp (hS▸z)).elim (fun z=>aP hL (z▸e)) id
theorem m5 {f:Addr} {fd:FuncData} {body:List Stmt} {fb:AM aj} {bind:List D->Option aq} (hr:1<=x.room) (hf:xy x.c f fd body)
  (hbody:∀ y:Ctx,y.c=x.c->y.quiet=x.quiet->y.room+1=x.room->y.env.scope.names=fd.scope.names->y.wr=mh fd.scope.names->kQ y body fb)
  (hbind:kq x.c fd bind) (hbn:∀ ds bs,bind ds=some bs->(bs.map (·.1)).Nodup/\∀ v∈bs.map (·.1),fd.scope.names.lookup (Str.o v)=some .local\/fd.scope.names.lookup (Str.o v)=some .cell)
  {σ:List O} {l:Lay} {s:Shared} {vs:List Value} {ds:List D} {bs:aq} {r:Except Value aj} {st':ASt} (hb:ls x σ l s) (rv:au s.heap l vs ds) (hbs:bind ds=some bs) (e:fb ⟨bs,σ⟩=some (r,st')):
  codeAny x.c.M x.A (.call (.ref f) ⟨vs,[]⟩) (Fa x l s.heap (rE r) st') s:=by
 obtain ⟨oc,od,osl,ho⟩:=hf.here;refine codeAny_call_function (Nat.lt_of_le_of_lt (Nat.le_add_right ..) (Nat.lt_trans x.hdep (by decide))) (hb.inv.inK _ _ ho) rfl hf.co hf.gen hf.body (codeRec_of hb.inv.inK hf.code) ?_;refine hbind x σ l s vs ds bs rfl hb rv hbs _ _ fun binds l1 s1 hb1 st1 rb=>?_;obtain ⟨hnd,hkn⟩:=hbn ds bs hbs;rw [hf.closure];refine wpAny_newFunctionEnv_cells hf.kind (fun z hz=>?_) fun env he s2 q=>?_
 .have hz1:z.1∈binds.map (·.1):=List.mem_map.mpr ⟨z,hz,rfl⟩;rw [rb.names] at hz1;obtain ⟨⟨v,d⟩,h1,h2⟩:=List.mem_map.mp hz1;rw [← h2];refine (hkn v (List.mem_map.mpr ⟨_,h1,rfl⟩)).imp id fun k=>⟨k,?_⟩
  obtain ⟨a,ha⟩:=fG fd.scope.names (s1.heap.objs.size+1) _ (mem_of_lookup k);obtain ⟨b,hb⟩:=dT ha;show ((cellsFrom (s1.heap.objs.size+1) fd.scope.names []).lookup (Str.o v)).isSome=true;rw [hb]; rfl
 .subst he;obtain ⟨y,hy,h0,keep,hnew⟩:=sT hr hf hb1 rb hnd hkn q;refine ⟨hb1.inv.nolim.keeps keep,codeAny_func ?_⟩;have blk:=hbody y hy.c hy.quiet hy.room (by rw [hy.env]; rfl) hy.wr .tt bs σ l1 s2 r st' e h0 trivial;have hyM:y.c.M=x.c.M:=by rw [hy.c]
  have hnew0:∀ a o,s.heap.get? a=some o->¬ y.W a:=fun a o e=>let ⟨o',e'⟩:=st1.there a o e; hnew a o' e'
  have hL:s.heap.get? s1.heap.objs.size=none:=st1.new (bi _)
  have st0:Sp y l s.heap l1 s2.heap:=by
   have hS:y.S=s1.heap.objs.size::x.S:=by unfold Ctx.S; rw [hy.fs]; rfl
   have stA:bt y.c y.S y.W l s.heap l1 s1.heap:=by rw [hy.c]; exact st1.weaken (fun _ _ _ z=>z.elim) fun a _ _ z=>by rw [hS]; exact List.mem_cons_of_mem _ z
   exact stA.trans ⟨.of_off fun a o _ e=>keep a o e,fun a o e=>⟨o,keep a o e⟩,fun _ z=>.inl z,fun _ z=>.inl z,fun a o _ _ _ e=>keep a o e,fun a o _ _ e=>⟨o.slots,keep a o e⟩⟩
  have hb0:∀ b o,y.c.base.get? b=some o->s.heap.get? b=some o:=by rw [hy.c]; exact hb.inv.base
  have lv:∀ ev s3,ErQ y l s.heap r st' ev s3->wpAny y.c.M y.A (noteFrame ev y.env) (fun _ s4=>wpAny y.c.M y.A (setFlight ev none) (fun _ s''=>BEr x l s.heap (rE r) st' ev s'') (fun e' s''=>BEr x l s.heap (rE r) st' e' s'') s4) (fun e' s''=>BEr x l s.heap (rE r) st' e' s'') s3:=fun ev s3 ⟨X,l3,q1,h1,h2,h3⟩=>
   h3.note h1 h2 hb0 fun s4 h4 st4 x4=>x4.flight h4 st4 hb0 none fun s5 h5 st5 x5=>
    let ⟨k1,k2⟩:=hy.back h5 st5 hL hnew0; ⟨X,l3,by rw [q1]; rfl,k1,k2,x5⟩
  rw [hyM,hy.A,hy.env] at blk lv;refine wpAny_mono blk (fun fl s3 q=>?_) fun ev s3 q=>wpAny_bind (lv ev s3 (q.from st0));obtain ⟨b,l3,rfl,h1,h2,h3⟩:=q;obtain ⟨k1,k2⟩:=hy.back h1 (st0.trans h2) hL hnew0;refine ⟨_,l3,rfl,k1,k2,?_⟩;cases fl <;> cases b <;> first | exact .py .none | exact h3 | exact h3.elim
theorem sh {f:Addr} {fd:FuncData} {body:List Stmt} {fb:AM aj} {bind:List D->Option aq} (hr:1<=x.room) (hf:xy x.c f fd body)
  (hbody:∀ y:Ctx,y.c=x.c->y.quiet=x.quiet->y.room+1=x.room->y.env.scope.names=fd.scope.names->y.wr=mh fd.scope.names->kQ y body fb)
  (hbind:kq x.c fd bind) (hbn:∀ ds bs,bind ds=some bs->(bs.map (·.1)).Nodup/\∀ v∈bs.map (·.1),fd.scope.names.lookup (Str.o v)=some .local\/fd.scope.names.lookup (Str.o v)=some .cell)
  {σ:List O} {l:Lay} {s:Shared} {vs:List Value} {ds:List D} {bs:aq} {r:Except Value aj} {st':ASt} (hb:ls x σ l s) (rv:au s.heap l vs ds) (hbs:bind ds=some bs) (e:fb ⟨bs,σ⟩=some (r,st')):
  wpAny x.c.M x.A (PySem.call (.ref f) vs [])
   (BOk x l s.heap (rE r) st') (BEr x l s.heap (rE r) st') s:=
 wpAny_call (codeAny_mono (m5 hr hf hbody hbind hbn hb rv hbs e) fun q s' h=>match q,h with
  | .ok (.ret _),h=>h
  | .error _,h=>h)
end
noncomputable def dI (bind:List D->Option aq) (fb:AM aj) (ds:List D):AM D:=fun st=>(bind ds).bind fun bs=>(fb ⟨bs,st.σ⟩).map fun q=>(rE q.1,⟨st.ρ,q.2.σ⟩)
noncomputable def xj:Except Value D->Option PyData
 | .ok (.py p)=>some p
 | _=>none
theorem kr {r:Except Value D} {p:PyData} (e:xj r=some p):r=.ok (.py p):=by
 cases r with
 | error _=>cases e
 | ok d=>cases d with
  | py q=>cases e; rfl
  | _=>cases e
noncomputable def kB (bind:List D->Option aq) (fb:AM aj) (ps:List PyData):Option PyData:=(bind (ps.map .py)).bind fun bs=>(fb ⟨bs,[]⟩).bind fun q=>xj (rE q.1)
noncomputable def bV (φ:List PyData->Option PyData) (ds:List D):AM D:=fun st=>((dk ds).bind φ).map fun p=>(.ok (.py p),st)
noncomputable def cG (c:Cx) (n:Nat) (fd:FuncData) (body:List Stmt) (fb:AM aj):Prop:=
 ∀ y:Ctx,y.c=c->y.quiet=true->n<=y.room->y.env.scope.names=fd.scope.names->y.wr=mh fd.scope.names->kQ y body fb
structure eS (c:Cx) (n:Nat) (f:Addr) (bind:List D->Option aq) (fb:AM aj):Prop where
 at_:∃ fd body,xy c f fd body/\cG c n fd body fb/\kq c fd bind/\∀ ds bs,bind ds=some bs->(bs.map (·.1)).Nodup/\∀ v∈bs.map (·.1),fd.scope.names.lookup (Str.o v)=some .local\/fd.scope.names.lookup (Str.o v)=some .cell
section
variable {x:Ctx}
theorem ij.to {fr:Option Addr} {h0 h:Heap} {e X:Value} {l:Lay} (q:ij none h0 e X l h):nI fr h0 e X l h:=
 let ⟨ea,oe,vs,a0,b1,b2,b3,b4,b5,b6,b7,b8,T,oT,ts,fl,c1,c2,c3,c4,c5,c6,c7,c8,c9⟩:=q
 ⟨ea,oe,vs,a0,b1,b2,b3,b4,b5,b6,b7,b8,.inr ⟨T,oT,ts,fl,c1,c2,c3,c4,c5,c6,c7,c8,c9.elim .inl fun ⟨_,z,_⟩=>nomatch z⟩⟩
noncomputable def GK (x:Ctx) (l:Lay) (h:Heap) (r:Except Value D) (st':ASt) (q:Result) (s':Shared):Prop:=match q with
 | .ok (.ret v)=>OkQ x MP.rep l h r st' v s'
 | .ok _=>False
 | .error e=>ErQ x l h r st' e s'
noncomputable def sH (x:Ctx) (fv:Value) (k:List D->AM D):Prop:=∀ vs ds ρ σ l s r st',St x ρ σ l s->au s.heap l vs ds->k ds ⟨ρ,σ⟩=some (r,st')->
 codeAny x.c.M x.A (.call fv ⟨vs,[]⟩) (GK x l s.heap r st') s
theorem sH.call {fv:Value} {k:List D->AM D} (h:sH x fv k):eV x fv k:=fun P vs ds hv ρ σ l s r st' e hs hp=>
 wpAny_call (codeAny_mono (h vs ds ρ σ l s r st' hs (hv _ _ hp) e) fun q _ h=>match q,h with
  | .ok (.ret _),h=>h
  | .error _,h=>h)
theorem Fa.back {ρ:aq} {σ:List O} {l:Lay} {s:Shared} (hs:St x ρ σ l s) {r:Except Value D} {st1:ASt} {q:Result} {s':Shared} (z:Fa x.bs l s.heap r st1 q s'):GK x l s.heap r ⟨ρ,st1.σ⟩ q s':=
 match q,z with
 | .ok (.ret _),⟨d,l1,q1,q2,q3,q4⟩=>⟨d,l1,q1,hs.back q3 (fun _ _ _ z=>z) q2.inv q2.ff q2.gens q2.os,q3.weaken (fun _ _ _ z=>z.elim) fun _ _ _ z=>z,q4⟩
 | .error _,⟨X,l1,q1,q2,q3,q4⟩=>⟨X,l1,q1,hs.back q3 (fun _ _ _ z=>z) q2.inv q2.ff q2.gens q2.os,q3.weaken (fun _ _ _ z=>z.elim) fun _ _ _ z=>z,q4.to⟩
theorem tf {n:Nat} {f:Addr} {bind:List D->Option aq} {fb:AM aj} (hq:x.quiet=true) (hr:n+1<=x.room) (h:eS x.c n f bind fb):sH x (.ref f) (dI bind fb):=by
 intro vs ds ρ σ l s r st' hs rv e;obtain ⟨fd,body,h1,h2,h3,h4⟩:=h.at_;obtain ⟨bs,hbs,e⟩:=Option.bind_eq_some_iff.mp e;obtain ⟨q,he,e⟩:=Option.map_eq_some_iff.mp e;cases e;exact codeAny_mono (m5 (x:=x.bs) (Nat.le_trans (Nat.le_add_left ..) hr) h1 (fun y k1 k2 k3 k4 k5=>h2 y k1 (k2.trans hq) (Nat.le_of_succ_le_succ (Nat.le_trans hr (Nat.le_of_eq k3.symm))) k4 k5) h3 h4 hs.bare rv hbs he) fun q s1 z=>z.back hs
theorem fj {n:Nat} {f:Addr} {bind:List D->Option aq} {fb:AM aj} (hq:x.quiet=true) (hr:n+1<=x.room) (h:eS x.c n f bind fb):eV x (.ref f) (dI bind fb):=(tf hq hr h).call
theorem n8 {F:Addr->Prop} {a:Addr}:¬ Lay.has ⟨[],F⟩ a:=fun ⟨_,_,e,_⟩=>nomatch e
theorem ls.plain {b:Bs} {F:Addr->Prop} {s:Shared} (h1:∀ a o,b.c.base.get? a=some o->s.heap.get? a=some o) (h2:∀ a,F a->∃ o,s.heap.get? a=some o) (ff:s.heap.FunFrames b.c.base b.fs) (fo:∀ a,a∈b.S->¬ F a) (g:s.gens=b.c.gens) (os:s.os=b.c.os):ls b [] ⟨[],F⟩ s:=
 ⟨⟨h1,rfl,h2,fun _ z=>(n8 z).elim,fun _ z=>(n8 z).elim,(fun _ _ _ h=>nomatch h),(fun _ _ _ _ h=>nomatch h),(fun _ _ _ h=>nomatch h)⟩,ff,fun a ha=>⟨fo a ha,n8⟩,g,os⟩
theorem bX {n:Nat} {f:Addr} {bind:List D->Option aq} {fb:AM aj} {φ:List PyData->Option PyData} (hq:x.quiet=true) (hr:n+1<=x.room) (h:eS x.c n f bind fb) (hφ:∀ ps p,φ ps=some p->kB bind fb ps=some p):eV x (.ref f) (bV φ):=fun P vs ds hv=>by
 intro ρ σ l s r st' e hs hp;obtain ⟨fd,body,h1,h2,h3,h4⟩:=h.at_;obtain ⟨p,hp1,e⟩:=Option.map_eq_some_iff.mp e;cases e;obtain ⟨ps,hps,hp1⟩:=Option.bind_eq_some_iff.mp hp1;obtain ⟨bs,hbs,hrun⟩:=Option.bind_eq_some_iff.mp (hφ ps p hp1);obtain ⟨q,he,hret⟩:=Option.bind_eq_some_iff.mp hrun;have hb0:ls x.bs [] ⟨[],l.F⟩ s:=.plain hs.inv.base hs.inv.flt hs.ff (fun a ha=>(hs.foff a ha).1) hs.gens hs.os;have main:=sh (x:=x.bs) (Nat.le_trans (Nat.le_add_left ..) hr) h1 (fun y k1 k2 k3 k4 k5=>h2 y k1 (k2.trans hq) (Nat.le_of_succ_le_succ (Nat.le_trans hr (Nat.le_of_eq k3.symm))) k4 k5) h3 h4 hb0 (bA.rep (l:=⟨[],l.F⟩) ((hv _ _ hp).rp hps)) hbs he;rw [kr hret] at main;refine wpAny_mono main (fun v s1 q=>?_) fun ev s1 ⟨_,_,q,_,_,_⟩=>nomatch q;obtain ⟨_,l1,q1,q2,st,q4⟩:=q;cases q1;have i:=hs.inv;have la:cg s.heap l s1.heap ⟨l.mu,l1.F⟩:=⟨fun _ _ e=>e,fun a z=>st.later.F a z,fun a o z e=>st.later.same a o z e⟩
 have sameH:∀ a o,l.has a->s.heap.get? a=some o->s1.heap.get? a=some o:=fun a o z e=>st.same a o n8 (fun z=>z) (fun w=>(hs.foff a w).2 z) e;have hF:∀ {a},l1.F a->l.F a\/s.heap.get? a=none:=fun z=>(st.F' _ z).imp_right fun z=>z.elim (fun z=>(n8 z).elim) id;have nF:∀ {a},l.has a->¬ l.F a->¬ l1.F a:=fun h f z=>(hF z).elim f fun z=>let ⟨_,e⟩:=i.mlt _ h; aP z e
 have inv:Inv x.c σ ⟨l.mu,l1.F⟩ s1.heap:=⟨q2.inv.base,i.len,q2.inv.flt,fun a z=>(i.mlt a z).imp fun o=>sameH a o z,i.mnew,
  fun n o p k1 k2 k3=>⟨nF ⟨n,p,k3,.inl rfl⟩ (i.live n o p k1 k2 k3).1,nF ⟨n,p,k3,.inr rfl⟩ (i.live n o p k1 k2 k3).2⟩,i.inj,fun n o p k1 k2=>(i.objs n o p k1 k2).later la (fun ob=>sameH _ ob ⟨n,p,k2,.inl rfl⟩) fun ob=>sameH _ ob ⟨n,p,k2,.inr rfl⟩⟩
 exact ⟨.py p,⟨l.mu,l1.F⟩,rfl,hs.backK la (fun a o e _=>⟨id,fun z=>(hF z).imp_right fun z=>aP z e⟩) (fun a o _ _ e=>st.slots a o n8 (fun z=>z) e) inv q2.ff q2.gens q2.os,
  ⟨la,st.there,fun a z=>.inl z,fun a z=>(hF z).imp_right .inr,fun a o _ _ k3 e=>st.same a o n8 (fun z=>z) k3 e,fun a o _ _ e=>st.slots a o n8 (fun z=>z) e⟩,.py q4.py_inv⟩
end
noncomputable def bO (op:Operator) (f g:AM D):AM D:=f>>=fun a=>g>>=fun b=>Dz op a b
noncomputable def tS (op:CmpOp) (f g:AM D):AM D:=f>>=fun a=>g>>=fun b=>Ak op a b>>=fun t=>pure (.py (.bool t))
noncomputable def aJ (op:CmpOp) (f g:AM D):AM Bool:=f>>=fun a=>g>>=fun b=>Ak op a b
noncomputable def bu (f g:AM D):AM D:=f>>=fun d=>g>>=fun i=>eA fun σ=>uA σ d i
noncomputable def cJ (f ga gb:AM D):AM D:=f>>=fun d=>(ga>>=fun a=>gb>>=fun b=>pure (a,b))>>=fun q=>eA fun σ=>nU σ d q.1 q.2
noncomputable def ifE (t:AM Bool) (f g:AM D):AM D:=t>>=fun b=>if b=true then f else g
noncomputable def Gw (f g:AM D):AM D:=f>>=fun d=>jP d>>=fun t=>if t=true then g else pure d
noncomputable def orE (f g:AM D):AM D:=f>>=fun d=>jP d>>=fun t=>if t=true then pure d else g
noncomputable def Fn (f:AM D):AM D:=f>>=fun d=>jP d>>=fun t=>pure (.py (.bool (!t)))
noncomputable def iz (f:AM D):AM Bool:=f>>=fun d=>jP d
noncomputable def Go (f:AM Bool):AM Bool:=f>>=fun b=>pure (!b)
noncomputable def jV (f g:AM Bool):AM Bool:=f>>=fun b=>if b=true then g else pure false
noncomputable def orT (f g:AM Bool):AM Bool:=f>>=fun b=>if b=true then pure true else g
noncomputable def ao (f:AM D) (g:AM (List D)):AM (List D):=f>>=fun d=>g>>=fun ds=>pure (d::ds)
noncomputable def Gc (f:AM D) (g:AM (List D)):AM (List D):=f>>=fun d=>eA (fun σ=>gO σ d)>>=fun ds=>g>>=fun es=>pure (ds++es)
noncomputable def F9 (f:AM D):AM (List D):=f>>=fun d=>eA fun σ=>gO σ d
noncomputable def dl (f:AM (List D)):AM D:=f>>=EL
noncomputable def eb (f:AM (List D)):AM D:=f>>=uG
noncomputable def j9 (f:AM (List D)):AM D:=f>>=Cm
noncomputable def Dv (f:AM D) (g:D->AM Unit):AM D:=f>>=fun d=>g d>>=fun _=>pure d
section
variable {x:Ctx}
theorem aF {i:Int} {k:Nat} {pos:Pos}:a9 x (.Constant (.int i) k pos) (pure (.py (.int i))):=fun P=>Dr
theorem bB {y:Str} {k:Nat} {pos:Pos}:a9 x (.Constant (.str y) k pos) (pure (.py (.str y))):=fun P=>Ei
theorem gK {b:Bool} {k:Nat} {pos:Pos}:a9 x (.Constant (.bool b) k pos) (pure (.py (.bool b))):=fun P=>Bf
theorem gI {k:Nat} {pos:Pos}:a9 x (.Constant .none k pos) (pure (.py .none)):=fun P=>AX
theorem nH {i:Int} {k:Nat} {p pos:Pos}:a9 x (.UnaryOp .USub (.Constant (.int i) k p) pos) (pure (.py (.int (-i)))):=fun P=>D1
theorem aa {v:String} {pos:Pos} (hd:(Str.o v==("__debug__" :PySem.Str))=false):a9 x (.Name (Str.o v) pos) (ad v):=fun P=>BW hd
theorem tE {n:String} {pos:Pos} {v:Value} (d:D) (hg:xg x.c n v) (hk:x.env.kindOf (Str.o n)=some .globalImplicit) (hr:∀ h l,Rep h l v d) (hd:(Str.o n==("__debug__" :PySem.Str))=false):a9 x (.Name (Str.o n) pos) (pure d):=fun P=>Bk hg hk hr hd
theorem bE {l r:Expr} {op:Operator} {pos:Pos} {f g:AM D} (h1:a9 x l f) (h2:a9 x r g):a9 x (.BinOp l op r pos) (bO op f g):=fun P=>zI (h1 P) h2
theorem tB {l r:Expr} {op:CmpOp} {pos:Pos} {f g:AM D} (h1:a9 x l f) (h2:a9 x r g) (hm:behindInMarks op r=false):a9 x (.Compare l [op] [r] pos) (tS op f g):=fun P=>vO (h1 P) h2 hm
theorem bp {value slice:Expr} {pos:Pos} {f g:AM D} (h1:a9 x value f) (h2:a9 x slice g) (hsl:∀ o i,subscripted slice false o i=PySem.operate [o,i] (getItem o i)):a9 x (.Subscript value slice pos) (bu f g):=fun P=>ru (h1 P) h2 hsl
noncomputable def tv (x:Ctx) (o:Option Expr) (f:AM D):Prop:=∀ P,Sim x P MP.rep (valueOrNone (evalOpt o x.env)) f
theorem dj:tv x none (pure (.py .none)):=fun P=>rO
theorem bU {e:Expr} {f:AM D} (h:a9 x e f):tv x (some e) f:=fun P=>rJ (h P)
theorem cW {value:Expr} {lo up:Option Expr} {p pos:Pos} {f ga gb:AM D} (h1:a9 x value f) (h2:tv x lo ga) (h3:tv x up gb):a9 x (.Subscript value (.Slice lo up none p) pos) (cJ f ga gb):=fun P=>zt (h1 P) h2 h3
theorem vU {test a b:Expr} {pos:Pos} {t:AM Bool} {f g:AM D} (h:oW x test t) (h1:a9 x a f) (h2:a9 x b g):a9 x (.IfExp test a b pos) (ifE t f g):=fun P=>zY (h P) (h1 P) (h2 P)
theorem F5 {a b:Expr} {pos:Pos} {f g:AM D} (h1:a9 x a f) (h2:a9 x b g):a9 x (.BoolOp .And [a,b] pos) (Gw f g):=fun P=>Ar (h1 P) h2
theorem GN {a b:Expr} {pos:Pos} {f g:AM D} (h1:a9 x a f) (h2:a9 x b g):a9 x (.BoolOp .Or [a,b] pos) (orE f g):=fun P=>Er (h1 P) h2
theorem FK {e:Expr} {pos:Pos} {f:AM D} (h:a9 x e f):a9 x (.UnaryOp .Not e pos) (Fn f):=fun P=>Dy (h P)
theorem fu {es:List Expr} {pos:Pos} {f:AM (List D)} (h:nZ x es f):a9 x (.List es pos) (dl f):=fun P=>A5 (h P pos)
theorem dD {es:List Expr} {pos:Pos} {f:AM (List D)} (h:nZ x es f):a9 x (.List es pos) (eb f):=fun P=>uo (h P pos)
theorem gd {es:List Expr} {k:Nat} {pos:Pos} {f:AM (List D)} (h:nZ x es f):a9 x (.Tuple es k pos) (j9 f):=fun P=>zM (h P pos)
theorem Ax {v:String} {p pos:Pos} {e:Expr} {f:AM D} (h:a9 x e f) (hw:Str.o v∈x.wr):a9 x (.NamedExpr (.Name (Str.o v) p) e pos) (Dv f (aQ v)):=fun P=>by
 refine Sim.of_eq (t':=eval e x.env>>=fun u=>holding [u] (assign (.Name (Str.o v) p) x.env u)>>=fun _=>pure u) rfl ?_;refine (h P).bind fun u d=>Sim.bind (R:=fun _ _=>MP.tt) (Sim.holding (g0 hw fun h l q=>q.2)) fun _ _=>Sim.pure fun h l q=>q.1.2
theorem aC {l r:Expr} {op:CmpOp} {pos:Pos} {f g:AM D} (h1:a9 x l f) (h2:a9 x r g) (hm:behindInMarks op r=false):oW x (.Compare l [op] [r] pos) (aJ op f g):=fun P=>lT (h1 P) h2 hm
theorem ip {e:Expr} {f:AM D} (h:a9 x e f) (he:isTrue e x.env (eval e x.env)=(eval e x.env>>=fun v=>standAt e.pos>>=fun _=>holding [v] (truthy v))):oW x e (iz f):=fun P=>m9 (h P) he
theorem Fy {e:Expr} {pos:Pos} {f:AM Bool} (h:oW x e f):oW x (.UnaryOp .Not e pos) (Go f):=fun P=>qB (h P)
noncomputable def so (x:Ctx) (op:BoolOp) (es:List Expr) (f:AM Bool):Prop:=∀ P,Sim x P MP.eq (allTrue op es x.env) f
theorem iU {op:BoolOp}:so x op [] (pure (op==.And)):=fun P=>oX
theorem et {e:Expr} {rest:List Expr} {f g:AM Bool} (h1:oW x e f) (h2:so x .And rest g):so x .And (e::rest) (jV f g):=fun P=>o8 (h1 P) (h2 P)
theorem AJ {e:Expr} {rest:List Expr} {f g:AM Bool} (h1:oW x e f) (h2:so x .Or rest g):so x .Or (e::rest) (orT f g):=fun P=>qX (h1 P) (h2 P)
theorem iR {op:BoolOp} {es:List Expr} {pos:Pos} {f:AM Bool} (h:so x op es f):oW x (.BoolOp op es pos) f:=fun P=>mE (h P)
theorem pt {pos:Pos}:a9 x (.Dict [] [] pos) (uH (.dict 0 [])):=fun P=>by
 intro ρ σ l s r st' e hs hp;cases (show some (Except.ok (D.obj σ.length),(⟨ρ,σ++[.dict 0 []]⟩:ASt))=some (r,st') from e);refine wpAny_Dict_empty ?_;obtain ⟨k1,k2,k3⟩:=hs.newObj (h':=s.heap.push {cls:=.type "dict",data:=.dict #[]}) (a:=s.heap.objs.size) (o:=.dict 0 []) s.toks (fun b ob e=>Heap.get?_push_of_some _ e) (bi _) ⟨_,Heap.get?_push_size _ rfl⟩
  ⟨[],⟨_,#[],Heap.get?_push_size _ rfl,⟨rfl,rfl,rfl⟩,rfl,fun e h=>by simp at h,.nil,by simp⟩,.nil⟩ rfl
 exact ⟨_,_,rfl,k1,k2,k3⟩
noncomputable def DC:O->Option String
 | .list _=>some "list"
 | .froz p=>(list? p).map fun _=> "list"
 | .dict _ _=>some "dict"
 | .set _=>some "set"
 | _=>none
noncomputable def kT (σ:List O):D->Option String
 | .py (.str _)=>some "str"
 | .py (.list _)=>some "list"
 | .obj n=>σ[n]?.bind DC
 | _=>none
noncomputable def isT (T:String) (σ:List O) (d:D):Bool:=decide (kT σ d=some T)
theorem DW {T:String} {c:Cx} {l:Lay} {h:Heap} {o:O} {p:Addr×Addr} (e:DC o=some T) (r:kx c h l p o):∃ o,h.get? p.1=some o/\o.cls=.type T/\o.dict=none:=by
 cases o with
 | list ds=>cases e; obtain ⟨_,⟨_,o⟩,_⟩:=r; exact ⟨_,o,rfl,rfl⟩
 | froz q=>
  obtain ⟨_,hq,e⟩:=Option.map_eq_some_iff.mp e;cases e;obtain rfl:=list?_some hq;obtain ⟨_,_,_,e,_,o,_⟩:=r.2.list_inv;cases e;exact ⟨_,o,rfl,rfl⟩
 | dict ep kvs=>cases e; obtain ⟨_,⟨o,_,h1,h2,_⟩,_⟩:=r; exact ⟨o,h1,h2.1,h2.2.1⟩
 | set ks=>cases e; obtain ⟨_,⟨o,_,_,_,h1,h2,_⟩,_⟩:=r; exact ⟨o,h1,h2.1,h2.2.1⟩
 | _=>cases e
theorem GL {T:String} {σ:List O} {d:D} {c:Cx} {l:Lay} {s:Shared} {v:Value} (i:Inv c σ l s.heap) (r:Rep s.heap l v d) (e:kT σ d=some T):s.TypeIs v T/\∀ a,v=.ref a->∃ o,s.heap.get? a=some o/\o.dict=none:=by
 cases d with
 | obj n=>
  obtain ⟨o,ho,e⟩:=Option.bind_eq_some_iff.mp e;obtain ⟨p,rfl,hp⟩:=r.obj_inv;obtain ⟨ob,h1,h2,h3⟩:=DW e (i.at ho hp);exact ⟨⟨ob,h1,h2⟩,fun a q=>by cases q; exact ⟨ob,h1,h3⟩⟩
 | py q=>cases q with
  | str y=>cases e; obtain ⟨t,rfl⟩:=r.str_inv; exact ⟨typeIs_str _ _ _,fun a q=>nomatch q⟩
  | list ps=>
   cases e;obtain ⟨_,_,_,rfl,_,o,_⟩:=r.py_inv.list_inv;exact ⟨⟨_,o,rfl⟩,fun a q=>by cases q; exact ⟨_,o,rfl⟩⟩
  | _=>cases e
 | _=>cases e
theorem FJ {T:String} {σ:List O} {d:D} {c:Cx} {l:Lay} {s:Shared} {v:Value} (i:Inv c σ l s.heap) (r:Rep s.heap l v d) (e:isT T σ d=true):s.TypeIs v T/\∀ a,v=.ref a->∃ o,s.heap.get? a=some o/\o.dict=none:=GL i r (of_decide_eq_true e)
theorem tV {T:String} {σ:List O} {n:Nat} {o:O} (h:σ[n]?=some o) (e:DC o=some T):isT T σ (.obj n)=true:=decide_eq_true (by show σ[n]?.bind DC=_; rw [h]; exact e)
noncomputable def gA (x:Ctx) (id:String) (k:D->List D->AM D):Prop:=∀ (P:MP) v d vs ds,(∀ h l,P.p h l->Rep h l v d)->(∀ h l,P.p h l->au h l vs ds)->Sim x P MP.rep (PySem.call (.builtin id) (v::vs) []) (k d ds)
noncomputable def DL (T:String) (d:D):AM Unit:=fun st=>if isT T st.σ d=true then some (.ok (),st) else none
noncomputable def bN (T:String) (f:AM D) (g:AM (List D)) (k:D->List D->AM D):AM D:=f>>=fun d=>DL T d>>=fun _=>g>>=fun ds=>k d ds
theorem cy {o:Expr} {name:Str} {apos pos:Pos} {args:List Expr} {T id:String} {f:AM D} {g:AM (List D)} {k:D->List D->AM D} (hbase:attributeBase o name x.env (eval o x.env)=eval o x.env)
  (hfew:methodCallForm (args.length+([]:List Keyword).length) (backTo pos (starEach args x.env)) (backToKw pos (keywordEach [] x.env))=true) (hline:(apos.endLine==pos.line)=true)
  (pa:PlainAttrs T) (slot:Slot T name id) (hty:typeOf (.builtin id)=pure (.type "method_descriptor")) (ho:a9 x o f) (ha:f6 x args g) (hk:gA x id k):
  a9 x (.Call (.Attribute o name apos) args [] pos) (bN T f g k):=fun P=>by
 rw [show eval (.Call (.Attribute o name apos) args [] pos) x.env=_ from arm_eval_Call ..,hbase];refine (ho P).bind fun ov d=>Sim.at ?_;unfold methodCall;rw [hfew];intro ρ σ l s r st' e hs hp;have e2:AM.andThen (DL T d) (fun _=>g>>=fun ds=>k d ds) ⟨ρ,σ⟩=some (r,st'):=e;unfold AM.andThen DL at e2;by_cases hT:isT T σ d=true
 .rw [if_pos hT] at e2;dsimp only at e2;obtain ⟨h1,h2⟩:=FJ (s:=s) hs.inv hp.2 hT;have hpos:methodCallPos true o x.env apos pos=pure pos:=by unfold methodCallPos; simp [hline]
  refine wpAny_bind (wpAny_holding (getMethod_builtin h1 pa slot hty h2 ?_));refine wpAny_bind (wpAny_of_eq hpos ?_);exact jW (P:=P.and (MP.rep ov d)) (first:=[ov]) (fd:=[]) (df.builtin id) (ha _ _ pos) (fun vs ds=>hk _ ov d vs ds (fun h l q=>q.1.2) fun h l q=>q.2) ρ σ l s r st' e2 hs hp
 .rw [if_neg hT] at e2; cases e2
theorem St.setList {ρ:aq} {σ:List O} {l:Lay} {s:Shared} (hs:St x ρ σ l s) {n:Nat} {ds ds':List D} {p:Addr×Addr} (hn:σ[n]?=some (.list ds)) (hm:l.mu[n]?=some p) {h':Heap} {vs':Array Value} (tk:Nat) (hpl:h'.PlainList p.1 vs') (hsb:Heap.SameBut p.1 s.heap h')
  (hr:cg s.heap l h' l->au h' l vs'.toList ds'):St x ρ (σ.set n (.list ds')) l {s with heap:=h',toks:=tk}/\bt x.c x.S x.W l s.heap l h':=
 hs.write (s':={s with heap:=h',toks:=tk}) (o':=.list ds') hn rfl hm (.one hsb (let ⟨_,q⟩:=hpl; ⟨_,q⟩) (hs.inv.mlt _ ⟨n,p,hm,.inr rfl⟩)) rfl rfl ⟨_,hpl,hr (.of_off fun a ob q=>cK hsb a ob fun z=>(hs.inv.live n _ p hn rfl hm).1 (z▸q))⟩
noncomputable def se (d:D) (f:List D->Option (List D×D)):AM D:=rG (fun o=>o.list?.bind fun es=>(f es).map fun q=>(.list q.1,q.2)) d
theorem Bw {d:D} {f:List D->Option (List D×D)} {ρ:aq} {σ:List O} {r:Except Value D} {st':ASt} (e:se d f ⟨ρ,σ⟩=some (r,st')):
  ∃ n es q,d=.obj n/\σ[n]?=some (.list es)/\f es=some q/\r=.ok q.2/\st'=⟨ρ,σ.set n (.list q.1)⟩:=by
 obtain ⟨n,o,_,hd,hn,h,h2,h3⟩:=yH e;obtain ⟨es,he,h⟩:=Option.bind_eq_some_iff.mp h;obtain ⟨q,hq,rfl⟩:=Option.map_eq_some_iff.mp h;exact ⟨n,es,q,hd,O.list?_some he▸hn,hq,h2,h3⟩
theorem Sim.turn {P:MP} {f:List D->Option (List D×D)} {t:Sem Value} {vo:Value} {o:D} (ho:∀ h l,P.p h l->Rep h l vo o)
  (k:∀ {ρ σ l s a vs es q},St x ρ σ l s->P.p s.heap l->vo=.ref a->s.heap.PlainList a vs->au s.heap l vs.toList es->vs.size=es.length->f es=some q->∀ (Q E:Value->Shared->Prop),
   (∀ r h' vs' tk,h'.PlainList a vs'->Heap.SameBut a s.heap h'->(cg s.heap l h' l->au h' l vs'.toList q.1/\Rep h' l r q.2)->Q r {s with heap:=h',toks:=tk})->wpAny x.c.M x.A t Q E s):Sim x P MP.rep t (se o f):=
 Sim.upd ho (fun ob q e=>by cases ob <;> first | rfl | cases e) fun {ρ σ l s p ob q} hs hp e r h2 hf {Q E} g=>by
  obtain ⟨es,he,h⟩:=Option.bind_eq_some_iff.mp hf;obtain ⟨q,hq,rfl⟩:=Option.map_eq_some_iff.mp h;obtain rfl:=O.list?_some he;obtain ⟨vs,hl,hr⟩:=r;exact k hs hp e hl hr ((Array.length_toList).symm.trans hr.length) hq Q E fun r h' vs' tk hl' hsb gg=>g r h' tk (.one hsb (let ⟨_,q⟩:=hl'; ⟨_,q⟩) h2) fun la=>⟨⟨_,hl',(gg la).1⟩,(gg la).2⟩
theorem iB {id:String} {f:D->List D->AM D} (h0:∀ d,f d []=AM.fail) (h2:∀ d a b t,f d (a::b::t)=AM.fail)
  (h:∀ P v d w u,(∀ h l,P.p h l->Rep h l v d)->(∀ h l,P.p h l->Rep h l w u)->Sim x P MP.rep (PySem.call (.builtin id) [v,w] []) (f d [u])):gA x id f:=fun P v d vs ds hv hvs=>by
 rcases ds with _ | ⟨u,_ | ⟨b,t⟩⟩
 .rw [h0]; exact Sim.fail
 .intro ρ σ l s r st' e hs hp;obtain ⟨w,rfl,_⟩:=(hvs _ _ hp).one;exact h P v d w u hv (fun h l q=>by obtain ⟨w',e,r⟩:=(hvs h l q).one; cases e; exact r) ρ σ l s r st' e hs hp
 .rw [h2]; exact Sim.fail
theorem vz {id:String} {f:D->List D->AM D} (h2:∀ d a t,f d (a::t)=AM.fail)
  (h:∀ P v d,(∀ h l,P.p h l->Rep h l v d)->Sim x P MP.rep (PySem.call (.builtin id) [v] []) (f d [])):gA x id f:=fun P v d vs ds hv hvs=>by
 rcases ds with _ | ⟨u,t⟩
 .intro ρ σ l s r st' e hs hp;obtain rfl:=(hvs _ _ hp).nil_inv;exact h P v d hv ρ σ l s r st' e hs hp
 .rw [h2]; exact Sim.fail
noncomputable def cN (d:D):List D->AM D
 | [e]=>se d fun es=>if es.length<=ar then some (es++[e],.py .none) else none
 | _=>AM.fail
theorem cY:gA x "list.append" cN:=iB (fun _=>rfl) (fun _ _ _ _=>rfl) fun P v d w u hv hvs=>Sim.turn hv fun hs hp e hl hr z hf Q E k=>by
 obtain ⟨hz,rfl⟩:=bb hf;subst e;exact wpAny_list_append_plain hl (fun h' hl' hsb=>k .none h' _ _ hl' hsb fun la=>⟨by rw [Array.toList_push]; exact au.append (.cons ((hvs _ _ hp).later la) .nil) (hr.later la),.py .none⟩) (by rw [z]; exact bD hz)
noncomputable def rt (d:D):List D->AM D
 | []=>se d fun es=>if es.length<=ar then es.getLast?.map fun u=>(es.dropLast,u) else none
 | _=>AM.fail
theorem au.snoc {h:Heap} {l:Lay} {vs:List Value} {ds:List D} {d:D} (r:au h l vs ds) (e:ds.getLast?=some d):∃ v vs',vs=vs'++[v]/\Rep h l v d/\au h l vs' ds.dropLast:=by
 have hd:ds≠[]:=by rintro rfl; cases e
 have e1:ds=ds.dropLast++[d]:=by
  rw [List.getLast?_eq_some_getLast hd] at e;rw [← Option.some.inj e];exact (List.dropLast_concat_getLast hd).symm
 have hz:ds.dropLast.length < ds.length:=by rw [e1]; simp
 have r1:=r.take ds.dropLast.length;have r2:=r.drop ds.dropLast.length;rw [e1] at r1 r2;simp only [List.length_append,List.dropLast_concat,List.take_left',List.drop_left'] at r1 r2;obtain ⟨v,ev,rv⟩:=r2.one;exact ⟨v,_,by rw [← ev,List.take_append_drop],rv,r1⟩
theorem v6:gA x "list.pop" rt:=vz (fun _ _ _=>rfl) fun P v d hv=>Sim.turn hv fun hs hp e hl hr z hf Q E g=>by
 obtain ⟨hz,hf⟩:=gf hf;obtain ⟨u,hu,rfl⟩:=Option.map_eq_some_iff.mp hf;subst e;obtain ⟨w,us',e1,r2,r3⟩:=au.snoc hr hu;obtain ⟨k,ho⟩:=id hl;have ei:=(Array.toArray_toList).symm.trans (congrArg List.toArray e1);subst ei;have hk:(us'++[w]).toArray.size - 1=us'.length:=by rw [List.size_toArray,List.length_append]; rfl
 have hy:(us'++[w]).toArray[(us'++[w]).toArray.size - 1]?=some w:=by rw [hk]; simp
 have he:(us'++[w]).toArray.eraseIdxIfInBounds ((us'++[w]).toArray.size - 1)=us'.toArray:=by rw [hk,kl_erase,List.append_nil]
 refine call_meets PySem.F.slot_list_pop ⟨_,ho,rfl⟩ PySem.F.entry_list_pop (PySem.F.args_list_pop_1 _) (PySem.MeetsSeq.list_pop_last _ _ k w hy (by rw [z]; exact bD hz)) ⟨ho,?_⟩;have hpl:=PlainList.update hl (fun its=>its.eraseIdxIfInBounds ((us'++[w]).toArray.size - 1));rw [he] at hpl;exact g w _ _ _ hpl (Heap.SameBut.update ..) fun la=>⟨r3.later la,r2.later la⟩
noncomputable def wM (d:D):List D->AM D
 | []=>se d fun es=>if es.length<=ar then some ([],.py .none) else none
 | _=>AM.fail
theorem xJ:gA x "list.clear" wM:=vz (fun _ _ _=>rfl) fun P v d hv=>Sim.turn hv fun hs hp e hl hr z hf Q E g=>by
 obtain ⟨hz,rfl⟩:=bb hf;subst e;obtain ⟨k,ho⟩:=id hl;exact call_meets PySem.F.slot_list_clear ⟨_,ho,rfl⟩ PySem.F.entry_list_clear (PySem.F.args_list_clear_1 _) (PySem.AutoSeq1.list_clear_list_0 _ _ k (by rw [z]; exact bD hz)) ⟨ho,g .none _ _ _ (PlainList.update hl (fun _=>#[])) (Heap.SameBut.update ..) fun la=>⟨.nil,.py .none⟩⟩
end
noncomputable def FQ:Value->Option Addr
 | .ref f=>some f
 | _=>none
theorem sC {v:Value} {f:Addr} (e:FQ v=some f):v=.ref f:=by
 cases v with
 | ref _=>cases e; rfl
 | _=>cases e
noncomputable def Eu:Data->Option FuncData
 | .func fd=>some fd
 | _=>none
theorem wp {d:Data} {fd:FuncData} (e:Eu d=some fd):d=.func fd:=by
 cases d with
 | func _=>cases e; rfl
 | _=>cases e
noncomputable def xo (K:Frag) (f:Addr):Option (Addr×FuncData):=(K.lookup f).bind fun o=>(Eu o.data).map fun fd=>(f,fd)
theorem og {K:Frag} {f:Addr} {q:Addr×FuncData} (h:xo K f=some q):f=q.1/\∃ oc od osl,K.lookup q.1=some ⟨oc,od,.func q.2,osl⟩:=by
 obtain ⟨⟨oc,od,d,osl⟩,h1,h2⟩:=Option.bind_eq_some_iff.mp h;obtain ⟨fd,h3,rfl⟩:=Option.map_eq_some_iff.mp h2;obtain rfl:d=.func fd:=wp h3;exact ⟨rfl,oc,od,osl,h1⟩
noncomputable def fnK (K:Frag) (n:String):Option (Addr×FuncData):=(nsIn K mainGlobals (Str.o n)).bind fun o=>o.bind fun v=>(FQ v).bind (xo K)
theorem dU {K:Frag} {n:String} {q:Addr×FuncData} (h:fnK K n=some q):nsIn K mainGlobals (Str.o n)=some (some (.ref q.1))/\∃ oc od osl,K.lookup q.1=some ⟨oc,od,.func q.2,osl⟩:=by
 obtain ⟨o,h1,h2⟩:=Option.bind_eq_some_iff.mp h;obtain ⟨v,rfl,h3⟩:=Option.bind_eq_some_iff.mp h2;obtain ⟨f,h4,h5⟩:=Option.bind_eq_some_iff.mp h3;obtain ⟨rfl,h6⟩:=og h5;exact ⟨by rw [h1,sC h4],h6⟩
noncomputable def ci (fd:FuncData):List Stmt:=match fd.body with
 | .stmts b=>b
 | _=>[]
structure aS (c:Cx) (K:Frag):Prop where
 eqK:c.K=K
 glob:∀ n v,nsIn K mainGlobals (Str.o n)=some (some v)->xg c n v
 built:∀ n v,nsIn K mainGlobals (Str.o n)=some none->bootBuiltins (Str.o n)=some v->Str.o n≠ "__name__" ->xg c n v
theorem aS.to {c d:Cx} {K:Frag} (h:aS c K) (e:d=c):aS d K:=e▸h
theorem leq {a b c:Nat} (h:a<=b) (e:c=b):a<=c:=e▸h
noncomputable def CZ (K:Frag) (fd:FuncData):Bool:=
 codeIn K fd.code fd.qualname&&(match fd.body with | .stmts _=>true | _=>false)&&fd.closure.isEmpty&&!fd.scope.isCoroutine&&!fd.scope.isGenerator&&fd.scope.kind==.function&&fd.globals==mainGlobals&&fd.builtins==builtinsNs&&decide ((fd.scope.names.map (·.1)).Nodup)
theorem GV {c:Cx} {K:Frag} (F:aS c K) {n:String} {q:Addr×FuncData} (h:fnK K n=some q) (ok:CZ K q.2=true):xy c q.1 q.2 (ci q.2):=by
 obtain ⟨_,h2⟩:=dU h;unfold CZ at ok;simp only [Bool.and_eq_true,Bool.not_eq_true',decide_eq_true_eq,List.isEmpty_iff,beq_iff_eq] at ok;obtain ⟨⟨⟨⟨⟨⟨⟨⟨h3,h4⟩,h5⟩,h6⟩,h7⟩,h8⟩,h9⟩,h10⟩,h11⟩:=ok;refine ⟨by rw [F.eqK]; exact h2,by rw [F.eqK]; exact h3,?_,h5,h6,h7,h8,h9,h10,h11⟩;unfold ci;cases hb:q.2.body with
 | stmts b=>rfl
 | _=>rw [hb] at h4; cases h4
theorem av {x:Ctx} {ns:List (Str×NameKind)} {n:Str} {k:NameKind} (h:x.env.scope.names=ns) (e:ns.lookup n=some k):x.env.kindOf n=some k:=by
 unfold Env.kindOf; rw [h]; exact e
theorem ax {x:Ctx} {ns:List (Str×NameKind)} {n:Str} (h:x.wr=mh ns) (e:(mh ns).contains n=true):n∈x.wr:=by
 rw [h]; simpa using e
theorem qa {x:Ctx} {ns:List (Str×NameKind)} {vs:List String} (h:x.wr=mh ns) (e:(vs.all fun v=>(mh ns).contains (Str.o v))=true):∀ v∈vs,Str.o v∈x.wr:=fun v hv=>by
 rw [h];have:=List.all_eq_true.mp e v hv
 simpa using this
theorem bH {x:Ctx} {ns:List (Str×NameKind)} {scope:Scope} (h:x.env.scope.names=ns)
  (e:(scope.kind==.function&&decide ((scope.names.map (·.1)).Nodup)&&scope.names.all fun p=>p.2 !=.free||ns.lookup p.1==some .cell)=true):mt x scope:=by
 simp only [Bool.and_eq_true,beq_iff_eq,decide_eq_true_eq,List.all_eq_true] at e;obtain ⟨⟨h1,h2⟩,h3⟩:=e;refine ⟨h1,h2,fun n hn=>av h ?_⟩;have:=h3 _ hn
 simpa using this
theorem bY {scope:Scope} {fs:List String} (e:(fs.all fun v=>scope.names.contains (Str.o v,.free))=true):∀ v∈fs,(Str.o v,NameKind.free)∈scope.names:=fun v hv=>by
 have:=List.all_eq_true.mp e v hv
 simpa using this
noncomputable def qE (ns:List (Str×NameKind)):Env:={scope:={kind:=.function,names:=ns,isGenerator:=false,isCoroutine:=false},locals:=0,globals:=0,cells:=[]}
theorem bv {x:Ctx} {ns:List (Str×NameKind)} {ts:List Expr} {v:Expr} {sw:Option (List Str)} (h:x.env.scope.names=ns) (e:swappedStores ts v (qE ns)=pure sw):swappedStores ts v x.env=pure sw:=by
 rw [← e];unfold swappedStores Env.blockKind Env.kindOf;rw [x.hfn,h];rfl
theorem gj {x:Ctx} {ns:List (Str×NameKind)} {e:Expr} {t:Option Expr} {line:Nat} {b:Bool} (h:x.env.scope.names=ns) (q:swapsWith e t line (qE ns)=pure b):swapsWith e t line x.env=pure b:=by
 rw [← q];unfold swapsWith Env.blockKind Env.kindOf;rw [x.hfn,h];rfl
theorem ck {c:Cx} {K:Frag} {nm:String} {q:Addr×FuncData} (F:aS c K) (h:fnK K nm=some q):xg c nm (.ref q.1):=F.glob nm _ (dU h).1
theorem bc {c:Cx} {K:Frag} {f:Value} (F:aS c K) (h:keepIn K f=true):df c f:=df.inK (by rw [F.eqK]; exact h)
section
open PySem.AutoSeq1 (wpAny_loadPart')
open PySem.MeetsSeq PySem.SeqAt
theorem rf (l:Addr) (items:Array Value) (n:Nat) (x:Value) (e:Value->Bool) (j:Nat) (hj:j < items.size) (hit:e items[j]=true) (k:Nat) (hs1:items.size<=sizeLine):
  ∀ i:Nat,j - i=k->i<=j->(∀ m (hm:m < items.size),i<=m->m < j->e items[m]=false)->Meets (Builtin.«list.remove.loop» ⟨[.ref l,x,rawInt i],[]⟩)
   (fun A R s=>s.heap.get? l=some {cls:=.type "list",dict:=none,data:=.seq items n,slots:=#[]}/\(∀ y,y∈items->EqAt A.in1 s y x (e y))/\R (.ok (.ret .none)) {s with heap:=s.heap.update l (Obj.mapSeq fun xs=>xs.eraseIdxIfInBounds j)}):=by
 induction k with
 | zero=>
  intro i hk hij hno prog w A R s h;obtain ⟨hp,g,d,tk,os⟩:=s; obtain ⟨hl,he,h⟩:=h;have hij':i=j:=by omega
  subst hij'
  wp_walk using wpAny_loadPart' hl
  have hi:items[((i:Nat):Int).toNat]?=some items[i]:=by simp [hj]
  rw [hi];refine wpAny_bind (he _ (Array.getElem_mem hj) prog w _ _ ?_);rw [hit];have hz':(items.eraseIdxIfInBounds i).size<=sizeLine+1:=Nat.le_trans (size_erased items _) (Nat.le_succ_of_le hs1)
  wp_walk using (wpAny_updateSeq hl rfl (hz:=hs1) (_hz':=hz')),wpAny_loadPart' hl
  simpa using h
 | succ k ih=>
  intro i hk hij hno prog w A R s h;obtain ⟨hp,g,d,tk,os⟩:=s; obtain ⟨hl,he,h⟩:=h;have hlt:i < items.size:=by omega
  wp_walk using wpAny_loadPart' hl
  have hi:items[((i:Nat):Int).toNat]?=some items[i]:=by simp [hlt]
  have hc:((i:Int)+1)=((i+1:Nat):Int):=by push_cast; rfl
  rw [hi];refine wpAny_bind (he _ (Array.getElem_mem hlt) prog w _ _ ?_);rw [hno i hlt (Nat.le_refl _) (by omega)]
  wp_walk
  rw [hc];exact ⟨plainId_quiet plain_remove_loop _,codeAny_builtin entry_remove_loop (by
   rw [Around.under_plainId plain_remove_loop _];exact ih (i+1) (by omega) (by omega) (fun m hm h1 h2=>hno m hm (by omega) h2) prog w A R _ ⟨hl,he,h⟩)⟩
theorem ry (l:Addr) (items:Array Value) (n:Nat) (x:Value) (e:Value->Bool) (j:Nat) (hj:j < items.size)
  (hit:e items[j]=true) (hno:∀ m (hm:m < items.size),m < j->e items[m]=false) (hs1:items.size<=sizeLine):
  Meets (Builtin.«list.remove» ⟨[.ref l,x],[]⟩)
   (fun A R s=>s.heap.get? l=some {cls:=.type "list",dict:=none,data:=.seq items n,slots:=#[]}/\(∀ y,y∈items->EqAt A.in1 s y x (e y))/\R (.ok (.ret .none)) {s with heap:=s.heap.update l (Obj.mapSeq fun xs=>xs.eraseIdxIfInBounds j)}):=by
 intro prog w A R s h;obtain ⟨hp,g,d,tk,os⟩:=s; obtain ⟨hl,he,h⟩:=h
 wp_walk using wpAny_loadPart' hl
 exact ⟨plainId_quiet plain_remove_loop _,codeAny_builtin entry_remove_loop (by
  rw [Around.under_plainId plain_remove_loop _];exact rf l items n x e j hj hit _ hs1 0 rfl (Nat.zero_le _) (fun m hm _ h2=>hno m hm h2) prog w A R _ ⟨hl,he,h⟩)⟩
theorem lV (l:Addr) (items:Array Value) (n:Nat) (x:Value) (e:Value->Bool) (hno:∀ m (hm:m < items.size),e items[m]=false) (k:Nat):
  ∀ i:Nat,items.size - i=k->Meets (Builtin.«list.remove.loop» ⟨[.ref l,x,rawInt i],[]⟩)
   (fun A R s=>s.heap.get? l=some {cls:=.type "list",dict:=none,data:=.seq items n,slots:=#[]}/\(∀ y,y∈items->EqAt A.in1 s y x (e y))/\raisesNew "ValueError" A R s):=by
 induction k with
 | zero=>
  intro i hk prog w A R s h;obtain ⟨hp,g,d,tk,os⟩:=s; obtain ⟨hl,he,h⟩:=h
  wp_walk using wpAny_loadPart' hl
  have hi:items[((i:Nat):Int).toNat]?=none:=by simp; omega
  rw [hi]
  wp_walk
  exact_raiseError plainExc_ValueError h.1 h.2
 | succ k ih=>
  intro i hk prog w A R s h;obtain ⟨hp,g,d,tk,os⟩:=s; obtain ⟨hl,he,h⟩:=h;have hlt:i < items.size:=by omega
  wp_walk using wpAny_loadPart' hl
  have hi:items[((i:Nat):Int).toNat]?=some items[i]:=by simp [hlt]
  have hc:((i:Int)+1)=((i+1:Nat):Int):=by push_cast; rfl
  rw [hi];refine wpAny_bind (he _ (Array.getElem_mem hlt) prog w _ _ ?_);rw [hno i hlt]
  wp_walk
  rw [hc];exact ⟨plainId_quiet plain_remove_loop _,codeAny_builtin entry_remove_loop (by
   rw [Around.under_plainId plain_remove_loop _];exact ih (i+1) (by omega) prog w A R _ ⟨hl,he,h⟩)⟩
theorem lS (l:Addr) (items:Array Value) (n:Nat) (x:Value) (e:Value->Bool) (hno:∀ m (hm:m < items.size),e items[m]=false):
  Meets (Builtin.«list.remove» ⟨[.ref l,x],[]⟩)
   (fun A R s=>s.heap.get? l=some {cls:=.type "list",dict:=none,data:=.seq items n,slots:=#[]}/\(∀ y,y∈items->EqAt A.in1 s y x (e y))/\raisesNew "ValueError" A R s):=by
 intro prog w A R s h;obtain ⟨hp,g,d,tk,os⟩:=s; obtain ⟨hl,he,h⟩:=h
 wp_walk using wpAny_loadPart' hl
 exact ⟨plainId_quiet plain_remove_loop _,codeAny_builtin entry_remove_loop (by
  rw [Around.under_plainId plain_remove_loop _];exact lV l items n x e hno _ 0 rfl prog w A R _ ⟨hl,he,h⟩)⟩
end
section
variable {x:Ctx}
theorem St.newExc {ρ:aq} {σ:List O} {l:Lay} {s:Shared} (hs:St x ρ σ l s) {h':Heap} {e:Addr} {cls:String} (tk:Nat) (ne:Heap.NewExc s.heap h' e cls):
  St x ρ σ l {s with heap:=h',toks:=tk}/\bt x.c x.S x.W l s.heap l h'/\nI x.env.frame s.heap (.ref e) (.type cls) l h':=by
 obtain ⟨k1,k2⟩:=hs.grow (s':={s with heap:=h',toks:=tk}) ne.keeps rfl rfl;obtain ⟨ob,t,h1,h2,h3⟩:=ne.there;exact ⟨k1,k2,e,ob,_,t,rfl,ne.new,(hs.off ne.new).1,(hs.off ne.new).2,h1,h2,h3,rfl,.inl rfl⟩
noncomputable def Dh (n:Nat) (st:ASt) (es:List D) (ps:List PyData) (p:PyData):Option (Except Value D×ASt):=if okP p=true/\okP (.list ps)=true/\ps.length<=ar then some (match ps.findIdx? fun y=>PyData.eqv y p with
 | some j=>(.ok (.py .none),⟨st.ρ,st.σ.set n (.list (es.eraseIdx j))⟩)
 | none=>(.error (.type "ValueError"),st)) else none
noncomputable def mQ (d:D):List D->AM D
 | [u]=>fun st=>d.obj?.bind fun n=>(st.σ[n]?.bind O.list?).bind fun es=>(dk es).bind fun ps=>(viewP st.σ u).bind (Dh n st es ps)
 | _=>AM.fail
theorem au.eraseIdx {h:Heap} {l:Lay} {vs:List Value} {ds:List D} (k:Nat) (r:au h l vs ds):au h l (vs.eraseIdx k) (ds.eraseIdx k):=by
 refine r.ind (C:=fun vs ds=>∀ k,au h l (vs.eraseIdx k) (ds.eraseIdx k)) (fun _=>.nil) (fun r rs ih k=>?_) k;cases k with
 | zero=>exact rs
 | succ k=>exact .cons r (ih k)
theorem bA.get {h:Heap} {F:Addr->Prop} {vs:List Value} {ps:List PyData} {k:Nat} {v:Value} (r:bA h F vs ps) (e:vs[k]?=some v):∃ p,ps[k]?=some p/\Rp h F v p:=by
 refine r.ind (C:=fun vs ps=>∀ k:Nat,vs[k]?=some v->∃ p,ps[k]?=some p/\Rp h F v p) (fun k e=>by cases e) (fun r _ ih k e=>?_) k e;cases k with
 | zero=>cases e; exact ⟨_,rfl,r⟩
 | succ k=>exact ih k e
theorem wU {ps:List PyData} {p:PyData} (h:PyData.canLayAll0 ps=true) (hm:p∈ps):p.canLay0=true:=by
 induction ps with
 | nil=>cases hm
 | cons q r ih=>
  obtain ⟨h1,h2⟩:=Bool.and_eq_true_iff.mp (show (q.canLay0&&PyData.canLayAll0 r)=true from h);rcases List.mem_cons.mp hm with rfl | hm
  .exact h1
  .exact ih h2 hm
theorem Rp.ref_inv {h:Heap} {F:Addr->Prop} {a:Addr} {q:PyData} (r:Rp h F (.ref a) q):∃ o vs n xs,h.get? a=some o/\o.data=.seq vs n/\bA h F vs.toList xs/\(o.cls=.type "list" /\q=.list xs\/o.cls=.type "tuple" /\q=.tuple xs):=by
 cases r with
 | list _ o r=>exact ⟨_,_,_,_,o,rfl,r,.inl ⟨rfl,rfl⟩⟩
 | tuple _ o c d r=>exact ⟨_,_,_,_,o,d,r,.inr ⟨c,rfl⟩⟩
theorem Rp.det {h:Heap} {F:Addr->Prop} {v:Value} {p q:PyData} (r:Rp h F v p) (r':Rp h F v q):p=q:=by
 have seq:∀ {a:Addr} {o:Obj} {vs:Array Value} {n:Nat} {xs:List PyData} {q:PyData},h.get? a=some o->o.data=.seq vs n->(∀ ys,bA h F vs.toList ys->xs=ys)->Rp h F (.ref a) q->(o.cls=.type "list" /\q=.list xs)\/(o.cls=.type "tuple" /\q=.tuple xs):=by
  intro a o vs n xs q ho hd ih r;obtain ⟨o',vs',n',ys,ho',hd',r2,hk⟩:=r.ref_inv;cases ho.symm.trans ho';cases hd.symm.trans hd';rw [ih ys r2];exact hk
 refine Rp.rec (motive_1:=fun v p _=>∀ q,Rp h F v q->p=q) (motive_2:=fun vs ps _=>∀ qs,bA h F vs qs->ps=qs) ?_ ?_ ?_ ?_ ?_ ?_ ?_ ?_ r q r'
 .intro q r; cases r; rfl
 .intro b q r; cases r; rfl
 .intro i t q r; cases r; rfl
 .intro x t q r; cases r; rfl
 .intro a vs n xs f o r ih q r';rcases seq o rfl ih r' with ⟨_,e⟩ | ⟨c,_⟩
  .exact e.symm
  .exact absurd c (by simp)
 .intro a ob vs n xs f o c d r ih q r';rcases seq o d ih r' with ⟨c',_⟩ | ⟨_,e⟩
  .rw [c] at c'; exact absurd c' (by simp)
  .exact e.symm
 .intro qs r; cases r; rfl
 .intro v vs d ds _ _ i1 i2 qs r;cases r with | cons r1 r2=>rw [i1 _ r1,i2 _ r2]
open Classical in
noncomputable def wL (h:Heap) (F:Addr->Prop) (p:PyData) (y:Value):Bool:=if hx:∃ q,Rp h F y q then PyData.eqv hx.choose p else false
theorem yn {h:Heap} {F:Addr->Prop} {p q:PyData} {y:Value} (r:Rp h F y q):wL h F p y=PyData.eqv q p:=by
 have hx:∃ q,Rp h F y q:=⟨q,r⟩
 unfold wL;rw [dif_pos hx,Rp.det hx.choose_spec r]
theorem BS {ρ:aq} {σ:List O} {l:Lay} {s:Shared} (hs:St x ρ σ l s) {us:Array Value} {ps:List PyData} (hrp:bA s.heap l.F us.toList ps) {w:Value} {u:D} {p:PyData} (rv:Rep s.heap l w u) (hpv:viewP σ u=some p) (o1:okP p=true) (o2:okP (.list ps)=true):
  (∀ y,y∈us->SeqAt.EqAt x.A.in1 s y w (wL s.heap l.F p y))/\∀ (i:Nat) (hi:i < us.size) q,ps[i]?=some q->wL s.heap l.F p us[i]=PyData.eqv q p:=by
 have at_:∀ (i:Nat) (hi:i < us.size),∃ q,ps[i]?=some q/\Rp s.heap l.F us[i] q:=fun i hi=>hrp.get (Array.getElem?_toList.trans (Array.getElem?_eq_getElem hi))
 refine ⟨fun y hy=>?_,fun i hi q hq=>?_⟩
 .obtain ⟨i,hi,rfl⟩:=Array.getElem_of_mem hy;obtain ⟨q,hq1,hq3⟩:=at_ i hi
  obtain ⟨bs,hrd⟩:=hq3.reads;obtain ⟨as,rx⟩:=hs.inv.viewP rv hpv;rw [yn hq3];refine SeqAt.eqAt_reads _ _ _ _ _ _ _ _ hrd rx (wU (SeqAt.canLay_of_shaped o2) (List.mem_of_getElem? hq1)) (SeqAt.canLay_of_shaped o1) ?_;have h1:=SeqAt.depth_of_shaped o1;have h2:min q.depth p.depth<=p.depth:=Nat.min_le_right _ _;have h3:=x.room65;show x.A.units+1+_ < _;omega
 .obtain ⟨q',hq1,hq3⟩:=at_ i hi
  cases hq.symm.trans hq1;exact yn hq3
theorem v4 (hq:x.quiet=true):gA x "list.remove" mQ:=iB (fun _=>rfl) (fun _ _ _ _=>rfl) fun P v d w u hv hvs=>by
 intro ρ σ l s r st' e hs hp;have rv:=hvs _ _ hp;obtain ⟨n,hd,e2⟩:=Option.bind_eq_some_iff.mp e;obtain ⟨es,ho,e3⟩:=Option.bind_eq_some_iff.mp e2;obtain ⟨ob,hn,ho⟩:=Option.bind_eq_some_iff.mp ho;obtain ⟨ps,hps,e4⟩:=Option.bind_eq_some_iff.mp e3;obtain ⟨p,hpv,e5⟩:=Option.bind_eq_some_iff.mp e4;obtain ⟨⟨o1,o2,hz⟩,e6⟩:=bb e5;clear e e2 e3 e4 e5;obtain rfl:=O.list?_some ho;obtain rfl:=dM hd;obtain ⟨b,rfl,hm⟩:=(hv _ _ hp).obj_inv;obtain ⟨us,hl,hr⟩:=hs.inv.at hn hm;obtain ⟨k,ho⟩:=id hl;have hrp:=hr.rp hps;have z:=hrp.length;rw [Array.length_toList] at z;obtain ⟨heq,at_⟩:=BS hs hrp rv hpv o1 o2;have hT:s.TypeIs (.ref b.1) "list" :=⟨_,ho,rfl⟩
 cases hj:ps.findIdx? fun y=>PyData.eqv y p with
 | some j=>
  rw [hj] at e6;cases e6;obtain ⟨hj1,hj2,hj3⟩:=List.findIdx?_eq_some_iff_getElem.mp hj;have hju:j < us.size:=by rw [z]; exact hj1
  refine call_meets PySem.F.slot_list_remove hT PySem.F.entry_list_remove (PySem.F.args_list_remove_2 _ _) (ry _ us k w (wL s.heap l.F p) j hju ((at_ j hju _ (List.getElem?_eq_getElem hj1)).trans hj2) (fun m hm hmj=>(at_ m hm _ (List.getElem?_eq_getElem (z▸hm))).trans (Bool.not_eq_true _▸hj3 m hmj)) (by rw [z]; exact bD hz)) ⟨ho,heq,?_⟩;obtain ⟨k1,k2⟩:=hs.setList (ds':=es.eraseIdx j) hn hm s.toks (PlainList.update hl (fun its=>its.eraseIdxIfInBounds j)) (Heap.SameBut.update ..) fun la=>by
   have:=au.eraseIdx j (hr.later la);obtain ⟨us⟩:=us
   simpa [Array.eraseIdxIfInBounds,show j < us.length from hju] using this
  exact ⟨_,l,rfl,k1,k2,.py .none⟩
 | none=>
  rw [hj] at e6;cases e6;refine call_meets PySem.F.slot_list_remove hT PySem.F.entry_list_remove (PySem.F.args_list_remove_2 _ _) (lS _ us k w (wL s.heap l.F p) (fun m hm=>(at_ m hm _ (List.getElem?_eq_getElem (z▸hm))).trans (List.findIdx?_eq_none_iff.mp hj _ (List.getElem_mem _)))) ⟨ho,heq,x.hquiet hq,fun h' tk ev ne=>?_⟩;obtain ⟨k1,k2,k3⟩:=hs.newExc tk ne;exact ⟨_,l,rfl,k1,k2,k3⟩
end
section
variable {x:Ctx}
theorem fO.find_none {h:Heap} {l:Lay}:∀ {vs:List (KK×Value)} {ds:List (KK×D)},fO h l vs ds->∀ {k:KK},(ds.find? fun kv=>decide (kv.1=k))=none->valueAt vs k=none:=fun {vs ds} r {k} e=>by
 have:=r.keys k
 have h2:(ds.any fun kv=>decide (kv.1=k))=false:=by
  rw [List.any_eq_false];intro kv hkv;have:=List.find?_eq_none.mp e kv hkv
  simpa using this
 rw [h2] at this;cases hv:valueAt vs k with
 | none=>rfl
 | some v=>rw [hv] at this; cases this
noncomputable def wX (σ:List O) (d k e:D):Option D:=(d.obj?.bind fun n=>lr σ[n]?).bind fun kvs=>(ic k).map fun kk=>((kvs.find? fun kv=>decide (kv.1=kk)).map (·.2)).getD e
noncomputable def CK (d:D):List D->AM D
 | [k]=>eA fun σ=>wX σ d k (.py .none)
 | [k,e]=>eA fun σ=>wX σ d k e
 | _=>AM.fail
inductive Gs (x:Ctx) (h:Heap) (l:Lay) (v kv ev:Value) (r:D):Prop
 | mk (a:Addr) (vs:List (KK×Value)) (ep:Nat) (kk:KK):v=.ref a->h.DictAt (mix x.c.prog x.c.w) a vs ep->(a==sysModules)=false->sQ kk kv=true->Rep h l ((valueAt vs kk).getD ev) r->Gs x h l v kv ev r
theorem Ci {σ:List O} {l:Lay} {s:Shared} {v kv:Value} {d k e r:D} {ev:Value} (i:Inv x.c σ l s.heap) (rv:Rep s.heap l v d) (rk:Rep s.heap l kv k) (re:Rep s.heap l ev e) (h:wX σ d k e=some r):Gs x s.heap l v kv ev r:=by
 obtain ⟨kvs,h1,h2⟩:=Option.bind_eq_some_iff.mp h;obtain ⟨n,h3,h4⟩:=Option.bind_eq_some_iff.mp h1;obtain ⟨kk,hk,rfl⟩:=Option.map_eq_some_iff.mp h2;obtain rfl:=dM h3;obtain ⟨ep,hn⟩:=nt h4;obtain ⟨p,rfl,hm⟩:=rv.obj_inv;obtain ⟨vs,hd,hr⟩:=i.at hn hm;refine ⟨_,vs,ep,kk,rfl,hd,i.notSys hm,(jY rk hk).1,?_⟩;cases hf:kvs.find? fun kv=>decide (kv.1=kk) with
 | none=>rw [hr.find_none hf]; exact re
 | some q=>
  obtain ⟨u,h1,h2⟩:=hr.find (k:=kk) (d:=q.2) (by rw [hf]; rfl);rw [h1]; exact h2
theorem G6 {P:MP} {v w:Value} {d k:D} (hv:∀ h l,P.p h l->Rep h l v d) (hw:∀ h l,P.p h l->Rep h l w k):Sim x P MP.rep (PySem.call (.builtin "dict.get") [v,w] []) (eA fun σ=>wX σ d k (.py .none)):=by
 intro ρ σ l s r st' e hs hp;obtain ⟨_,ho,rfl,rfl⟩:=eN e;obtain ⟨a,us,ep,kk,rfl,hd,hsys,hk,hr⟩:=Ci hs.inv (hv _ _ hp) (hw _ _ hp) (.py .none) ho;exact call_meetsIn PySem.F.slot_dict_get hd.dictOf.typeIs PySem.F.entry_dict_get (PySem.F.args_dict_get_2 _ _) (meets_dict_get (mix x.c.prog x.c.w) a hk hsys) ⟨_,hd.dictOf.mapOf,_,l,rfl,hs.toks _,.refl ..,hr⟩
theorem Hh {P:MP} {v w w0:Value} {d k e0:D} (hv:∀ h l,P.p h l->Rep h l v d) (hw:∀ h l,P.p h l->Rep h l w k) (he:∀ h l,P.p h l->Rep h l w0 e0):Sim x P MP.rep (PySem.call (.builtin "dict.get") [v,w,w0] []) (eA fun σ=>wX σ d k e0):=by
 intro ρ σ l s r st' e hs hp;obtain ⟨_,ho,rfl,rfl⟩:=eN e;obtain ⟨a,us,ep,kk,rfl,hd,hsys,hk,hr⟩:=Ci hs.inv (hv _ _ hp) (hw _ _ hp) (he _ _ hp) ho;exact call_meetsIn PySem.F.slot_dict_get hd.dictOf.typeIs PySem.F.entry_dict_get (PySem.F.args_dict_get_3 _ _ _) (meets_dict_get_default (mix x.c.prog x.c.w) a hk hsys w0) ⟨_,hd.dictOf.mapOf,_,l,rfl,hs.toks _,.refl ..,hr⟩
theorem vV:gA x "dict.get" CK:=fun P v d vs ds hv hvs=>by
 intro ρ σ l s r st' e hs hp;rcases ds with _ | ⟨k,_ | ⟨e0,_ | ⟨b,t⟩⟩⟩
 .cases e
 .obtain ⟨w,rfl,_⟩:=(hvs _ _ hp).one;exact G6 hv (fun h l q=>by obtain ⟨w',e,r⟩:=(hvs h l q).one; cases e; exact r) ρ σ l s r st' e hs hp
 .obtain ⟨w,w0,rfl,_⟩:=(hvs _ _ hp).two;exact Hh hv (fun h l q=>by obtain ⟨w',w0',e,r,_⟩:=(hvs h l q).two; cases e; exact r) (fun h l q=>by obtain ⟨w',w0',e,_,r⟩:=(hvs h l q).two; cases e; exact r) ρ σ l s r st' e hs hp
 .cases e
noncomputable def lW:List PyData->Option (List Str)
 | []=>some []
 | .str y::r=>(lW r).map (y::·)
 | _::_=>none
theorem vA {p:PyData} {ps:List PyData} {ys:List Str} (e:lW (p::ps)=some ys):∃ y zs,p=.str y/\lW ps=some zs/\ys=y::zs:=by
 cases p with
 | str y=>
  obtain ⟨zs,e1,e2⟩:=Option.map_eq_some_iff.mp (show (lW ps).map (y::·)=some ys from e);exact ⟨y,zs,rfl,e1,e2.symm⟩
 | _=>cases e
theorem Rp.str_inv {h:Heap} {F:Addr->Prop} {v:Value} {y:Str} (r:Rp h F v (.str y)):∃ t,v=.str y t:=by cases r; exact ⟨_,rfl⟩
theorem w8 {h:Heap} {F:Addr->Prop} {vs:List Value} {ps:List PyData} {ys:List Str} (r:bA h F vs ps) (e:lW ps=some ys):StrsAre vs ys:=by
 refine r.ind (C:=fun vs ps=>∀ ys,lW ps=some ys->StrsAre vs ys) (fun ys e=>by cases e; exact .nil) (fun r _ ih ys e=>?_) ys e;obtain ⟨y,zs,rfl,e1,rfl⟩:=vA e;obtain ⟨t,rfl⟩:=r.str_inv;exact .cons y t (ih zs e1)
noncomputable def Ev (σ:List O) (d u:D):Option D:=d.str?.bind fun y=>((viewP σ u).bind list?).bind fun ps=>(lW ps).bind fun ys=>if (ys.map (·.length)).sum+ys.length * y.length<=16777216 then some (.py (.str (Txt.join y ys))) else none
noncomputable def xT (d:D):List D->AM D
 | [u]=>eA fun σ=>Ev σ d u
 | _=>AM.fail
theorem nT:gA x "str.join" xT:=iB (fun _=>rfl) (fun _ _ _ _=>rfl) fun P v d w u hv hvs=>by
 intro ρ σ l s r st' e hs hp;obtain ⟨_,ho,rfl,rfl⟩:=eN (f:=fun σ=>Ev σ d u) e;obtain ⟨y,hy,h1⟩:=Option.bind_eq_some_iff.mp ho;obtain ⟨ps,h2,h3⟩:=Option.bind_eq_some_iff.mp h1;obtain ⟨q,h4,h5⟩:=Option.bind_eq_some_iff.mp h2;obtain ⟨ys,hys,h6⟩:=Option.bind_eq_some_iff.mp h3;obtain ⟨hz,rfl⟩:=bb h6;obtain rfl:=list?_some h5;obtain ⟨t,rfl⟩:=(hv _ _ hp).str? hy;obtain ⟨a,us,rfl,hl,hr⟩:=hs.inv.viewPL (hvs _ _ hp) h4;exact PyProof.Rows.join_list hl (w8 hr hys) hz fun t' k=>⟨_,l,rfl,hs.toks _,.refl ..,.py (.str _ _)⟩
noncomputable def t9:List D->AM D
 | [d]=>fun st=>(gO st.σ d).map fun ds=>(.ok (.obj st.σ.length),⟨st.ρ,st.σ++[.list ds]⟩)
 | _=>AM.fail
theorem Aj {σ:List O} {l:Lay} {s:Shared} {v:Value} {d:D} {ds:List D} (i:Inv x.c σ l s.heap) (rv:Rep s.heap l v d) (e:gO σ d=some ds):
  ds.length<=ar/\∃ a vs,v=.ref a/\au s.heap l vs.toList ds/\(IsTup s.heap a vs\/s.heap.IsList a vs):=by
 obtain ⟨ds',e1,e2⟩:=Option.bind_eq_some_iff.mp e;obtain ⟨hz,rfl⟩:=bb e2;obtain ⟨a,vs,rfl,hk,hr,_⟩:=mM i rv e1;exact ⟨hz,a,vs,rfl,hr,hk⟩
theorem xz:eV x (.type "list") t9:=kj rfl (fun _ _ _=>rfl) fun P v d hr=>by
 intro ρ σ l s r st' e hs hp;obtain ⟨es,he,e⟩:=Option.map_eq_some_iff.mp e;cases e;obtain ⟨hz,a,us,rfl,hr,hk⟩:=Aj hs.inv (hr _ _ hp) he;have hsz:us.size<=sizeLine:=by rw [← Array.length_toList,hr.length]; exact bD hz
 have fin:∀ (h':Heap) (c':Nat),(∀ b o,s.heap.get? b=some o->h'.get? b=some o)->h'.get? s.heap.objs.size=some {cls:=.type "list",data:=.seq us c'}->
   OkQ x MP.rep l s.heap (Except.ok (D.obj σ.length):Except Value D) ⟨ρ,(σ++[.list es])⟩ (.ref s.heap.objs.size) {s with heap:=h'}:=fun h' c' hk hD=>
  let ⟨k1,k2,k3⟩:=hs.newObj (h':=h') (a:=s.heap.objs.size) (o:=.list es) s.toks hk (bi _) ⟨_,hD⟩ ⟨us,⟨c',hD⟩,hr.later (hs.grow (s':={s with heap:=h'}) hk rfl rfl).2.later⟩ rfl
  ⟨_,_,rfl,k1,k2,k3⟩
 rcases hk with ⟨o,ho,hc,n,hd⟩ | ⟨o,ho,hc,n,hd⟩
 .exact call_list_seq (hsz:=hsz) a (.inr rfl) ho hc hd fin
 .exact call_list_seq (hsz:=hsz) a (.inl rfl) ho hc hd fin
end
noncomputable def Ctx.marked (x:Ctx) (e:Value):Ctx where
 c:=x.c
 room:=x.room
 A:=x.A.mark (some e)
 env:=x.env
 wr:=x.wr
 fs:=x.fs
 quiet:=false
 hfr:=x.hfr
 hfn:=x.hfn
 hgl:=x.hgl
 hbt:=x.hbt
 hfr0:=x.hfr0
 hdep:=x.hdep
 huni:=x.huni
 hquiet:=fun h=>nomatch h
 hbL:=x.hbL
 hbC:=x.hbC
 hwr:=x.hwr
theorem St.marked {x:Ctx} {ρ:aq} {σ:List O} {l:Lay} {s:Shared} (h:St x ρ σ l s) (e:Value):St (x.marked e) ρ σ l s:=⟨h.inv,h.env,h.ff,h.foff,h.gens,h.os⟩
theorem St.unmarked {x:Ctx} {ρ:aq} {σ:List O} {l:Lay} {s:Shared} {e:Value} (h:St (x.marked e) ρ σ l s):St x ρ σ l s:=⟨h.inv,h.env,h.ff,h.foff,h.gens,h.os⟩
open Classical in
noncomputable def p9 (f:AM aj) (X:Value) (g:AM aj):AM aj:=fun st=>match f st with
 | some (.ok fl,st')=>some (.ok fl,st')
 | some (.error X',st')=>if X'=X then okA g st' else none
 | none=>none
open Classical in
theorem DG {f g:AM aj} {X:Value} {st st':ASt} {r:Except Value aj} (e:p9 f X g st=some (r,st')):
  (∃ fl,r=.ok fl/\f st=some (.ok fl,st'))\/∃ st1 fl,f st=some (.error X,st1)/\r=.ok fl/\g st1=some (.ok fl,st'):=by
 unfold p9 at e;cases h:f st with
 | none=>rw [h] at e; cases e
 | some q=>
  obtain ⟨r0,st1⟩:=q;rw [h] at e;cases r0 with
  | ok fl=>cases e; exact .inl ⟨fl,rfl,rfl⟩
  | error X'=>
   obtain ⟨rfl,e3⟩:=gf (show (if X'=X then okA g st1 else none)=some (r,st') from e);obtain ⟨fl,h1,h2⟩:=Bz e3;exact .inr ⟨st1,fl,rfl,h1,h2⟩
section
variable {x:Ctx}
noncomputable def ta (x:Ctx) (X:Value) (t:Expr) (b₀:Stmt) (suite:List Stmt) (pos:Pos):Prop:=
 ∀ (ea:Addr) (s:Shared) (oe:Obj) (ρ:aq) (σ:List O) (l:Lay),s.heap.get? ea=some oe->oe.cls=X->St x ρ σ l s->∀ (Q:Flow->Shared->Prop) (E:Value->Shared->Prop),
  wpAny x.c.M (x.A.mark (some (.ref ea))) (setFlight (.ref ea) none) (fun _ s₂=>wpAny x.c.M (x.A.mark (some (.ref ea))) (execs (b₀::suite) x.env) Q (notedBy x.c.M (x.A.mark (some (.ref ea))) x.env (cameBackBy x.c.M x.A x.env E)) s₂)
   (notedBy x.c.M (x.A.mark (some (.ref ea))) x.env (cameBackBy x.c.M x.A x.env E)) s->
  wpAny x.c.M x.A (handleBy (.ref ea) x.env [.ExceptHandler (some t) none (b₀::suite) pos]) Q E s
theorem lH {T:String} {t:Expr} {b₀:Stmt} {suite:List Stmt} {pos:Pos} (hexc:isSubtype (.type T) (.type "BaseException")=pure true) (hnt:isSubtype (.type ((Manifest.find? T).elim "type" fun x=>x.metatype)) (.type "tuple")=pure false)
  (hsub:isSubtype (.type T) (.type T)=pure true) (ht:∀ y:Ctx,y.c=x.c->y.env=x.env->gS y t (.type T)):ta x (.type T) t b₀ suite pos:=fun ea s oe ρ σ l ho hc hs Q E h=>by
 refine wpAny_handleBy_builtin (X:=T) (T:=T) (b:=true) hexc hnt hsub ?_;refine ht (x.marked (.ref ea)) rfl rfl ρ σ l s (hs.marked _) _ _ ?_;refine ⟨rfl,⟨oe,ho,hc⟩,?_⟩;rw [if_pos rfl];exact h
theorem wG {body:List Stmt} {X:Value} {t:Expr} {b₀:Stmt} {suite:List Stmt} {hpos pos:Pos} {f g:AM aj} (hb:kQ x body f) (ht:ta x X t b₀ suite hpos)
  (hg:∀ y:Ctx,y.c=x.c->y.room=x.room->y.env=x.env->y.wr=x.wr->kQ y (b₀::suite) g):iJ x (.Try body [.ExceptHandler (some t) none (b₀::suite) hpos] [] [] pos) (p9 f X g):=fun P=>by
 intro ρ σ l s r st' e hs hp;refine wpAny_Try_except ?_;have hb0:∀ b o,x.c.base.get? b=some o->s.heap.get? b=some o:=hs.inv.base;rcases DG e with ⟨fl,rfl,e1⟩ | ⟨st1,fl,e1,rfl,e2⟩
 .refine wpAny_mono (hb .tt ρ σ l s _ _ e1 hs trivial) (fun f1 s1 q=>?_) fun ev s1 q=>by obtain ⟨_,_,q,_⟩:=q; cases q
  obtain ⟨b,l1,q1,q2,q3,q4⟩:=q;cases q1;cases f1 with
  | next=>exact wpAny_execs_nil ⟨_,l1,rfl,q2,q3,q4⟩
  | brk=>exact ⟨_,l1,rfl,q2,q3,q4⟩
  | cont=>exact ⟨_,l1,rfl,q2,q3,q4⟩
  | ret v=>exact ⟨_,l1,rfl,q2,q3,q4⟩
 .refine wpAny_mono (hb .tt ρ σ l s _ _ e1 hs trivial) (fun f1 s1 q=>by obtain ⟨_,_,q,_⟩:=q; cases q) fun ev s1 q=>?_;obtain ⟨X',l1,q1,q2,q3,q4⟩:=q;cases q1;refine q4.note q2 q3 hb0 fun s2 k1 k2 k3=>?_;refine k3.flight k1 k2 hb0 none fun s3 m1 m2 m3=>?_;obtain ⟨ea,oe,vs,a0,rfl,b2,b3,b4,b5,b6,b7⟩:=id m3;refine ht ea s3 oe _ _ _ b5 b6 m1 _ _ ?_;refine m3.flight m1 m2 hb0 none fun s4 n1 n2 n3=>?_;have blk:=hg (x.marked (.ref ea)) rfl rfl rfl rfl .tt st1.ρ st1.σ l1 s4 (.ok fl) st' e2 (n1.marked _) trivial;refine wpAny_mono blk (fun f5 s5 q=>?_) fun ev s5 q=>by obtain ⟨_,_,q,_⟩:=q; cases q
  obtain ⟨b,l5,q1,q2,q3,q4⟩:=q;cases q1;exact ⟨_,l5,rfl,q2.unmarked,n2.trans q3,q4⟩
theorem pL:isSubtype (.type "ValueError") (.type "BaseException")=pure true:=by rw [isSubtype_type]; kernel_rfl
theorem rj:isSubtype (.type ((Manifest.find? "ValueError").elim "type" fun x=>x.metatype)) (.type "tuple")=pure false:=by rw [isSubtype_type]; kernel_rfl
theorem pT:isSubtype (.type "ValueError") (.type "ValueError")=pure true:=by rw [isSubtype_type]; kernel_rfl
theorem mG:isSubtype (.type "StopIteration") (.type "BaseException")=pure true:=by rw [isSubtype_type]; kernel_rfl
theorem ng:isSubtype (.type ((Manifest.find? "StopIteration").elim "type" fun x=>x.metatype)) (.type "tuple")=pure false:=by rw [isSubtype_type]; kernel_rfl
theorem l8:isSubtype (.type "StopIteration") (.type "StopIteration")=pure true:=by rw [isSubtype_type]; kernel_rfl
end
section
variable {x:Ctx}
theorem arC {e:Expr} {rest:List Expr} {f:AM D} {g:AM (List D)} (h1:a9 x e f) (h2:nZ x rest g) (hst:starEach (e::rest) x.env=(false,eval e x.env)::starEach rest x.env):nZ x (e::rest) (ao f g):=D9 h1 h2 hst
theorem arS {e:Expr} {rest:List Expr} {p:Pos} {f:AM D} {g:AM (List D)} (h1:a9 x e f) (h2:nZ x rest g):nZ x (.Starred e p::rest) (Gc f g):=DB h1 h2
theorem Gu {e:Expr} {p:Pos} {g:AM D} (h:a9 x e g):f6 x [.Starred e p] (F9 g):=Af h
end
noncomputable def sD (d:D):Bool:=match d with
 | .val v=>handedIn v
 | _=>true
theorem qe {h:Heap} {l:Lay} {v:Value} {d:D} (r:Rep h l v d) (e:sD d=true):handedIn v=true:=by
 cases r with
 | py r=>cases r <;> rfl
 | obj _=>rfl
 | val _=>exact e
 | tup _ _ _ _ _=>rfl
theorem El {h:Heap} {a:Addr} {m:Str->Option Value} (x:h.Ns1 a m):∃ o,h.get? a=some o/\∀ nm,lookIn nm o=some (m nm):=by
 obtain ⟨o,es,ep,e,d,k,u,f⟩:=x;refine ⟨o,e,fun nm=>?_⟩;unfold lookIn;rw [d];dsimp only;have:=f nm;unfold nsFind findBy at this;rw [← Array.find?_toList] at this;cases hf:es.toList.find? (fun e=>e.key.isStr nm) with
 | some en=>rw [hf] at this; rw [← this]; rfl
 | none=>
  rw [hf] at this;rw [← this]
  have:es.toList.any (fun e=>e.refKey)=false:=by
   rw [List.any_eq_false];intro e he;obtain ⟨n,t,h⟩:=k e (Array.mem_toList_iff.mp he);simp [DictEntry.refKey,h]
  show (if (es.toList.any fun e=>e.refKey)=true then none else some none)=_;rw [this]; rfl
noncomputable def d7 (K:Frag) (C:Addr) (nm:Str):Bool:=plainGet K C nm&&hasDictIn K C&&findIn K (.ref C) nm==some none&&findIn K (.ref C) "__setattr__" ==some (some (.builtin "object.__setattr__"))&&plainOver K C
noncomputable def O.inst?:O->Option (Addr×aq)
 | .inst C fs=>some (C,fs)
 | _=>none
theorem O.inst?_some {o:O} {q:Addr×aq} (e:o.inst?=some q):o=.inst q.1 q.2:=by
 cases o with
 | inst _ _=>cases e; rfl
 | _=>cases e
noncomputable def Bv (σ:List O) (d:D):Option O:=d.obj?.bind fun n=>σ[n]?
theorem lg {σ:List O} {d:D} {o:O} (e:Bv σ d=some o):∃ n,d=.obj n/\σ[n]?=some o:=by
 obtain ⟨n,h,e⟩:=Option.bind_eq_some_iff.mp e;exact ⟨n,dM h,e⟩
noncomputable def yg (d:D):Option D:=if sD d=true then some d else none
noncomputable def y3 (C:Addr) (nm:String) (σ:List O) (d:D):Option D:=((Bv σ d).bind O.inst?).bind fun q=>if q.1=C then (q.2.lookup nm).bind yg else none
noncomputable def kS (C:Addr) (nm:String) (d v:D):AM Unit:=rG (fun o=>o.inst?.bind fun q=>if q.1=C/\q.2.length<=ar then some (.inst C (put nm v q.2),()) else none) d
theorem jX.inst {h:Heap} {p:Addr×Addr} {ox od:Obj} {C:Addr} (a:jX h p C ox) (b:h.get? p.2=some od):InstAt h p.1 ox C (some od):=⟨a.at_,a.cls,by unfold notCls; rw [a.data],by rw [a.dict]; exact b⟩
theorem s9 {h:Heap} {p:Addr×Addr} {ox:Obj} {C:Addr} {m:Str->Option Value} (a:jX h p C ox) (b:h.Ns1 p.2 m):
  ∃ od,InstAt h p.1 ox C (some od)/\h.get? p.2=some od/\∀ nm,lookIn nm od=some (m nm):=by
 obtain ⟨od,e,k⟩:=El b;exact ⟨od,a.inst e,e,k⟩
structure Fk (K:Frag) (C:Addr) (nm:Str):Prop where
 k1:plainGet K C nm=true
 k2:hasDictIn K C=true
 k3:findIn K (.ref C) nm=some none
 k4:findIn K (.ref C) "__setattr__" =some (some (.builtin "object.__setattr__"))
 k5:plainOver K C=true
theorem r5 {K:Frag} {C:Addr} {nm:Str} (h:d7 K C nm=true):Fk K C nm:=by
 simp only [d7,Bool.and_eq_true,beq_iff_eq] at h;exact ⟨h.1.1.1.1,h.1.1.1.2,h.1.1.2,h.1.2,h.2⟩
theorem nK (nm:String) (v:D):∀ (fs:aq) (y:Str),y∈(fs.map fun q=>Str.o q.1)\/y=Str.o nm->y∈(put nm v fs).map fun q=>Str.o q.1
 | [],y,h=>by simpa [put] using h
 | (z,e)::r,y,h=>by
  unfold put;by_cases hz:z=nm
  .subst hz;rw [if_pos rfl];simp only [List.map_cons,List.mem_cons] at h ⊢;rcases h with (h | h) | h
   .exact .inl h
   .exact .inr h
   .exact .inl h
  .rw [if_neg hz];simp only [List.map_cons,List.mem_cons] at h ⊢;rcases h with (h | h) | h
   .exact .inl h
   .exact .inr (nK nm v r y (.inl h))
   .exact .inr (nK nm v r y (.inr h))
section
variable {x:Ctx} {P:MP}
theorem ou {vo:Value} {o:D} {C:Addr} {nm:String} {expr:Bool} (hk:d7 x.c.K C (Str.o nm)=true) (ho:∀ h l,P.p h l->Rep h l vo o):Sim x P MP.rep (getAttr vo (Str.o nm) expr) (eA fun σ=>y3 C nm σ o):=by
 intro ρ σ l s r st' e hs hp;obtain ⟨d,hd,rfl,rfl⟩:=eN e;obtain ⟨q,h1,h2⟩:=Option.bind_eq_some_iff.mp hd;obtain ⟨ob,h3,h4⟩:=Option.bind_eq_some_iff.mp h1;obtain ⟨n,rfl,hn⟩:=lg h3;obtain rfl:=O.inst?_some h4;obtain ⟨rfl,h5⟩:=gf h2;obtain ⟨d',hl,h6⟩:=Option.bind_eq_some_iff.mp h5;obtain ⟨hh,rfl⟩:=bb h6;obtain ⟨p,rfl,hm⟩:=(ho _ _ hp).obj_inv;obtain ⟨ox,m,a,b,_,hr⟩:=hs.inv.at hn hm;obtain ⟨od,I,_,hlook⟩:=s9 a b;obtain ⟨v,hv,hrep⟩:=hr nm _ hl;obtain ⟨k1,k2,k3,_⟩:=r5 hk;exact get_value hs.inv.inK I (plainGet_of k1).1 (findObj_own k2 k3 rfl (by rw [hlook,hv])) (qe hrep hh) ⟨_,l,rfl,hs.toks _,.refl ..,hrep⟩
theorem yE (nm:String) (v:D) (fs:aq):(put nm v fs).length<=fs.length+1:=by
 induction fs with
 | nil=>exact Nat.le_refl _
 | cons q r ih=>
  obtain ⟨z,e⟩:=q;unfold put;by_cases h:z=nm
  .rw [if_pos h]; exact Nat.le_succ _
  .rw [if_neg h]; exact Nat.succ_le_succ ih
theorem oq {vo vv:Value} {o v:D} {C:Addr} {nm:String} (hk:d7 x.c.K C (Str.o nm)=true) (ho:∀ h l,P.p h l->Rep h l vo o) (hv:∀ h l,P.p h l->Rep h l vv v):
  Sim x P (fun _ _=>MP.tt) (setAttr vo (Str.o nm) vv) (kS C nm o v):=Sim.upd ho (fun ob q e=>by cases ob <;> first | rfl | cases e) fun {ρ σ l s p ob q} hs hp e r _ hf {Q E} g=>by
 subst e;obtain ⟨⟨C',fs⟩,h1,h2⟩:=Option.bind_eq_some_iff.mp hf;obtain rfl:=O.inst?_some h1;obtain ⟨⟨hC,hz⟩,rfl⟩:=bb h2;obtain rfl:C'=C:=hC;obtain ⟨ox,m,a,a6,a7,hr⟩:=r;obtain ⟨od,I,_,_⟩:=s9 a a6;have k:=r5 hk;refine set_plain hs.inv.inK I k.k4 (osa_open (s:={s with toks:=s.toks+1}) (r:=none) hs.inv.inK I k.k5 (by unfold takerIn; rw [k.k3]; rfl) fun b=>?_);obtain ⟨cd,hc,hd'⟩:=any_some k.k2
 have hcx:ox=⟨.ref C',some p.2,.plain,ox.slots⟩:=by
  obtain ⟨c0,d0,da0,sl0⟩:=ox;obtain ⟨_,rfl,rfl,rfl,_⟩:=a;rfl
 have a1:=a.at_;rw [hcx] at a1;refine wpAny_bind (wpAny_pure (wpAny_bind (wpAny_bind (wpAny_loadPart a1 (wpAny_bind (Looks.here (s:={s with toks:=s.toks+1}) (looks_clsIn hs.inv.inK hc) ?_))))));rw [hd'];refine wpAny_pure (a:=some p.2) (wpAny_bind (wpAny_pure (wpAny_bind ?_)));refine wpAny_nsSet1 a6 (fun h' hns' hsb=>?_)
 have hW:Within (fun y=>if y=Str.o nm then some vv else m y) ((put nm v fs).map fun q=>Str.o q.1):=fun y hy=>by
  refine nK nm v fs y ?_;by_cases hyn:y=Str.o nm
  .exact .inr hyn
  .exact .inl (a7 y (by simpa [hyn] using hy))
 obtain ⟨o',es,ep,ho',hd2,hsz⟩:=hns'.count hW;rw [List.length_map] at hsz;have hsz2:es.size<=sizeLine+1:=Nat.le_trans hsz (Nat.le_trans (yE nm v fs) (Nat.succ_le_succ (bD hz)));refine wpAny_bind (wpAny_lookBehind ho' (by rw [hd2]; exact pastItsLine_dict (by first | exact hsz2 | (have:=bD hz; have:=yE nm v fs; have:ar=1000000:=rfl; omega))) ?_);have ka:=cK hsb _ _ a.ne a.at_;refine wpAny_pure (g () h' _ ⟨fun a ob _ n2 q=>cK hsb a ob n2 q,⟨_,ka⟩,⟨_,ho'⟩⟩ fun la=>⟨⟨ox,_,⟨ka,a.cls,a.data,a.dict,a.ne⟩,hns',hW,fun y d' e=>?_⟩,trivial⟩);rw [dX] at e;by_cases hy:y=nm
 .rw [if_pos hy] at e;cases e;exact ⟨vv,if_pos (congrArg _ hy),(hv _ _ hp).later la⟩
 .rw [if_neg hy] at e;obtain ⟨v',e1,q⟩:=hr y d' e;exact ⟨v',(if_neg fun z=>hy (fV z)).trans e1,q.later la⟩
noncomputable def fQ (C:Addr) (nm:String) (f:AM D):AM D:=f>>=fun d=>eA fun σ=>y3 C nm σ d
theorem mf {value:Expr} {attr:Str} {pos:Pos} {f:AM D} {g:D->AM D} (hbase:attributeBase value attr x.env (eval value x.env)=eval value x.env) (h:a9 x value f)
  (hg:∀ (P:MP) v d,(∀ h l,P.p h l->Rep h l v d)->Sim x P MP.rep (getAttr v attr true) (g d)):a9 x (.Attribute value attr pos) (f>>=g):=fun P=>by
 rw [arm_eval_Attribute,hbase];refine (h P).bind fun o d=>Sim.at ?_;intro ρ σ l s r st' e hs hp;refine wpAny_bind (wpAny_holding (wpAny_mono (hg (P.and (MP.rep o d)) o d (fun h l q=>q.2) ρ σ l s r st' e hs hp) (fun a s1 q=>?_) fun _ _ q=>q));exact wpAny_bind (wpAny_letTemporaryGo (wpAny_pure q))
theorem dQ {value:Expr} {nm:String} {pos:Pos} {f:AM D} {C:Addr} (hbase:attributeBase value (Str.o nm) x.env (eval value x.env)=eval value x.env) (hk:d7 x.c.K C (Str.o nm)=true) (h:a9 x value f):a9 x (.Attribute value (Str.o nm) pos) (fQ C nm f):=
 mf hbase h fun P v d hv=>ou hk hv
noncomputable def lL (C:Addr) (nm:String) (f:AM D) (v:D):AM Unit:=f>>=fun o=>kS C nm o v
theorem qQ {o:Expr} {attr:Str} {pos:Pos} {f:AM D} {g:D->D->AM Unit} (h:a9 x o f) (hg:∀ (P:MP) vo o vv v,(∀ h l,P.p h l->Rep h l vo o)->(∀ h l,P.p h l->Rep h l vv v)->Sim x P (fun _ _=>MP.tt) (setAttr vo attr vv) (g o v)):
  j8 x (.Attribute o attr pos) (fun v=>f>>=fun o=>g o v):=fun P v d hr=>by
 rw [assign_Attribute];refine ((h _).holding).bind fun ov od=>Sim.at ?_;intro ρ σ l s r st' e hs hp;refine wpAny_bind (wpAny_holding (wpAny_mono (hg (P.and (MP.rep ov od)) ov od v d (fun h l q=>q.2) (fun h l q=>hr h l q.1) ρ σ l s r st' e hs hp) (fun a s1 q=>?_) fun _ _ q=>q));exact wpAny_release q
theorem kU {o:Expr} {nm:String} {pos:Pos} {f:AM D} {C:Addr} (hk:d7 x.c.K C (Str.o nm)=true) (h:a9 x o f):j8 x (.Attribute o (Str.o nm) pos) (lL C nm f):=
 qQ (g:=fun o v=>kS C nm o v) h fun P vo o vv v h1 h2=>oq hk h1 h2
end
end Mine
end S1
section S4973
open PySem PySem.W PySem.Calls PyProof.Rows Builtin Builtin.ObjectAttr Builtin.Getset_descriptor
namespace Mine
noncomputable def A1 (K:Frag) (C:Addr) (i:Nat):Option (Option Value)->Bool
 | some (some (.ref p))=>specialIn K (.ref p) "__get__" ==some (some (.builtin "member_descriptor.__get__"))&&(takesIn K (.ref p)==some true&&(slotIn K p C==some i&&typeIn K (.ref p)==some (.type "member_descriptor")))
 | _=>false
noncomputable def fi (K:Frag) (C:Addr) (nm:Str) (i:Nat):Bool:=plainGet K C nm&&(isClsIn K C&&(findIn K (.ref C) "__setattr__" ==some (some (.builtin "object.__setattr__"))&&(plainOver K C&&(A1 K C i (findIn K (.ref C) nm)&&decide (i < 1000)))))
inductive BK (K:Frag) (C:Addr) (nm:Str) (i:Nat):Prop
 | mk (p:Addr):plainGet K C nm=true->(clsIn K C).isSome=true->findIn K (.ref C) "__setattr__" =some (some (.builtin "object.__setattr__"))->plainOver K C=true->i < 1000->findIn K (.ref C) nm=some (some (.ref p))->specialIn K (.ref p) "__get__" =some (some (.builtin "member_descriptor.__get__"))->
   takesIn K (.ref p)=some true->slotIn K p C=some i->typeIn K (.ref p)=some (.type "member_descriptor")->BK K C nm i
theorem rU {K:Frag} {C:Addr} {nm:Str} {i:Nat} (h:fi K C nm i=true):BK K C nm i:=by
 obtain ⟨h1,h⟩:=Bool.and_eq_true_iff.mp h;obtain ⟨h2,h⟩:=Bool.and_eq_true_iff.mp h;obtain ⟨h3,h⟩:=Bool.and_eq_true_iff.mp h;obtain ⟨h4,h⟩:=Bool.and_eq_true_iff.mp h;obtain ⟨h5,h6⟩:=Bool.and_eq_true_iff.mp h;generalize hf:findIn K (.ref C) nm=f at h5;obtain ⟨p,rfl,h⟩:∃ p,f=some (some (.ref p))/\A1 K C i (some (some (.ref p)))=true:=by
  cases f with
  | none=>cases h5
  | some f=>cases f with
   | none=>cases h5
   | some f=>cases f with
    | ref p=>exact ⟨p,rfl,h5⟩
    | _=>cases h5
 obtain ⟨q1,h⟩:=Bool.and_eq_true_iff.mp h;obtain ⟨q2,h⟩:=Bool.and_eq_true_iff.mp h;obtain ⟨q3,q4⟩:=Bool.and_eq_true_iff.mp h;exact .mk p h1 h2 (eq_of_beq h3) h4 (of_decide_eq_true h6) hf (eq_of_beq q1) (eq_of_beq q2) (eq_of_beq q3) (eq_of_beq q4)
noncomputable def O.slots?:O->Option (Addr×List (Option D))
 | .slots C fs=>some (C,fs)
 | _=>none
theorem O.slots?_some {o:O} {q:Addr×List (Option D)} (e:o.slots?=some q):o=.slots q.1 q.2:=by
 cases o with
 | slots _ _=>cases e; rfl
 | _=>cases e
noncomputable def x6 (C:Addr) (i:Nat) (σ:List O) (d:D):Option D:=((Bv σ d).bind O.slots?).bind fun q=>if q.1=C then (q.2[i]?.join).bind yg else none
noncomputable def As (i:Nat) (v:D) (fs:List (Option D)):List (Option D):=(fs++List.replicate (i+1 - fs.length) none).set i (some v)
noncomputable def kJ (C:Addr) (i:Nat) (d v:D):AM Unit:=rG (fun o=>o.slots?.bind fun q=>if q.1=C then some (.slots C (As i v q.2),()) else none) d
theorem Slots.length {h:Heap} {l:Lay} {vs ds} (r:Slots h l vs ds):vs.length=ds.length:=by
 induction r with
 | nil=>rfl
 | none _ ih=>exact congrArg (·+1) ih
 | some _ _ ih=>exact congrArg (·+1) ih
theorem Slots.get {h:Heap} {l:Lay} {vs:List (Option Value)} {ds:List (Option D)} (r:Slots h l vs ds) {i:Nat} {d:D} (e:(ds[i]?).join=.some d):∃ v,(vs[i]?).join=.some v/\Rep h l v d:=by
 induction r generalizing i with
 | nil=>cases e
 | none _ ih=>cases i with
  | zero=>cases e
  | succ i=>exact ih (i:=i) e
 | some r _ ih=>cases i with
  | zero=>cases e; exact ⟨_,rfl,r⟩
  | succ i=>exact ih (i:=i) e
theorem Slots.nones {h:Heap} {l:Lay}:∀ (k:Nat),Slots h l (List.replicate k Option.none) (List.replicate k Option.none)
 | 0=>.nil
 | k+1=>.none (Slots.nones k)
theorem Slots.append {h:Heap} {l:Lay} {us:List (Option Value)} {es:List (Option D)} (q:Slots h l us es) {vs ds} (r:Slots h l vs ds):Slots h l (vs++us) (ds++es):=by
 induction r with
 | nil=>exact q
 | none _ ih=>exact .none ih
 | some r _ ih=>exact .some r ih
theorem Slots.set {h:Heap} {l:Lay} {v:Value} {d:D} (q:Rep h l v d) {vs:List (Option Value)} {ds:List (Option D)} (r:Slots h l vs ds):∀ i:Nat,Slots h l (vs.set i (.some v)) (ds.set i (.some d)):=by
 induction r with
 | nil=>exact fun _=>.nil
 | none rs ih=>exact fun i=>by cases i with
  | zero=>exact .some q rs
  | succ i=>exact .none (ih i)
 | some r rs ih=>exact fun i=>by cases i with
  | zero=>exact .some q rs
  | succ i=>exact .some r (ih i)
section
variable {prog:Program} {w:World} {A:Around} {s:Shared} {K:Frag} {p a C:Addr} {R:Result->Shared->Prop}
theorem CF {ox:Obj} {od:Option Obj} {v:Value} {i:Nat} (X:K.In s.heap) (I:InstAt s.heap a ox C od) (hp:slotIn K p C=some i) (hi:i < 1000)
  (h:R (.ok (.ret .none)) {s with heap:=s.heap.update a fun o=>{o with slots:=(o.slots++Array.replicate (i+1 - o.slots.size) none).setIfInBounds i (some v)}}):
  codeAny (model prog w) A (.call (.builtin "member_descriptor.__set__") ⟨[.ref p,.ref a,v],[]⟩) R s:=by
 obtain ⟨n,tn,owner,behind,tb,d,sl,cd,ho,hc,hm,hb,rfl⟩:=slot_of X hp;obtain ⟨hh,g,dr,t,os⟩:=s;have L0:=I.type (M:=model prog w);have L1:=looks_mroIn (M:=model prog w) X hm;have L2:Looks (model prog w) hh (Slots.slotNamesOf (.ref C)) cd.slotNames:=(looks_clsIn X hc).andThen .now;have hx:=I.at_;dsimp only at ho hx L0 L1;have f0:=looks_field (M:=model prog w) ho 0 (v:=.str n tn) rfl;have f1:=looks_field (M:=model prog w) ho 1 (v:=owner) rfl;have f3:=looks_field (M:=model prog w) ho 3 (v:=.builtin "proto.slot#set") rfl;have f4:=looks_field (M:=model prog w) ho 4 (v:=.int behind tb) rfl;refine codeAny_call_builtin KF.slot_mset.plain KF.entry_mset (KF.slot_mset.check _ _ _ _ _ _ _ _ ⟨_,ho,rfl⟩ (KF.args_mset _ _ _) ?_);unfold Builtin.«member_descriptor.__set__» descrSet descrStoreThrough descrCheckInstance descrNameAndClass isInstance;have f5:Looks (model prog w) hh (descrItself (.ref p)) [.ref p]:=((Looks.ld (part:=none) ho).andThen .now).andThen (Looks.of_pure (by kernel_rfl))
 repeat lk
 refine ⟨Code.quiet_builtin _ (by decide +kernel),codeAny_builtin KF.entry_slotset ?_⟩;unfold Builtin.«proto.slot#set» Slots.target
 repeat lk
 rw [if_neg hb];refine wpAny_pure (wpAny_bind ?_);unfold setSlotAt;dsimp only;rw [if_neg (by rw [sizeLine_eq]; omega)];exact wpAny_updatePart hx (wpAny_pure h)
end
section
variable {x:Ctx} {P:MP}
theorem oJ {vo:Value} {o:D} {C:Addr} {nm:String} {i:Nat} {expr:Bool} (hk:fi x.c.K C (Str.o nm) i=true) (ho:∀ h l,P.p h l->Rep h l vo o):Sim x P MP.rep (getAttr vo (Str.o nm) expr) (eA fun σ=>x6 C i σ o):=by
 intro ρ σ l s r st' e hs hp;obtain ⟨d,hd,rfl,rfl⟩:=eN e;obtain ⟨q,h1,h2⟩:=Option.bind_eq_some_iff.mp hd;obtain ⟨ob,h3,h4⟩:=Option.bind_eq_some_iff.mp h1;obtain ⟨n,rfl,hn⟩:=lg h3;obtain rfl:=O.slots?_some h4;obtain ⟨rfl,h5⟩:=gf h2;obtain ⟨d',hl,h6⟩:=Option.bind_eq_some_iff.mp h5;obtain ⟨hh,rfl⟩:=bb h6;obtain ⟨p,rfl,hm⟩:=(ho _ _ hp).obj_inv;obtain ⟨ox,od,n',a,a6,_,_,hr⟩:=hs.inv.at hn hm;have I:=a.inst a6;obtain ⟨v,hv,hrep⟩:=hr.get hl;obtain ⟨q,k1,k2,_,_,_,q1,q2,q3,q4,_⟩:=rU hk;exact get_bind hs.inv.inK I (plainGet_of k1).1 (findObj_data k2 q1 q2 q3) (plainGet_of k1).2 (wpAny_call (slot_get (s:={s with toks:=s.toks+1}) hs.inv.inK I q4 (by rw [← Array.getElem?_toList]; exact hv) (handed_on (qe hrep hh) ⟨_,l,rfl,hs.toks _,.refl ..,hrep⟩)))
theorem ot {vo vv:Value} {o v:D} {C:Addr} {nm:String} {i:Nat} (hk:fi x.c.K C (Str.o nm) i=true) (ho:∀ h l,P.p h l->Rep h l vo o) (hv:∀ h l,P.p h l->Rep h l vv v):
  Sim x P (fun _ _=>MP.tt) (setAttr vo (Str.o nm) vv) (kJ C i o v):=Sim.upd ho (fun ob q e=>by cases ob <;> first | rfl | cases e) fun {ρ σ l s p ob q} hs hp e r _ hf {Q E} g=>by
 subst e;obtain ⟨⟨C',fs⟩,h1,h2⟩:=Option.bind_eq_some_iff.mp hf;obtain rfl:=O.slots?_some h1;obtain ⟨hC,rfl⟩:=bb h2;obtain rfl:C'=C:=hC;obtain ⟨ox,od,n',a,a6,a7,a8,hr⟩:=r;have I:=a.inst a6;obtain ⟨q,_,_,k3,k4,k5,q1,q2,q3,q4,q5⟩:=rU hk;refine set_plain hs.inv.inK I k3 (osa_descr (s:={s with toks:=s.toks+1}) KF.slot_mset hs.inv.inK I k4 (by unfold takerIn; rw [q1]; show (takesIn x.c.K (.ref q)).map _=_; rw [q3]; rfl) q5 (CF (s:={s with toks:=s.toks+1}) hs.inv.inK I q4 k5 ?_));have hsb:Heap.SameBut p.1 s.heap (s.heap.update p.1 fun o=>{o with slots:=(o.slots++Array.replicate (i+1 - o.slots.size) none).setIfInBounds i (some vv)}):=Heap.SameBut.update ..
 have h1:=Heap.get?_update_self (h:=s.heap) (a:=p.1) (fun o=>{o with slots:=(o.slots++Array.replicate (i+1 - o.slots.size) none).setIfInBounds i (some vv)}) a.at_ (show Obj.isFreed {ox with slots:=(ox.slots++Array.replicate (i+1 - ox.slots.size) none).setIfInBounds i (some vv)}=false by
  unfold Obj.isFreed; rw [a.data])
 have a6':=cK hsb _ _ (Ne.symm a.ne) a6;refine g () _ _ ⟨fun a ob n1 _ q=>cK hsb a ob n1 q,⟨_,h1⟩,⟨_,a6'⟩⟩ fun la=>⟨⟨_,od,n',⟨h1,a.cls,a.data,a.dict,a.ne⟩,a6',a7,a8,?_⟩,trivial⟩
 have hl:=hr.length;rw [Array.length_toList] at hl;rw [Array.toList_setIfInBounds,Array.toList_append,Array.toList_replicate,hl];exact Slots.set ((hv _ _ hp).later la) (Slots.append (Slots.nones _) (hr.later la)) i
noncomputable def iM (C:Addr) (i:Nat) (f:AM D):AM D:=f>>=fun d=>eA fun σ=>x6 C i σ d
theorem jZ {value:Expr} {nm:String} {pos:Pos} {f:AM D} {C:Addr} {i:Nat} (hbase:attributeBase value (Str.o nm) x.env (eval value x.env)=eval value x.env) (hk:fi x.c.K C (Str.o nm) i=true) (h:a9 x value f):a9 x (.Attribute value (Str.o nm) pos) (iM C i f):=
 mf hbase h fun _ _ _ hv=>oJ hk hv
noncomputable def lK (C:Addr) (i:Nat) (f:AM D) (v:D):AM Unit:=f>>=fun o=>kJ C i o v
theorem kG {o:Expr} {nm:String} {pos:Pos} {f:AM D} {C:Addr} {i:Nat} (hk:fi x.c.K C (Str.o nm) i=true) (h:a9 x o f):j8 x (.Attribute o (Str.o nm) pos) (lK C i f):=
 qQ (g:=fun o v=>kJ C i o v) h fun _ _ _ _ _ h1 h2=>ot hk h1 h2
noncomputable def pR (f:AM D) (get:D->AM D) (put:D->D->AM Unit) (op:Operator) (g:AM D):AM aj:=f>>=fun o=>get o>>=fun old=>g>>=fun v=>vD op old v>>=fun new=>put o new>>=fun _=>pure .next
theorem oG {o e:Expr} {attr:Str} {tpos pos:Pos} {op:Operator} {f g:AM D} {get:D->AM D} {put:D->D->AM Unit} (h1:a9 x o f) (h2:a9 x e g)
  (hget:∀ (P:MP) v d,(∀ h l,P.p h l->Rep h l v d)->Sim x P MP.rep (getAttr v attr true) (get d))
  (hput:∀ (P:MP) vo o vv v,(∀ h l,P.p h l->Rep h l vo o)->(∀ h l,P.p h l->Rep h l vv v)->Sim x P (fun _ _=>MP.tt) (setAttr vo attr vv) (put o v)):
  iJ x (.AugAssign (.Attribute o attr tpos) op e pos) (pR f get put op g):=fun P=>by
 refine Sim.of_eq (t':=standAt pos>>=fun _=>eval o x.env>>=fun ov=>holding [ov] (standAt tpos.atName>>=fun _=>getAttr ov attr true>>=fun old=>holding [old] (eval e x.env)>>=fun v=>standAt pos>>=fun _=>operate [old,v] (inplaceOp op old v))>>=fun new=>
  standAt tpos.atName>>=fun _=>holding [new,ov] (setAttr ov attr new)>>=fun _=>release [new,ov] []>>=fun _=>pure .next) rfl ?_
 refine Sim.at ((h1 P).bind fun ov od=>?_)
 have mid:Sim x (P.and (MP.rep ov od)) MP.rep (holding [ov] (standAt tpos.atName>>=fun _=>getAttr ov attr true>>=fun old=>holding [old] (eval e x.env)>>=fun v=>standAt pos>>=fun _=>operate [old,v] (inplaceOp op old v))) (get od>>=fun old=>g>>=fun v=>vD op old v):=by
  refine Sim.holding (Sim.at ((hget (P.and (MP.rep ov od)) ov od fun h l q=>q.2).bind fun old oldd=>((h2 _).holding).bind fun v d=>Sim.at (Sim.operate (n9 (P:=((P.and (MP.rep ov od)).and (MP.rep old oldd)).and (MP.rep v d)) (fun h l q=>q.1.2) fun h l q=>q.2))))
 show Sim x _ _ _ (get od>>=fun old=>g>>=fun v=>vD op old v>>=fun new=>put od new>>=fun _=>(pure aj.next:AM aj));have hre:(get od>>=fun old=>g>>=fun v=>vD op old v>>=fun new=>put od new>>=fun _=>(pure aj.next:AM aj))=((get od>>=fun old=>g>>=fun v=>vD op old v)>>=fun new=>put od new>>=fun _=>(pure aj.next:AM aj)):=by simp only [iu]
 rw [hre];refine mid.bind fun new nd=>Sim.at ?_;refine Sim.bind (R:=fun _ _=>MP.tt) (Sim.holding (hput ((P.and (MP.rep ov od)).and (MP.rep new nd)) ov od new nd (fun h l q=>q.1.2) fun h l q=>q.2)) fun _ _=>?_;intro ρ σ l s r st' e hs hp;obtain ⟨rfl,rfl⟩:=kD e;exact wpAny_bind (wpAny_release (wpAny_pure ⟨_,l,rfl,hs,.refl ..,trivial⟩))
noncomputable def ph (C:Addr) (nm:String) (op:Operator) (f g:AM D):AM aj:=pR f (fun d=>eA fun σ=>y3 C nm σ d) (fun o v=>kS C nm o v) op g
noncomputable def ko (C:Addr) (i:Nat) (op:Operator) (f g:AM D):AM aj:=pR f (fun d=>eA fun σ=>x6 C i σ d) (fun o v=>kJ C i o v) op g
theorem p5 {o e:Expr} {nm:String} {tpos pos:Pos} {op:Operator} {f g:AM D} {C:Addr} (hk:d7 x.c.K C (Str.o nm)=true) (h1:a9 x o f) (h2:a9 x e g):iJ x (.AugAssign (.Attribute o (Str.o nm) tpos) op e pos) (ph C nm op f g):=
 oG h1 h2 (fun _ _ _ hv=>ou hk hv) fun _ _ _ _ _ h1 h2=>oq hk h1 h2
theorem oh {o e:Expr} {nm:String} {tpos pos:Pos} {op:Operator} {f g:AM D} {C:Addr} {i:Nat} (hk:fi x.c.K C (Str.o nm) i=true) (h1:a9 x o f) (h2:a9 x e g):iJ x (.AugAssign (.Attribute o (Str.o nm) tpos) op e pos) (ko C i op f g):=
 oG h1 h2 (fun _ _ _ hv=>oJ hk hv) fun _ _ _ _ _ h1 h2=>ot hk h1 h2
end
noncomputable def Ctx.inner (x:Ctx) (hr:1<=x.room) (v:Addr) (args:List Value):Ctx where
 c:=x.c
 room:=x.room - 1
 A:=x.A.under (.builtin "type.__call__" ⟨.ref v::args,[]⟩)
 env:=x.env
 wr:=x.wr
 fs:=x.fs
 quiet:=x.quiet
 hfr:=x.hfr
 hfn:=x.hfn
 hgl:=x.hgl
 hbt:=x.hbt
 hfr0:=x.hfr0
 hdep:=lm (c:=1) (by decide) hr x.hdep
 huni:=lm (c:=1) (by decide) hr x.huni
 hquiet:=x.hquiet
 hbL:=x.hbL
 hbC:=x.hbC
 hwr:=x.hwr
theorem St.inner {x:Ctx} {hr:1<=x.room} {v:Addr} {args:List Value} {ρ:aq} {σ:List O} {l:Lay} {s:Shared} (h:St x ρ σ l s):St (x.inner hr v args) ρ σ l s:=⟨h.inv,h.env,h.ff,h.foff,h.gens,h.os⟩
open Classical in
noncomputable def jg (o₀:O) (bind:List D->Option aq) (fb:AM aj) (ds:List D):AM D:=fun st=>(bind (.obj st.σ.length::ds)).bind fun bs=>(fb ⟨bs,st.σ++[o₀]⟩).bind fun q=>
 if xj (rE q.1)=some .none then some (.ok (.obj st.σ.length),⟨st.ρ,q.2.σ⟩) else none
noncomputable def nV (K:Frag) (C fI:Addr):Bool:=makesIn K C&&findIn K (.ref C) "__init__" ==some (some (.ref fI))&&isFn K (.ref fI)
inductive sA (C:Addr):O->Prop
 | inst:sA C (.inst C [])
 | slots:sA C (.slots C [])
section
variable {x:Ctx}
theorem St.newPair {ρ:aq} {σ:List O} {l:Lay} {s:Shared} (hs:St x ρ σ l s) {h':Heap} {p:Addr×Addr} {o:O} (tk:Nat) (hk:∀ b ob,s.heap.get? b=some ob->h'.get? b=some ob) (h1:s.heap.get? p.1=none) (h2:s.heap.get? p.2=none)
  (h1':∃ ob,h'.get? p.1=some ob) (h2':∃ ob,h'.get? p.2=some ob) (ho:kx x.c h' l p o) (hl:o.live=true):
  St x ρ (σ++[o]) (l.add p) {s with heap:=h',toks:=tk}/\bt x.c x.S x.W l s.heap (l.add p) h'/\Rep h' (l.add p) (.ref p.1) (.obj σ.length):=by
 obtain ⟨k1,k2⟩:=hs.grow (s':={s with heap:=h',toks:=tk}) hk rfl rfl;refine ⟨k1.add (hs.free_new h1 h1') (hs.free_new h2 h2') ho hl,k2.add h1 h2,?_⟩
 have e:(l.add p).mu[σ.length]?=some p:=by
  show (l.mu++[p])[σ.length]?=_;rw [← hs.inv.len]; simp
 exact .obj e
theorem zS {C fI:Addr} {o₀:O} (hf:sA C o₀) {c:Cx} {h h':Heap} {l:Lay} (keep:(h.push emptyDict).push (instObj C h.objs.size)=h'):kx c h' l (h.objs.size+1,h.objs.size) o₀/\o₀.live=true/\(∃ o,h'.get? (h.objs.size+1)=some o)/\(∃ o,h'.get? h.objs.size=some o):=by
 have g1:h'.get? (h.objs.size+1)=some (instObj C h.objs.size):=by subst keep; heap_get
 have g2:h'.get? h.objs.size=some emptyDict:=by subst keep; heap_get
 have I:jX h' (h.objs.size+1,h.objs.size) C (instObj C h.objs.size):=⟨g1,rfl,rfl,rfl,Nat.succ_ne_self _⟩
 cases hf with
 | inst=>exact ⟨.mk _ _ I ⟨_,#[],0,g2,rfl,(fun e he=>by simp at he),List.Pairwise.nil,fun _=>rfl⟩ (fun y hy=>absurd rfl hy) (fun y d' e=>nomatch e),rfl,⟨_,g1⟩,⟨_,g2⟩⟩
 | slots=>exact ⟨.mk _ _ 0 I g2 rfl rfl .nil,rfl,⟨_,g1⟩,⟨_,g2⟩⟩
open Classical in
theorem ux {n:Nat} {C fI:Addr} {o₀:O} {bind:List D->Option aq} {fb:AM aj} (hq:x.quiet=true) (hr:n+2<=x.room) (hm:nV x.c.K C fI=true) (hf:sA C o₀) (h:eS x.c n fI bind fb):eV x (.ref C) (jg o₀ bind fb):=fun P vs ds hv=>by
 intro ρ σ l s r st' e hs hp;simp only [nV,Bool.and_eq_true,beq_iff_eq] at hm;obtain ⟨fd,body,h1,h2,h3,h4⟩:=h.at_;obtain ⟨bs,hbs,e⟩:=Option.bind_eq_some_iff.mp e;obtain ⟨⟨r1,st1⟩,he,e⟩:=Option.bind_eq_some_iff.mp e;obtain ⟨hret,e⟩:=bb e;cases e;have X:=hs.inv.inK;obtain ⟨hh,g,d,t,os⟩:=s;refine wpAny_call (make_core (makes_of X hm.1.1) (looks_findIn X hm.1.2) (fun self=>bind_fn X self (beq_iff_eq.mp hm.2)) (.inl rfl) ?_);have keep:∀ b o,hh.get? b=some o->((hh.push emptyDict).push (instObj C hh.objs.size)).get? b=some o:=fun b o e=>Heap.get?_push_of_some _ (Heap.get?_push_of_some _ e);generalize hgen:(hh.push emptyDict).push (instObj C hh.objs.size)=h' at keep ⊢;obtain ⟨ho,hlive,g1,g2⟩:=zS (fI:=fI) hf (c:=x.c) (l:=l) hgen;obtain ⟨k1,k2,k3⟩:=hs.newPair (h':=h') (p:=(hh.objs.size+1,hh.objs.size)) (o:=o₀) t keep (Heap.get?_none_of_le (Nat.le_succ _)) (bi _) g1 g2 ho hlive;have hr1:1<=x.room:=Nat.le_trans (Nat.le_add_left ..) (Nat.le_of_succ_le hr);have core:=m5 (x:=(x.inner hr1 C vs).bs) (Nat.le_sub_of_add_le (Nat.le_trans (Nat.le_add_left 2 n) hr)) h1 (fun y c1 c2 c3 c4 c5=>h2 y c1 (c2.trans hq) (Nat.le_of_succ_le_succ (Nat.le_trans (Nat.le_sub_of_add_le hr) (Nat.le_of_eq (Eq.symm c3)))) c4 c5) h3 h4 (k1.inner (hr:=hr1) (v:=C) (args:=vs)).bare (.cons k3 ((hv _ _ hp).later k2.later)) hbs he;rw [kr hret] at core;refine codeAny_mono core fun q s1 z=>?_
 match q,z with
 | .error _,⟨_,_,q1,_,_,_⟩=>cases q1
 | .ok (.ret v),⟨_,l1,q1,q2,q3,q4⟩=>
  cases q1;cases q4.py_inv;exact ⟨rfl,⟨_,l1,rfl,k1.back q3 (fun _ _ _ z=>z) q2.inv q2.ff q2.gens q2.os,k2.trans (q3.weaken (fun _ _ _ z=>z.elim) fun _ _ _ z=>z),k3.later q3.later⟩⟩
noncomputable def fe (K:Frag) (C:Addr) (nm:Str) (f:Addr):Bool:=plainGet K C nm&&hasDictIn K C&&findIn K (.ref C) nm==some (some (.ref f))&&isFn K (.ref f)
noncomputable def Eo (C:Addr) (nm:String) (d:D):AM Unit:=eA fun σ=>((Bv σ d).bind O.inst?).bind fun q=>if q.1=C/\nm∉q.2.map (·.1) then some () else none
noncomputable def il (C:Addr) (nm:String) (f:AM D) (g:AM (List D)) (k:List D->AM D):AM D:=f>>=fun d=>Eo C nm d>>=fun _=>g>>=fun ds=>k (d::ds)
inductive Ge {δ:Type} (C:Addr) (nm:String) (ov:Value) (K:Unit->AM δ) (ρ:aq) (σ:List O) (l:Lay) (h:Heap) (d:D) (q:Except Value δ×ASt):Prop
 | mk (n:Nat) (p:Addr×Addr) (ox od:Obj):d=.obj n->ov=.ref p.1->l.mu[n]?=some p->InstAt h p.1 ox C (some od)->lookIn (Str.o nm) od=some none->K () ⟨ρ,σ⟩=some q->Ge C nm ov K ρ σ l h d q
theorem vh {δ:Type} {C:Addr} {nm:String} {ov:Value} {d:D} {K:Unit->AM δ} {ρ:aq} {σ:List O} {l:Lay} {s:Shared} {q:Except Value δ×ASt} (hs:St x ρ σ l s) (rv:Rep s.heap l ov d) (e:(Eo C nm d>>=K) ⟨ρ,σ⟩=some q):Ge C nm ov K ρ σ l s.heap d q:=by
 obtain ⟨r,st'⟩:=q;rcases om e with ⟨_,st1,he,e2⟩ | ⟨_,he,_⟩
 case inr=>obtain ⟨_,_,q,_⟩:=eN he; cases q
 obtain ⟨_,hd,_,rfl⟩:=eN he;obtain ⟨q,h1,h2⟩:=Option.bind_eq_some_iff.mp hd;obtain ⟨ob,h3,h4⟩:=Option.bind_eq_some_iff.mp h1;obtain ⟨n,rfl,hn⟩:=lg h3;obtain rfl:=O.inst?_some h4;obtain ⟨⟨rfl,hnm⟩,_⟩:=gf h2;obtain ⟨p,rfl,hmu⟩:=rv.obj_inv;obtain ⟨ox,m,a,b,a7,hr⟩:=hs.inv.at hn hmu;obtain ⟨od,I,hod,hlook⟩:=s9 a b;refine ⟨n,p,ox,od,rfl,rfl,hmu,I,?_,e2⟩;rw [hlook];cases hmm:m (Str.o nm) with
 | none=>rfl
 | some v=>
  obtain ⟨q,q1,q2⟩:=List.mem_map.mp (a7 (Str.o nm) (by rw [hmm]; exact fun z=>nomatch z));exact absurd (List.mem_map.mpr ⟨q,q1,fV q2⟩) hnm
theorem jv {o:Expr} {nm:String} {apos pos:Pos} {args:List Expr} {C fa:Addr} {f:AM D} {g:AM (List D)} {k:List D->AM D} (hbase:attributeBase o (Str.o nm) x.env (eval o x.env)=eval o x.env)
  (hfew:methodCallForm (args.length+([]:List Keyword).length) (backTo pos (starEach args x.env)) (backToKw pos (keywordEach [] x.env))=true) (hline:(apos.endLine==pos.line)=true)
  (hm:fe x.c.K C (Str.o nm) fa=true) (hkeep:df x.c (.ref fa)) (ho:a9 x o f) (ha:f6 x args g) (hk:eV x (.ref fa) k):
  a9 x (.Call (.Attribute o (Str.o nm) apos) args [] pos) (il C nm f g k):=fun P=>by
 rw [show eval (.Call (.Attribute o (Str.o nm) apos) args [] pos) x.env=_ from arm_eval_Call ..,hbase];refine (ho P).bind fun ov d=>Sim.at ?_;unfold methodCall;rw [hfew];intro ρ σ l s r st' e hs hp;simp only [fe,Bool.and_eq_true,beq_iff_eq] at hm;obtain ⟨n,p,ox,od,rfl,rfl,_,I,hl,e2⟩:=vh hs hp.2 e;have k1:=plainGet_of hm.1.1.1;refine wpAny_bind (wpAny_holding (method_fn hs.inv.inK I k1.1 k1.2 hm.1.2 (beq_iff_eq.mp hm.2) (by show (lookIn (Str.o nm) od).map _=_; rw [hl]; rfl) ?_));have hpos:methodCallPos true o x.env apos pos=pure pos:=by unfold methodCallPos; simp [hline]
 exact wpAny_bind (wpAny_of_eq hpos (jW (P:=P.and (MP.rep (.ref _) (.obj n))) (first:=[.ref _]) (fd:=[]) hkeep (ha _ _ pos) (fun vs ds=>hk _ (.ref _::vs) (.obj n::ds) (fun h l q=>.cons q.1.2 q.2)) ρ σ l s r st' e2 hs hp))
end
noncomputable def j7 (ds:List D):D:=match dk ds with
 | some ps=>.py (.tuple ps)
 | none=>.tup ds
noncomputable def i4 (ps:List String) (v:String) (ds:List D):Option aq:=if ds.length<=ar then (bI ps (ds.take ps.length)).map fun bs=>bs++[(v,j7 (ds.drop ps.length))] else none
theorem dG.append {h:Heap} {l:Lay} {r bs r' bs'} (p:dG h l r bs) (q:dG h l r' bs'):dG h l (r++r') (bs++bs'):=by
 induction p with
 | nil=>exact q
 | cons u _ ih=>exact .cons u ih
section
variable {x:Bs} {σ:List O} {l:Lay} {s:Shared}
theorem ls.frozen (hb:ls x σ l s) (o:Obj) (hfr:o.isFreed=false):ls x σ (l.freeze s.heap.objs.size) {s with heap:=s.heap.push o}/\∀ W,bt x.c x.S W l s.heap (l.freeze s.heap.objs.size) (s.heap.push o):=by
 obtain ⟨i,f,fo,g,os⟩:=hb;have n0:s.heap.get? s.heap.objs.size=none:=bi _;have keep:∀ b ob,s.heap.get? b=some ob->(s.heap.push o).get? b=some ob:=fun b ob e=>Heap.get?_push_of_some _ e;have n1:(s.heap.push o).objs.size=s.heap.objs.size+1:=Heap.size_push ..;have la:cg s.heap l (s.heap.push o) (l.freeze s.heap.objs.size):=⟨fun _ _ e=>e,fun _ e=>.inl e,fun a ob _ e=>keep a ob e⟩
 have hasThere:∀ a,l.has a->a≠s.heap.objs.size:=fun a q e=>by obtain ⟨ob,z⟩:=i.mlt a q; exact aP (e▸n0) z
 have new:(s.heap.push o).get? s.heap.objs.size=some o:=Heap.get?_push_size _ hfr;refine ⟨⟨⟨fun b ob e=>keep b ob (i.base b ob e),i.len,fun a q=>?_,fun a q=>?_,i.mnew,fun n ob p h1 h2 h3=>?_,i.inj,fun n ob p h1 h2=>(i.objs n ob p h1 h2).later la (fun _=>keep _ _) fun _=>keep _ _⟩,f.of_keeps fun b ob e _=>⟨ob,keep b ob e,rfl⟩,fun a ha=>⟨fun z=>?_,(fo a ha).2⟩,g,os⟩,fun W=>?_⟩
 .rcases q with q | rfl
  .obtain ⟨ob,e⟩:=i.flt a q; exact ⟨ob,keep a ob e⟩
  .exact ⟨o,new⟩
 .obtain ⟨ob,e⟩:=i.mlt a q; exact ⟨ob,keep a ob e⟩
 .obtain ⟨q1,q2⟩:=i.live n ob p h1 h2 h3;exact ⟨fun z=>z.elim q1 (hasThere _ ⟨n,p,h3,.inl rfl⟩),fun z=>z.elim q2 (hasThere _ ⟨n,p,h3,.inr rfl⟩)⟩
 .rcases z with z | rfl
  .exact (fo a ha).1 z
  .obtain ⟨ob,e⟩:=FunFrames.frames_there f _ ha; exact aP n0 e
 .exact ⟨la,fun a ob e=>⟨ob,keep a ob e⟩,fun a z=>.inl z,fun a z=>z.elim .inl fun z=>.inr (.inr (z▸n0)),fun a ob _ _ _ e=>keep a ob e,fun a ob _ _ e=>⟨ob.slots,keep a ob e⟩⟩
theorem sa {c:Cx} {fd:FuncData} {ps:List String} {v:String} (h:w6 ps.length fun vs=>∀ rest:List Value,bindArgs fd ⟨vs++rest,[]⟩=newTuple rest>>=fun t=>pure ((ps.map Str.o).zip vs++[(Str.o v,t)])):kq c fd (i4 ps v):=by
 intro x σ l s vs ds bs _ hb rv e Q E k;unfold i4 at e;split at e
 .rename_i hz;obtain ⟨b0,hb0,rfl⟩:=Option.map_eq_some_iff.mp e;have hn:=qi hb0;have hle:ps.length<=ds.length:=by rw [List.length_take] at hn; omega
  have hsplit:vs=vs.take ps.length++vs.drop ps.length:=(List.take_append_drop ..).symm;rw [hsplit,h.of _ (by rw [List.length_take,rv.length]; omega)]
  have sz:(vs.drop ps.length).toArray.size<=sizeLine:=by
   rw [List.size_toArray,List.length_drop,rv.length];exact Nat.le_trans (Nat.sub_le ..) (bD hz)
  refine wpAny_bind (wpAny_newObj_type ?_ sz);obtain ⟨k1,k2⟩:=hb.frozen {cls:=.type "tuple",data:=.seq (vs.drop ps.length).toArray} rfl;have st:=k2 fun _=>False;have rd:=rv.drop ps.length;refine wpAny_pure (k _ _ _ k1 st (dG.append (qp ((rv.take ps.length).later st.later) hb0) (.cons ?_ .nil)));have hobj:(s.heap.push {cls:=.type "tuple",data:=.seq (vs.drop ps.length).toArray}).get? s.heap.objs.size=some {cls:=.type "tuple",data:=.seq (vs.drop ps.length).toArray}:=Heap.get?_push_size _ rfl;unfold j7;split
  .rename_i qs hqs;exact .py (.tuple (.inr rfl) hobj rfl rfl (by simpa using ((rd.later st.later).rp hqs)))
  .exact .tup (.inr rfl) hobj rfl rfl (by simpa using rd.later st.later)
 .cases e
theorem zn {c:Cx} {fd:FuncData} {ps:List String} {v:String} {dv:D} {dval:Value} (hr:∀ h l,Rep h l dval dv) (h:∀ (vs:List Value) (x:Bs) (s:Shared),x.c=c->c.K.In s.heap->vs.length=ps.length->∀ (Q:List (Str×Value)->Shared->Prop) E,Q ((ps.map Str.o).zip vs++[(Str.o v,dval)]) s->wpAny x.c.M x.A.in1 (bindArgs fd ⟨vs,[]⟩) Q E s):
  kq c fd fun ds=>(bI ps ds).map fun bs=>bs++[(v,dv)]:=by
 intro x σ l s vs ds bs hc hb rv e Q E k;obtain ⟨b0,hb0,rfl⟩:=Option.map_eq_some_iff.mp e;refine h vs x s hc (hc▸hb.inv.inK) (by rw [rv.length,qi hb0]) Q E ?_;exact k _ l s hb (.refl ..) (dG.append (qp rv hb0) (.cons (hr _ _) .nil))
theorem DZ {c:Cx} {fd:FuncData} {ps:List String} {v:String} {dval:Value} {T:Addr} {o:Obj} {items:Array Value} {n:Nat} {k:List Value->Option (Array Value)->Sem (List (Str×Value))} (hd:fd.defaults=.ref T) (ho:c.K.lookup T=some o) (hs:o.data=.seq items n)
  (h₁:∀ vs:List Value,vs.length=ps.length->bindArgs fd ⟨vs,[]⟩=seqItems? fd.defaults>>=k vs) (h₂:∀ vs:List Value,vs.length=ps.length->k vs (some items)=pure ((ps.map Str.o).zip vs++[(Str.o v,dval)])):
  ∀ (vs:List Value) (x:Bs) (s:Shared),x.c=c->c.K.In s.heap->vs.length=ps.length->∀ (Q:List (Str×Value)->Shared->Prop) E,Q ((ps.map Str.o).zip vs++[(Str.o v,dval)]) s->wpAny x.c.M x.A.in1 (bindArgs fd ⟨vs,[]⟩) Q E s:=by
 intro vs x s hc hK hl Q E q;rw [h₁ vs hl,hd];refine wpAny_bind ?_;show wpAny _ _ (load T>>=fun o=>match o.data with | .seq items _=>pure (some items) | _=>pure none) _ _ _;refine wpAny_bind (wpAny_load (hK _ _ ho) ?_);rw [hs];refine wpAny_pure ?_;rw [h₂ vs hl];exact wpAny_pure q
end
noncomputable def EQ (X:Value):AM aj:=fun st=>some (.error X,st)
noncomputable def fW (X:Value) (f:AM (List D)):AM aj:=f>>=fun ds=>if ds.length<=ar then EQ X else AM.fail
section
variable {x:Ctx}
theorem St.flyExc {ρ:aq} {σ:List O} {l:Lay} {s:Shared} (hs:St x ρ σ l s) {h':Heap} {e:Addr} {cls:Value} (keeps:∀ b o,s.heap.get? b=some o->h'.get? b=some o) (new:s.heap.get? e=none)
  (there:∃ ob vs a0,h'.get? e=some ob/\ob.cls=cls/\ob.data=.fields vs/\vs[0]?=some a0/\vs[1]?=some .none):
  St x ρ σ l {s with heap:=h'}/\bt x.c x.S x.W l s.heap l h'/\nI x.env.frame s.heap (.ref e) cls l h':=by
 obtain ⟨k1,k2⟩:=hs.grow (s':={s with heap:=h'}) keeps rfl rfl;obtain ⟨ob,vs,a0,h1,h2,h3,h4,h5⟩:=there;exact ⟨k1,k2,e,ob,vs,a0,rfl,new,(hs.off new).1,(hs.off new).2,h1,h2,h3,h4,.inl h5⟩
theorem qy {ρ:aq} {σ:List O} {l:Lay} {s:Shared} {r:Except Value aj} {st':ASt} {fv X:Value} {es:List Expr} {pos:Pos} {g:AM (List D)} (ha:f6 x es g) (e:fW X g ⟨ρ,σ⟩=some (r,st')) (hs:St x ρ σ l s)
  {Q:Args->Shared->Prop} {E:Value->Shared->Prop}
  (k:∀ a ds l1 s1,St x st'.ρ st'.σ l1 s1->bt x.c x.S x.W l s.heap l1 s1.heap->a.kw=[]->a.pos.length<=sizeLine->au s1.heap l1 a.pos ds->r=.error X->Q a s1)
  (ke:∀ ev,∀ s',ErQ x l s.heap r st' ev s'->E ev s'):
  wpAny x.c.M x.A (evalArgs fv true (backTo pos (starEach es x.env)) []) Q E s:=
 (ha .tt fv pos).run e hs trivial (fun a ds ρ1 σ1 l1 s1 e2 hs1 st1 rv=>by
  by_cases hz:ds.length<=ar
  .rw [if_pos hz] at e2;cases (show some (Except.error X,_)=some (r,st') from e2);exact k a ds l1 s1 hs1 st1 rv.1 (by rw [rv.2.length]; exact bD hz) rv.2 rfl
  .rw [if_neg hz] at e2; cases e2) ke
theorem Au {cls newId initId:String} {n:Str} {np cpos pos:Pos} {args:List Expr} {g:AM (List D)} (F:ExcCallFacts cls newId initId) (G:ExcRaiseFacts cls) (hq:x.quiet=true) (hc:gS x (.Name n np) (.type cls)) (ha:f6 x args g)
  (hplain:(backTo cpos (starEach args x.env)).any (·.1)=false):iJ x (.Raise (some (.Call (.Name n np) args [] cpos)) none pos) (fW (.type cls) g):=fun P=>by
 intro ρ σ l s r st' e hs _;refine wpAny_Raise_call F G (x.hquiet hq) hplain (hc ρ σ l s hs _ _ ⟨rfl,?_⟩);refine qy ha e hs (fun a ds l1 s1 hs1 st1 hkw hz hrep hr=>⟨hkw,hz,fun h' e' hm=>?_⟩) (fun ev s' q=>q);obtain ⟨t,ht,_⟩:=hm.there;obtain ⟨k1,k2,k3⟩:=hs1.flyExc hm.keeps hm.new ⟨_,_,_,ht,rfl,rfl,rfl,rfl⟩;exact ⟨_,l1,hr,k1,st1.trans k2,k3.before fun _=>st1.new⟩
inductive pU (K:Frag) (C:Addr):Prop
 | mk {bm N nm q bs hdct sn sub ab col dd k0 k1 k2 k3 k5}:K.lookup C=some (excClassObj nm q C N bs bm hdct sn sub ab col dd k0 k1 k2 k3 k5 "ValueError.__new__")->nsOkIn K N=true->nsIn K N "__init__" =some none->
  tailIn K [.type "ValueError",.type "Exception",.type "BaseException",.type "object"] bm=true->pU K C
inductive EE (h:Heap) (C:Addr):Prop
 | mk {bm N nm q bs hdct sn sub ab col dd k0 k1 k2 k3 k5 mN}:h.get? C=some (excClassObj nm q C N bs bm hdct sn sub ab col dd k0 k1 k2 k3 k5 "ValueError.__new__")->h.Ns N mN->mN "__init__" =none->
  OwnTail h [.type "ValueError",.type "Exception",.type "BaseException",.type "object"] bm->EE h C
theorem yX {c:Cx} {h:Heap} {C:Addr} (X:c.K.In h) (q:pU c.K C):EE h C:=by
 cases q with | mk h1 h2 h3 h4=>exact .mk (X _ _ h1) (.of_isNs (isNs_of_in X h2)) (nsMap_none_of_in X h2 h3) (tail_of_in X h4)
theorem t5 {C:Addr} {n:Str} {np cpos pos:Pos} {args:List Expr} {g:AM (List D)} (hq:x.quiet=true) (hC:pU x.c.K C) (hc:gS x (.Name n np) (.ref C)) (ha:f6 x args g)
  (hplain:(backTo cpos (starEach args x.env)).any (·.1)=false):iJ x (.Raise (some (.Call (.Name n np) args [] cpos)) none pos) (fW (.ref C) g):=fun P=>by
 intro ρ σ l s r st' e hs _;cases yX x.c.inK hC with | @mk tl N nm q bs hdct sn sub ab col dd k0 k1 k2 k3 k5 mN hCo hN hni T=>?_
 refine wpAny_Raise_call_subT (nm:=nm) (q:=q) (N:=N) (bs:=bs) (hdct:=hdct) (sn:=sn) (sub:=sub) (ab:=ab) (col:=col) (dd:=dd) (k0:=k0) (k1:=k1) (k2:=k2) (k3:=k3) (k5:=k5) PySem.F.excBase_ValueError (T.hasType (by decide)) (x.hquiet hq) hplain hni (hc ρ σ l s hs _ _ ⟨rfl,?_⟩);refine qy ha e hs (fun a ds l1 s1 hs1 st1 hkw hz hrep hr=>?_) (fun ev s' q=>q);refine ⟨hkw,hz,hs1.inv.base _ _ hCo,hN.keeps hs1.inv.base,T.keeps hs1.inv.base,fun h' e' hm=>?_⟩;obtain ⟨t,ht,_⟩:=hm.there;obtain ⟨k1,k2,k3⟩:=hs1.flyExc hm.keeps hm.new ⟨_,_,_,ht,rfl,rfl,rfl,rfl⟩;exact ⟨_,l1,hr,k1,st1.trans k2,k3.before fun _=>st1.new⟩
theorem zq {C:Addr} {t:Expr} {b₀:Stmt} {suite:List Stmt} {pos:Pos} (hC:pU x.c.K C) (ht:∀ y:Ctx,y.c=x.c->y.env=x.env->gS y t (.ref C)):ta x (.ref C) t b₀ suite pos:=fun ea s oe ρ σ l ho hc hs Q E h=>by
 cases yX hs.inv.inK hC with | mk hCo hN hni T=>?_
 refine wpAny_handleBy_cons (codeAny_handlers_test (ht (x.marked (.ref ea)) rfl rfl ρ σ l s (hs.marked _) _ _ ?_)) (by intro q; cases q);obtain ⟨hh,g,d,tk,os⟩:=s;exact wpAny_excMatches_sub_self hCo ho hc (T.hasType (by decide)) (codeAny_handlers_suite h)
theorem mm {c:Prop} [Decidable c] {β:Type} {f:AM β} {st:ASt} {q:Except Value β×ASt} (h:(if c then f else AM.fail) st=some q):c/\f st=some q:=by
 by_cases hc:c
 .rw [if_pos hc] at h; exact ⟨hc,h⟩
 .rw [if_neg hc] at h; cases h
noncomputable def FC (f:AM D):AM D:=f>>=fun d=>match d with
 | .py (.str y)=>if y.length<=ar then pure (.py (.str y)) else AM.fail
 | _=>AM.fail
noncomputable def mL (f:AM D):AM D:=f>>=fun d=>match d with
 | .py (.int i)=>if i.natAbs.log2 < 1920/\(Str.ofString (toString i)).length<=ar then pure (.py (.str (Str.ofString (toString i)))) else AM.fail
 | _=>AM.fail
theorem Cc {value:Expr} {pos:Pos} {f:AM D} (h:a9 x value f):a9 x (.FormattedValue value (-1) none pos) (FC f):=fun P=>by
 rw [arm_eval_FormattedValue];refine (h P).bind fun v d=>Sim.at ?_;intro ρ σ l s r st' e hs hp;have rv:Rep s.heap l v d:=hp.2;refine wpAny_bind (wpAny_holding (wpAny_pure ?_));show wpAny _ _ (formatField v Str.empty) _ _ _;cases rv with
 | py rv=>cases rv with
  | str y t=>
   obtain ⟨hz,e⟩:=mm e;obtain ⟨rfl,rfl⟩:=kD e;exact wpAny_formatField_str ⟨_,l,rfl,hs,.refl ..,.py (.str _ _)⟩ ⟨_,l,rfl,hs.toks _,.refl ..,.py (.str _ _)⟩ (bD hz)
  | _=>cases e
 | _=>cases e
theorem lJ {value:Expr} {pos:Pos} {f:AM D} (h:a9 x value f):a9 x (.FormattedValue value 114 none pos) (mL f):=fun P=>by
 rw [arm_eval_FormattedValue];refine (h P).bind fun v d=>Sim.at ?_;intro ρ σ l s r st' e hs hp;have rv:Rep s.heap l v d:=hp.2;cases rv with
 | py rv=>cases rv with
  | int i t=>
   obtain ⟨hz,e⟩:=mm e;obtain ⟨rfl,rfl⟩:=kD e;refine wpAny_bind (wpAny_holding (pyReprObj_int hz.1 ?_));show wpAny _ _ (formatField (.str (Str.ofString (toString i)) s.toks) Str.empty) _ _ _;exact wpAny_formatField_str ⟨_,l,rfl,hs.toks _,.refl ..,.py (.str _ _)⟩ ⟨_,l,rfl,hs.toks _,.refl ..,.py (.str _ _)⟩ (bD hz.2)
  | _=>cases e
 | _=>cases e
theorem AE {v:Expr} {pos:Pos} {f:AM D} (h:a9 x v f):a9 x (.JoinedStr [v] pos) f:=fun P=>by rw [arm_eval_JoinedStr]; exact h P
noncomputable def jO:List (AM D)->Str->AM D
 | [],acc=>pure (.py (.str acc))
 | f::fs,acc=>f>>=fun d=>match d with
  | .py (.str y)=>if (acc++y).length<=ar then jO fs (acc++y) else AM.fail
  | _=>AM.fail
inductive cj (x:Ctx):List Expr->List (AM D)->Prop
 | nil:cj x [] []
 | cons {e es f fs}:a9 x e f->cj x es fs->cj x (e::es) (f::fs)
theorem cj.join {es:List Expr} {fs:List (AM D)} (h:cj x es fs):∀ (P:MP) (acc:Str),acc.length<=ar->Sim x P MP.rep (joinParts acc (evalEach es x.env)) (jO fs acc):=by
 induction h with
 | nil=>
  intro P acc hz ρ σ l s r st' e hs hp;obtain ⟨rfl,rfl⟩:=kD e;show wpAny _ _ (mkStr acc) _ _ s;exact wpAny_mkStr ⟨_,l,rfl,hs.toks _,.refl ..,.py (.str _ _)⟩ (bD hz)
 | @cons e0 es f fs h1 _ ih=>
  intro P acc hz;show Sim x P MP.rep (joinParts acc (eval e0 x.env::evalEach es x.env)) (jO (f::fs) acc);rw [joinParts];refine (h1 P).bind fun v d=>?_;intro ρ σ l s r st' e hs hp;have rv:Rep s.heap l v d:=hp.2;cases rv with
  | py rv=>cases rv with
   | str y t=>
    obtain ⟨hy,e⟩:=mm e;have hz':¬ (acc.length+y.length > sizeLine):=by rw [← strLen_append]; exact Nat.not_lt.mpr (bD hy)
    refine wpAny_bind (wpAny_pure ?_);show wpAny x.c.M x.A (if acc.length+y.length > sizeLine then _ else _) _ _ s;rw [if_neg hz']
    first
     | exact ih P (acc++y) hy ρ σ l s r st' e hs hp.1
     | exact wpAny_bind (wpAny_pure (ih P (acc++y) hy ρ σ l s r st' e hs hp.1))
   | _=>cases e
  | _=>cases e
theorem ml {v₁ v₂:Expr} {rest:List Expr} {pos:Pos} {fs:List (AM D)} (h:cj x (v₁::v₂::rest) fs):a9 x (.JoinedStr (v₁::v₂::rest) pos) (jO fs Str.empty):=fun P=>by
 rw [arm_eval_JoinedStr];exact h.join P Str.empty (by decide)
end
section
variable {prog:Program} {w:World} {A:Around} {E:Value->Shared->Prop} {s:Shared} {a:Addr} {Q:Value->Shared->Prop}
noncomputable abbrev mx (T id:String) (self:Value):Obj:={cls:=.type T,data:=.fields #[.builtin id,self]}
theorem j5:Slot "list" "__getattribute__" "list.__getattribute__" :=
 .of (owner:= "list") (n:= "__getattribute__") (by rw [typeLookup_type,builtinLookup_eq_fast]; kernel_rfl) (by decide +kernel) (by decide +kernel) (by decide +kernel)
  (by first | exact .inl (by decide +kernel) | exact .inr (by decide +kernel)) (by rw [isSubtype_type]; kernel_rfl)
theorem rA:entryFor table "list.__getattribute__" =some Builtin.«object.__getattribute__»:=entryFor_alias (id':= "object.__getattribute__") (by kernel_rfl) (by first | rfl | (unfold String.splitOn; simp +decide [String.splitOnAux])) (by decide +kernel) (by kernel_rfl)
theorem tT (a b:Value):argsOk "list.__getattribute__" ⟨[a,b],[]⟩:=by unfold argsOk; kernel_rfl
theorem oz:Slot "method_descriptor" "__get__" "method_descriptor.__get__" :=
 .of (owner:= "method_descriptor") (n:= "__get__") (by rw [typeLookup_type,builtinLookup_eq_fast]; kernel_rfl) (by decide +kernel) (by decide +kernel) (by decide +kernel)
  (by first | exact .inl (by decide +kernel) | exact .inr (by decide +kernel)) (by rw [isSubtype_type]; kernel_rfl)
theorem sY:entryFor table "method_descriptor.__get__" =some Builtin.«method_descriptor.__get__»:=entryFor_of_tree (by kernel_rfl)
theorem uX (a b c:Value):argsOk "method_descriptor.__get__" ⟨[a,b,c],[]⟩:=by unfold argsOk; kernel_rfl
theorem be {α:Type} {M:Model} {A:Around} {t t':Sem α} {Q:α->Shared->Prop} {E:Value->Shared->Prop} {s:Shared} (e:t=t') (h:wpAny M A t' Q E s):wpAny M A t Q E s:=e▸h
theorem mZ {M:Model} {h:Heap} {a:Addr} {T:String} {da:Data} {sl:Array (Option Value)} {nm:Str} (ho:h.get? a=some ⟨.type T,none,da,sl⟩) (hk:∀ c,da≠.cls c):Looks M h (inOwnDict nm (.ref a)) none:=by
 intro A Q E s k q;unfold inOwnDict Builtin.ObjectAttr.ownDict;refine wpAny_bind (wpAny_bind (wpAny_loadPart (k _ _ ho) ?_))
 have body:wpAny M A (instanceDict a false) (fun d s'=>wpAny M A (inDict nm d) Q E s') E s:=by
  unfold instanceDict;refine wpAny_bind (wpAny_loadPart (k _ _ ho) ?_);exact wpAny_pure (wpAny_pure q)
 cases da <;> first | exact body | exact absurd rfl (hk _)
theorem xh {o:Obj} (ho:s.heap.get? a=some o) (hc:o.cls=.type "list") (hd:o.dict=none) (hk:∀ c,o.data≠.cls c)
  (h:Q (.ref s.heap.objs.size) {s with heap:=s.heap.push (mx "builtin_function_or_method" "list.append" (.ref a)),toks:=s.toks+1}):
  wpAny (model prog w) A (getAttr (.ref a) (Str.o "append") true) Q E s:=by
 obtain ⟨hh,g,d,tk,os⟩:=s;obtain ⟨oc,odi,da,sl⟩:=o;dsimp only at ho hc hd hk;subst hc hd;have T7:Looks (model prog w) hh (inOwnDict (Str.o "append") (.ref a)) none:=mZ ho hk;have T0:Looks (model prog w) hh (typeOf (.ref a)) (.type "list"):=(Looks.ld ho).andThen .now;have T1:Looks (model prog w) hh (typeLookup (.type "list") "__getattribute__") (some (.builtin "list.__getattribute__")):=Looks.of_pure j5.lookup;have T2:Looks (model prog w) hh (typeLookup (.type "list") (Str.o "append")) (some (.builtin "list.append")):=Looks.of_pure PySem.F.slot_list_append.lookup;have T3:Looks (model prog w) hh (typeOf (.builtin "list.append")) (.type "method_descriptor"):=Looks.of_pure PySem.F.type_list_append;have T4:Looks (model prog w) hh (typeLookup (.type "method_descriptor") "__get__") (some (.builtin "method_descriptor.__get__")):=Looks.of_pure oz.lookup;have T8:Looks (model prog w) hh (isSubtype (.type "list") (.type "list")) true:=Looks.of_pure (by rw [isSubtype_type]; kernel_rfl);have T5:Looks (model prog w) hh (typeLookup (.type "method_descriptor") "__set__") none:=Looks.of_pure (by rw [typeLookup_type,builtinLookup_eq_fast]; kernel_rfl);have T6:Looks (model prog w) hh (typeLookup (.type "method_descriptor") "__delete__") none:=Looks.of_pure (by rw [typeLookup_type,builtinLookup_eq_fast]; kernel_rfl);unfold getAttr getAttrBy;refine wpAny_bind (wpAny_mkText (wpAny_holding (wpAny_bind (T0.at (wpAny_bind (T1.at ?_))))));show wpAny _ _ (getAttrByItsOwn _ _ _ _ _ _) _ _ _;unfold getAttrByItsOwn;refine wpAny_bind (wpAny_pure ?_);refine wpAny_bind (wpAny_attempt (wpAny_holding ?_));show wpAny _ _ (boundAndCalled _ _ _) _ _ _;unfold boundAndCalled;rw [j5.bind];refine wpAny_bind (wpAny_pure ?_);refine wpAny_call_entry j5 ⟨_,ho,rfl⟩ rA ?_ (tT _ _);unfold Builtin.«object.__getattribute__»;refine wpAny_bind (wpAny_of_eq (a:=(.ref a,[.str (Str.o "append") tk])) (by first | rfl | kernel_rfl) ?_);refine wpAny_bind (wpAny_of_eq (a:=Str.o "append") (by first | rfl | kernel_rfl) ?_);refine wpAny_bind (T0.at ?_);refine wpAny_bind ?_;unfold find;refine wpAny_bind (T2.at (wpAny_bind ?_));show wpAny _ _ (specialOf _ _) _ _ _;unfold specialOf;refine wpAny_bind (T3.at (T4.at (wpAny_bind ?_)));show wpAny _ _ (takesStores _>>=_) _ _ _;unfold takesStores specialOf;refine wpAny_bind (wpAny_bind (wpAny_bind (T3.at (T5.at ?_))));refine wpAny_bind (wpAny_bind (T3.at (T6.at ?_)));refine wpAny_pure (wpAny_pure ?_);show wpAny _ _ (ownThenClass _ _ _ _) _ _ _;unfold ownThenClass;refine wpAny_bind (T7.at ?_);refine wpAny_bind (wpAny_of_eq (a:=()) (by first | rfl | kernel_rfl) ?_);show wpAny _ _ (rule _>>=_) _ _ _;refine wpAny_bind (wpAny_rule (wpAny_pure ?_));show wpAny _ _ (holding _ (call _ _)>>=fun v=>ret v) _ _ _;refine wpAny_bind (wpAny_holding ?_);refine wpAny_call_entry oz (show typeOf (.builtin "list.append")=pure (.type "method_descriptor") from PySem.F.type_list_append) sY ?_ (uX _ _ _);unfold Builtin.«method_descriptor.__get__»;refine wpAny_bind (wpAny_of_eq (a:=(.builtin "list.append",some (.ref a),some (.type "list"))) (by first | rfl | kernel_rfl) ?_);dsimp only;refine be (t':=_) (if_neg (by decide +kernel)) ?_;refine wpAny_bind ?_
 k_delta "checkInstance"
 refine wpAny_bind (wpAny_of_eq (a:=(Str.o "append",.type "list")) (by kernel_rfl) ?_);dsimp only;unfold isInstance;refine wpAny_bind (wpAny_bind (T0.at (T8.at ?_)));refine be (t':=_) (if_neg (by decide)) (wpAny_pure ?_);refine wpAny_bind (wpAny_newObj_type ?_);exact wpAny_pure ⟨_,rfl,wpAny_pure ⟨_,rfl,wpAny_pure h⟩⟩
end
section
variable {prog:Program} {w:World} {A:Around} {E:Value->Shared->Prop} {s:Shared} {a:Addr} {Q:Value->Shared->Prop}
theorem lN:Slot "list_iterator" "__getattribute__" "object.__getattribute__" :=
 .of (owner:= "object") (n:= "__getattribute__") (by rw [typeLookup_type,builtinLookup_eq_fast]; kernel_rfl) (by decide +kernel) (by decide +kernel) (by decide +kernel)
  (by first | exact .inl (by decide +kernel) | exact .inr (by decide +kernel)) (by rw [isSubtype_type]; kernel_rfl)
theorem vN:entryFor table "object.__getattribute__" =some Builtin.«object.__getattribute__»:=entryFor_of_tree (by kernel_rfl)
theorem wY (a b:Value):argsOk "object.__getattribute__" ⟨[a,b],[]⟩:=by unfold argsOk; kernel_rfl
theorem my:typeOf (.builtin "list_iterator.__next__")=pure (.type "wrapper_descriptor"):=by show builtinType _=_; rw [builtinType_eq_fast]; kernel_rfl
theorem oP:Slot "wrapper_descriptor" "__get__" "wrapper_descriptor.__get__" :=
 .of (owner:= "wrapper_descriptor") (n:= "__get__") (by rw [typeLookup_type,builtinLookup_eq_fast]; kernel_rfl) (by decide +kernel) (by decide +kernel) (by decide +kernel)
  (by first | exact .inl (by decide +kernel) | exact .inr (by decide +kernel)) (by rw [isSubtype_type]; kernel_rfl)
theorem s8:entryFor table "wrapper_descriptor.__get__" =some Builtin.«wrapper_descriptor.__get__»:=entryFor_of_tree (by kernel_rfl)
theorem uF (a b c:Value):argsOk "wrapper_descriptor.__get__" ⟨[a,b,c],[]⟩:=by unfold argsOk; kernel_rfl
theorem Bp {o:Obj} (ho:s.heap.get? a=some o) (hc:o.cls=.type "list_iterator") (hd:o.dict=none) (hk:∀ c,o.data≠.cls c)
  (h:Q (.ref s.heap.objs.size) {s with heap:=s.heap.push (mx "method-wrapper" "list_iterator.__next__" (.ref a)),toks:=s.toks+1}):
  wpAny (model prog w) A (getAttr (.ref a) (Str.o "__next__") true) Q E s:=by
 obtain ⟨hh,g,d,tk,os⟩:=s;obtain ⟨oc,odi,da,sl⟩:=o;dsimp only at ho hc hd hk;subst hc hd;have T7:Looks (model prog w) hh (inOwnDict (Str.o "__next__") (.ref a)) none:=mZ ho hk;have T0:Looks (model prog w) hh (typeOf (.ref a)) (.type "list_iterator"):=(Looks.ld ho).andThen .now;have T1:Looks (model prog w) hh (typeLookup (.type "list_iterator") "__getattribute__") (some (.builtin "object.__getattribute__")):=Looks.of_pure lN.lookup;have T2:Looks (model prog w) hh (typeLookup (.type "list_iterator") (Str.o "__next__")) (some (.builtin "list_iterator.__next__")):=Looks.of_pure slot_listiter_next.lookup;have T3:Looks (model prog w) hh (typeOf (.builtin "list_iterator.__next__")) (.type "wrapper_descriptor"):=Looks.of_pure my;have T4:Looks (model prog w) hh (typeLookup (.type "wrapper_descriptor") "__get__") (some (.builtin "wrapper_descriptor.__get__")):=Looks.of_pure oP.lookup;have T8:Looks (model prog w) hh (isSubtype (.type "list_iterator") (.type "list_iterator")) true:=Looks.of_pure (by rw [isSubtype_type]; kernel_rfl);have T5:Looks (model prog w) hh (typeLookup (.type "wrapper_descriptor") "__set__") none:=Looks.of_pure (by rw [typeLookup_type,builtinLookup_eq_fast]; kernel_rfl);have T6:Looks (model prog w) hh (typeLookup (.type "wrapper_descriptor") "__delete__") none:=Looks.of_pure (by rw [typeLookup_type,builtinLookup_eq_fast]; kernel_rfl);unfold getAttr getAttrBy;refine wpAny_bind (wpAny_mkText (wpAny_holding (wpAny_bind (T0.at (wpAny_bind (T1.at ?_))))));show wpAny _ _ (getAttrByItsOwn _ _ _ _ _ _) _ _ _;unfold getAttrByItsOwn;refine wpAny_bind (wpAny_pure ?_);refine wpAny_bind (wpAny_attempt (wpAny_holding ?_));show wpAny _ _ (boundAndCalled _ _ _) _ _ _;unfold boundAndCalled;rw [lN.bind];refine wpAny_bind (wpAny_pure ?_);refine wpAny_call_entry lN ⟨_,ho,rfl⟩ vN ?_ (wY _ _);unfold Builtin.«object.__getattribute__»;refine wpAny_bind (wpAny_of_eq (a:=(.ref a,[.str (Str.o "__next__") tk])) (by first | rfl | kernel_rfl) ?_);refine wpAny_bind (wpAny_of_eq (a:=Str.o "__next__") (by first | rfl | kernel_rfl) ?_);refine wpAny_bind (T0.at ?_);refine wpAny_bind ?_;unfold find;refine wpAny_bind (T2.at (wpAny_bind ?_));show wpAny _ _ (specialOf _ _) _ _ _;unfold specialOf;refine wpAny_bind (T3.at (T4.at (wpAny_bind ?_)));show wpAny _ _ (takesStores _>>=_) _ _ _;unfold takesStores specialOf;refine wpAny_bind (wpAny_bind (wpAny_bind (T3.at (T5.at ?_))));refine wpAny_bind (wpAny_bind (T3.at (T6.at ?_)));refine wpAny_pure (wpAny_pure ?_);show wpAny _ _ (ownThenClass _ _ _ _) _ _ _;unfold ownThenClass;refine wpAny_bind (T7.at ?_);refine wpAny_bind (wpAny_of_eq (a:=()) (by first | rfl | kernel_rfl) ?_);show wpAny _ _ (rule _>>=_) _ _ _;refine wpAny_bind (wpAny_rule (wpAny_pure ?_));show wpAny _ _ (holding _ (call _ _)>>=fun v=>ret v) _ _ _;refine wpAny_bind (wpAny_holding ?_);refine wpAny_call_entry oP (show typeOf (.builtin "list_iterator.__next__")=pure (.type "wrapper_descriptor") from my) s8 ?_ (uF _ _ _);unfold Builtin.«wrapper_descriptor.__get__»;refine wpAny_bind (wpAny_of_eq (a:=(.builtin "list_iterator.__next__",some (.ref a),some (.type "list_iterator"))) (by first | rfl | kernel_rfl) ?_);dsimp only;show wpAny _ _ (_>>=_) _ _ _;refine wpAny_bind ?_
 k_delta "checkInstance"
 refine wpAny_bind (wpAny_of_eq (a:=(Str.o "__next__",.type "list_iterator")) (by kernel_rfl) ?_);dsimp only;unfold isInstance;refine wpAny_bind (wpAny_bind (T0.at (T8.at ?_)));refine be (t':=_) (if_neg (by decide)) (wpAny_pure ?_);refine wpAny_bind (wpAny_newObj_type ?_);exact wpAny_pure ⟨_,rfl,wpAny_pure ⟨_,rfl,wpAny_pure h⟩⟩
theorem lI {o:Obj} {id:String} {self:Value} {rest:Array Value} {vs:List Value} {B:Builtin} {b:Addr} (ho:s.heap.get? b=some o) (hc:o.cls=.type "builtin_function_or_method" \/o.cls=.type "method-wrapper") (hd:o.data=.fields (#[.builtin id,self]++rest))
  (hck:wpAny (model prog w) (A.under (.call (.ref b) ⟨vs,[]⟩)) (checkBoundCall id ⟨self::vs,[]⟩) (fun _ s'=>s'=s) (fun _ _=>False) s) (hp:plainId id=true) (hb:entryFor table id=some B)
  {S:PySem.Spec} (g:Meets (B ⟨self::vs,[]⟩) S) (h:S A (wants Q E) s):wpAny (model prog w) A (PySem.call (.ref b) vs []) Q E s:=by
 refine wpAny_call (codeAny_of_tree ?_);show wpAny _ _ (callAny (.ref b) _) _ _ _;unfold callAny;refine wpAny_bind (wpAny_load ho ?_);rw [hd];dsimp only;have h0:(#[Value.builtin id,self]++rest)[0]?=some (.builtin id):=by rw [Array.getElem?_append_left (by show 0 < 2; decide)]; rfl
 have h1:(#[Value.builtin id,self]++rest)[1]?=some self:=by rw [Array.getElem?_append_left (by show 1 < 2; decide)]; rfl
 have hcc:(o.cls==.type "method" ||o.cls==.type "builtin_function_or_method" ||o.cls==.type "method-wrapper")=true:=by
  rcases hc with e | e <;> rw [e] <;> decide
 have hnm:(o.cls !=.type "method")=true:=by rcases hc with e | e <;> rw [e] <;> decide
 refine be (if_pos hcc) ?_;rw [h0,h1];dsimp only;refine be (if_pos hnm) ?_;refine wpAny_bind (wpAny_mono hck (fun _ s' e=>?_) fun _ _ e=>e.elim);subst e;refine wpAny_pure ⟨plainId_quiet hp _,codeAny_builtin hb ?_⟩;rw [Around.under_plainId hp _];exact g prog w A (wants Q E) _ h
end
noncomputable def O.iter?:O->Option (Nat×Nat)
 | .iter n k=>some (n,k)
 | _=>none
noncomputable def O.bound?:O->Option (String×Nat)
 | .bound T n=>some (T,n)
 | _=>none
theorem O.iter?_some {o:O} {q:Nat×Nat} (e:o.iter?=some q):o=.iter q.1 q.2:=by
 cases o with
 | iter _ _=>cases e; rfl
 | _=>cases e
theorem O.bound?_some {o:O} {q:String×Nat} (e:o.bound?=some q):o=.bound q.1 q.2:=by
 cases o with
 | bound _ _=>cases e; rfl
 | _=>cases e
noncomputable def vT {α:Type} (f:O->Option α) (g:Nat->α->O) (d:D):AM D:=fun st=>(d.obj?.bind fun n=>(st.σ[n]?.bind f).map (g n)).map fun o=>(.ok (.obj st.σ.length),⟨st.ρ,st.σ++[o]⟩)
theorem pN {α:Type} {f:O->Option α} {g:Nat->α->O} {d:D} {ρ:aq} {σ:List O} {r:Except Value D} {st':ASt} (e:vT f g d ⟨ρ,σ⟩=some (r,st')):∃ n o a,d=.obj n/\σ[n]?=some o/\f o=some a/\r=.ok (.obj σ.length)/\st'=⟨ρ,σ++[g n a]⟩:=by
 obtain ⟨o2,h,e⟩:=Option.map_eq_some_iff.mp e;obtain ⟨n,hn,h⟩:=Option.bind_eq_some_iff.mp h;obtain ⟨a,h3,rfl⟩:=Option.map_eq_some_iff.mp h;obtain ⟨o,ho,h2⟩:=Option.bind_eq_some_iff.mp h3;cases e;exact ⟨n,o,a,dM hn,ho,h2,rfl,rfl⟩
theorem uO {α:Type} {f:O->Option α} {g:Nat->α->O} {n:Nat} {ρ:aq} {σ:List O} {o:O} {a:α} (h:σ[n]?=some o) (e:f o=some a):vT f g (.obj n) ⟨ρ,σ⟩=some (.ok (.obj σ.length),⟨ρ,σ++[g n a]⟩):=by
 show (((σ[n]?.bind f).map (g n)).map _:Option _)=_;rw [h];show ((f o).map _).map _=_;rw [e];rfl
noncomputable def ki:List D->AM D
 | [d]=>vT O.list? (fun n _=>.iter n 0) d
 | _=>AM.fail
theorem zA:builtinKind "iter" =none:=by decide +kernel
theorem wC:plainId "iter" =true:=by decide +kernel
theorem xf:entryFor table "iter" =some Builtin.«iter»:=entryFor_of_tree (by kernel_rfl)
theorem u8 (a:Value):argsOk "iter" ⟨[a],[]⟩:=by unfold argsOk; kernel_rfl
noncomputable def pI:D->AM D:=vT O.list? fun n _=>.bound "list.append" n
noncomputable def uS:D->AM D:=vT O.iter? fun n _=>.bound "list_iterator.__next__" n
noncomputable def yA (n:Nat):AM D:=fun st=>(st.σ[n]?.bind O.iter?).bind fun q=>(st.σ[q.1]?.bind O.list?).map fun ds=>match ds[q.2]? with
 | some d=>(.ok d,⟨st.ρ,st.σ.set n (.iter q.1 (q.2+1))⟩)
 | none=>(.error (.type "StopIteration"),⟨st.ρ,st.σ.set n .dead⟩)
noncomputable def yu (d:D) (ds:List D):AM D:=fun st=>((Bv st.σ d).bind O.bound?).bind fun q=>if q.1= "list.append" then cN (.obj q.2) ds st else if q.1= "list_iterator.__next__" /\ds=[] then yA q.2 st else none
theorem qN {d:D} {ds:List D} {st:ASt} {q:Except Value D×ASt} (e:yu d ds st=some q):∃ n id m,d=.obj n/\st.σ[n]?=some (.bound id m)/\(id= "list.append" /\cN (.obj m) ds st=some q\/id= "list_iterator.__next__" /\ds=[]/\yA m st=some q):=by
 obtain ⟨b,h,e⟩:=Option.bind_eq_some_iff.mp e;obtain ⟨o,ho,hb⟩:=Option.bind_eq_some_iff.mp h;obtain ⟨n,hd,hn⟩:=lg ho;rw [O.bound?_some hb] at hn;refine ⟨n,b.1,b.2,hd,hn,?_⟩;by_cases h1:b.1= "list.append"
 .rw [if_pos h1] at e; exact .inl ⟨h1,e⟩
 .rw [if_neg h1] at e;by_cases h2:b.1= "list_iterator.__next__" /\ds=[]
  .rw [if_pos h2] at e; exact .inr ⟨h2.1,h2.2,e⟩
  .rw [if_neg h2] at e; cases e
section
variable {x:Ctx}
theorem xw:eV x (.builtin "iter") ki:=kj rfl (fun _ _ _=>rfl) fun P v d hv=>by
 intro ρ σ l s r st' e hs hp;obtain ⟨n,o,es,rfl,hn,ho,rfl,rfl⟩:=pN e;obtain rfl:=O.list?_some ho;obtain ⟨p,rfl,hm⟩:=(hv _ _ hp).obj_inv;obtain ⟨us,hl,hr⟩:=hs.inv.at hn hm;refine call_function_meets (S:=fun A R s'=>s'=s/\R (.ok (.ret (.ref s.heap.objs.size))) {s with heap:=s.heap.push {cls:=.type "list_iterator",data:=.fields #[.ref p.1,.int 0 0]}}) zA wC xf (u8 _) (Meets.of_wp fun prog w A R s' h=>?_) ⟨rfl,?_⟩
 .obtain ⟨rfl,h⟩:=h;unfold Builtin.«iter»;refine wpAny_bind (wpAny_of_eq (a:=[.ref p.1]) (by first | rfl | kernel_rfl) ?_);dsimp only;exact wpAny_bind (wpAny_pyIter_list hl.isList (wpAny_pure ⟨_,rfl,h⟩))
 .obtain ⟨k1,k2,k3⟩:=hs.pushed (ob:={cls:=.type "list_iterator",data:=.fields #[.ref p.1,.int 0 0]}) (o:=.iter n 0) s.toks rfl ⟨p,_,hm,Heap.get?_push_size _ rfl,rfl,rfl,rfl⟩ rfl;exact ⟨_,_,rfl,k1,k2,k3⟩
theorem rc (P:MP) (v:Value) (d:D) (hv:∀ h l,P.p h l->Rep h l v d):Sim x P MP.rep (getAttr v (Str.o "append") true) (pI d):=by
 intro ρ σ l s r st' e hs hp;obtain ⟨n,o,es,rfl,hn,ho,rfl,rfl⟩:=pN e;obtain rfl:=O.list?_some ho;obtain ⟨p,rfl,hm⟩:=(hv _ _ hp).obj_inv;obtain ⟨us,⟨k,ho⟩,hr⟩:=hs.inv.at hn hm;obtain ⟨k1,k2,k3⟩:=hs.pushed (ob:=mx "builtin_function_or_method" "list.append" (.ref p.1)) (o:=.bound "list.append" n) (s.toks+1) rfl ⟨_,p,#[],hm,Heap.get?_push_size _ rfl,.inl rfl,rfl⟩ rfl;exact xh ho rfl rfl (fun c q=>nomatch q) ⟨_,_,rfl,k1,k2,k3⟩
theorem vJ (P:MP) (v:Value) (d:D) (hv:∀ h l,P.p h l->Rep h l v d):Sim x P MP.rep (getAttr v (Str.o "__next__") true) (uS d):=by
 intro ρ σ l s r st' e hs hp;obtain ⟨n,o,es,rfl,hn,ho,rfl,rfl⟩:=pN e;obtain rfl:=O.iter?_some ho;obtain ⟨p,rfl,hm⟩:=(hv _ _ hp).obj_inv;obtain ⟨q,o,hq,ho,h1,h2,h3⟩:=hs.inv.at hn hm;obtain ⟨k1,k2,k3⟩:=hs.pushed (ob:=mx "method-wrapper" "list_iterator.__next__" (.ref p.1)) (o:=.bound "list_iterator.__next__" n) (s.toks+1) rfl ⟨_,p,#[],hm,Heap.get?_push_size _ rfl,.inr rfl,rfl⟩ rfl;exact Bp ho h1 h2 (fun c z=>by rw [h3] at z; cases z) ⟨_,_,rfl,k1,k2,k3⟩
noncomputable def lM (f:AM D):AM D:=f>>=pI
noncomputable def kl (f:AM D):AM D:=f>>=uS
theorem me {value:Expr} {pos:Pos} {f:AM D} (hbase:attributeBase value (Str.o "append") x.env (eval value x.env)=eval value x.env) (h:a9 x value f):a9 x (.Attribute value (Str.o "append") pos) (lM f):=mf hbase h rc
theorem wR {value:Expr} {pos:Pos} {f:AM D} (hbase:attributeBase value (Str.o "__next__") x.env (eval value x.env)=eval value x.env) (h:a9 x value f):a9 x (.Attribute value (Str.o "__next__") pos) (kl f):=mf hbase h vJ
theorem tX {M:Model} {A:Around} {s:Shared} {a:Addr} {items:Array Value} {v:Value} {k:Nat} (ho:s.heap.get? a=some {cls:=.type "list",data:=.seq items k}):wpAny M A (checkBoundCall "list.append" ⟨[.ref a,v],[]⟩) (fun _ s'=>s'=s) (fun _ _=>False) s:=by
 have T0:Looks M s.heap (typeOf (.ref a)) (.type "list"):=(Looks.ld ho).andThen .now;have T1:Looks M s.heap (isSubtype (.type "list") (.type "module")) false:=Looks.of_pure (by rw [isSubtype_type]; kernel_rfl);have T2:Looks M s.heap (isSubtype (.type "list") (.type "type")) false:=Looks.of_pure (by rw [isSubtype_type]; kernel_rfl);have hkind:builtinKind "list.append" =some .method:=by decide +kernel
 have hsig:((Manifest.signature? "list.append").map fun sig=>Bind.checkArgs "list.append" {sig with full:=s!"{Bind.lastOf "list"}.{Bind.lastOf "list.append"}"} ⟨[.ref a,v],[]⟩)=some (pure ()):=by kernel_rfl
 unfold checkBoundCall;rw [hkind];cases hs:Manifest.signature? "list.append" with
 | none=>exact wpAny_pure rfl
 | some sig=>
  rw [hs] at hsig;injection hsig with hsig
  dsimp only;refine be (if_neg (by decide)) ?_;unfold isInstance isType;refine wpAny_bind (wpAny_bind (T0.here (T1.here ?_)));refine be (if_neg (by decide +kernel)) ?_;dsimp only;refine wpAny_bind (wpAny_bind (wpAny_loadPart ho (wpAny_pure ?_)));refine be (if_neg (fun h=>Bool.false_ne_true h)) ?_;refine wpAny_bind (T0.here ?_);dsimp only;exact be hsig (wpAny_pure rfl)
theorem pW {M:Model} {A:Around} {s:Shared} {v:Value}:wpAny M A (checkBoundCall "list_iterator.__next__" ⟨[v],[]⟩) (fun _ s'=>s'=s) (fun _ _=>False) s:=by
 have hkind:builtinKind "list_iterator.__next__" =some .slot:=by decide +kernel
 have hsig:((Manifest.signature? "list_iterator.__next__").map fun sig=>Bind.checkArgs "list_iterator.__next__" sig ⟨[v],[]⟩)=some (pure ()):=by kernel_rfl
 unfold checkBoundCall;rw [hkind];cases hs:Manifest.signature? "list_iterator.__next__" with
 | none=>exact wpAny_pure rfl
 | some sig=>
  rw [hs] at hsig;injection hsig with hsig
  dsimp only;refine be (if_pos (by decide)) ?_;exact be hsig (wpAny_pure rfl)
theorem zc (it l:Addr) (i:Nat) (o:Obj) (items:Array Value) (v:Value):Meets (Builtin.«list_iterator.__next__» ⟨[.ref it],[]⟩) (fun _ R s=>s.heap.get? it=some o/\o.data=.fields #[.ref l,.int i 0]/\s.heap.IsList l items/\items[i]?=some v/\
  R (.ok (.ret v)) {s with heap:=s.heap.update it (Obj.mapFields (·.setIfInBounds 1 (rawInt (i+1))))}):=by
 intro prog w A R s h;obtain ⟨ho,hd,⟨ol,hol,_,nl,hdl⟩,hx,hR⟩:=h;show wpAny _ _ (field (.ref it) 0>>=_) _ _ s;refine wpAny_bind (wpAny_field ho hd (x:=.ref l) rfl ?_);show wpAny _ _ (if (Value.ref l==Value.none)=true then _ else _) _ _ s;rw [if_neg (show ¬ ((Value.ref l==Value.none)=true) from Bool.false_ne_true)];show wpAny _ _ (field (.ref it) 1>>=_) _ _ s;refine wpAny_bind (wpAny_field ho hd (x:=.int i 0) rfl ?_);show wpAny _ _ (seqItems? (.ref l)>>=_) _ _ s;refine wpAny_bind (wpAny_seqItems hol hdl ?_);simp only [Int.toNat_natCast,hx];exact wpAny_bind (wpAny_setField ho hd (by simp) (wpAny_pure hR))
theorem B1 (it l:Addr) (i:Nat) (o:Obj) (items:Array Value):Meets (Builtin.«list_iterator.__next__» ⟨[.ref it],[]⟩) (fun A R s=>A.handled=none/\s.heap.get? it=some o/\o.data=.fields #[.ref l,.int i 0]/\s.heap.IsList l items/\items[i]?=none/\
  ∀ h' e,(∀ b ob,(s.heap.update it (Obj.mapFields (·.setIfInBounds 0 Value.none))).get? b=some ob->h'.get? b=some ob)->(s.heap.update it (Obj.mapFields (·.setIfInBounds 0 Value.none))).get? e=none->
   (∃ ob vs a0,h'.get? e=some ob/\ob.cls=.type "StopIteration" /\ob.data=.fields vs/\vs[0]?=some a0/\vs[1]?=some .none)->R (.error (.ref e)) {s with heap:=h'}):=by
 intro prog w A R s h;obtain ⟨hh,ho,hd,⟨ol,hol,_,nl,hdl⟩,hx,hR⟩:=h;show wpAny _ _ (field (.ref it) 0>>=_) _ _ s;refine wpAny_bind (wpAny_field ho hd (x:=.ref l) rfl ?_);show wpAny _ _ (if (Value.ref l==Value.none)=true then _ else _) _ _ s;rw [if_neg (show ¬ ((Value.ref l==Value.none)=true) from Bool.false_ne_true)];show wpAny _ _ (field (.ref it) 1>>=_) _ _ s;refine wpAny_bind (wpAny_field ho hd (x:=.int i 0) rfl ?_);show wpAny _ _ (seqItems? (.ref l)>>=_) _ _ s;refine wpAny_bind (wpAny_seqItems hol hdl ?_);simp only [Int.toNat_natCast,hx];refine wpAny_bind (wpAny_rule (wpAny_bind (wpAny_setField ho hd (by simp) ?_)));show wpAny _ _ (newExc (.type "StopIteration") []>>=_) _ _ _;refine wpAny_bind ?_;simp only [newExc,newTuple];refine wpAny_bind (wpAny_newObj_type ?_ (by size_fits));refine wpAny_bind (m:=firstArgMember _ _) (wpAny_of_eq (a:=Value.none) (by first | rfl | (simp only [firstArgMember]; rfl)) ?_);refine wpAny_newObj_type ?_ (by size_fits);unfold raiseNew;refine wpAny_bind (wpAny_handled ?_);rw [show A.in1.handled=none from hh];refine wpAny_bind (wpAny_pure (wpAny_throw ?_));refine hR _ _ (fun b ob e=>Heap.get?_push_of_some _ (Heap.get?_push_of_some _ e)) ?_ ⟨_,_,_,Heap.get?_push_size _ rfl,rfl,rfl,rfl,rfl⟩;exact Heap.get?_none_of_le (by rw [Heap.size_push]; exact Nat.le_succ _)
noncomputable def fy (f:AM D) (g:AM (List D)):AM D:=f>>=fun d=>g>>=fun ds=>yu d ds
section
variable {ρ:aq} {σ:List O} {l:Lay} {s:Shared} {r:Except Value D} {st':ASt} {b:Addr} {q:Addr×Addr} {m:Nat}
structure xQ (h:Heap) (b:Addr) (id:String) (a:Addr):Prop where
 at_:∃ ox rest,h.get? b=some ox/\(ox.cls=.type "builtin_function_or_method" \/ox.cls=.type "method-wrapper")/\ox.data=.fields (#[.builtin id,.ref a]++rest)
theorem ug {vs:List Value} {ds:List D} (hs:St x ρ σ l s) (hB:xQ s.heap b "list.append" q.1) (hq:l.mu[m]?=some q) (rv:au s.heap l vs ds) (e:cN (.obj m) ds ⟨ρ,σ⟩=some (r,st')):wpAny x.c.M x.A (PySem.call (.ref b) vs []) (OkQ x MP.rep l s.heap r st') (ErQ x l s.heap r st') s:=by
 obtain ⟨ox,rest,ho,hcls,hdat⟩:=hB.at_;obtain ⟨u,rfl⟩:∃ u,ds=[u]:=by
  rcases ds with _ | ⟨u,_ | ⟨_,_⟩⟩
  .cases (show (none:Option (Except Value D×ASt))=some (r,st') from e)
  .exact ⟨u,rfl⟩
  .cases (show (none:Option (Except Value D×ASt))=some (r,st') from e)
 obtain ⟨w,rfl,rw_⟩:=rv.one;obtain ⟨_,es,t,e1,hn,ht,rfl,rfl⟩:=Bw (d:=.obj m) (f:=fun es=>if es.length<=ar then some (es++[u],.py .none) else none) e;cases e1;obtain ⟨hz,rfl⟩:=bb ht;obtain ⟨us,hl,hr⟩:=hs.inv.at hn hq;have z:=(Array.length_toList).symm.trans hr.length;obtain ⟨k,hol⟩:=id hl;refine lI ho hcls hdat (tX hol) PySem.F.slot_list_append.plain PySem.F.entry_list_append (PySem.AutoListH.list_append_list_val_0 q.1 us k w (by rw [z]; exact bD hz)) ⟨hol,?_⟩;obtain ⟨k1,k2⟩:=hs.setList (ds':=es++[u]) hn hq s.toks (PlainList.update hl (fun its=>its.push w)) (Heap.SameBut.update ..) fun la=>by
  rw [Array.toList_push];exact au.append (.cons (rw_.later la) .nil) (hr.later la)
 exact ⟨_,l,rfl,k1,k2,.py .none⟩
theorem St.setIter (hs:St x ρ σ l s) {n src k:Nat} {oi:Obj} {vs:Array Value} (hn:σ[n]?=some (.iter src k)) (hm:l.mu[n]?=some q) (hoi:s.heap.get? q.1=some oi) (i1:oi.cls=.type "list_iterator") (i3:oi.data=.fields vs) (f:Array Value->Array Value) (o':O)
  (hr:∀ ob,(s.heap.update q.1 (Obj.mapFields f)).get? q.1=some ob->ob.cls=.type "list_iterator" ->ob.dict=oi.dict->ob.data=.fields (f vs)->kx x.c (s.heap.update q.1 (Obj.mapFields f)) l q o'):
  St x ρ (σ.set n o') l {s with heap:=s.heap.update q.1 (Obj.mapFields f)}/\bt x.c x.S x.W l s.heap l (s.heap.update q.1 (Obj.mapFields f)):=by
 have hsb:Heap.SameBut q.1 s.heap (s.heap.update q.1 (Obj.mapFields f)):=Heap.SameBut.update ..;have hself:=Heap.get?_update_self (h:=s.heap) (a:=q.1) (Obj.mapFields f) hoi (Obj.isFreed_of_fields (Obj.data_mapFields i3 _));exact hs.write (s':={s with heap:=s.heap.update q.1 (Obj.mapFields f)}) (o':=o') hn rfl hm (.one hsb ⟨_,hself⟩ (hs.inv.mlt q.2 ⟨n,q,hm,.inr rfl⟩)) rfl rfl (hr _ hself ((Obj.cls_mapFields ..).trans i1) (by cases oi; cases i3; rfl) (Obj.data_mapFields i3 _))
theorem wi (hq:x.quiet=true) (hs:St x ρ σ l s) (hB:xQ s.heap b "list_iterator.__next__" q.1) (hm:l.mu[m]?=some q) (e:yA m ⟨ρ,σ⟩=some (r,st')):wpAny x.c.M x.A (PySem.call (.ref b) [] []) (OkQ x MP.rep l s.heap r st') (ErQ x l s.heap r st') s:=by
 obtain ⟨ox,rest,ho,hcls,hdat⟩:=hB.at_;obtain ⟨⟨src,k⟩,h,e⟩:=Option.bind_eq_some_iff.mp e;obtain ⟨o,hit,h⟩:=Option.bind_eq_some_iff.mp h;rw [O.iter?_some h] at hit;obtain ⟨es,h,e⟩:=Option.map_eq_some_iff.mp e;obtain ⟨o,hsrc,h⟩:=Option.bind_eq_some_iff.mp h;rw [O.list?_some h] at hsrc;obtain ⟨pl,oi,hml,hoi,i1,i2,i3⟩:=hs.inv.at hit hm;obtain ⟨us,hl,hr⟩:=hs.inv.at hsrc hml;dsimp only at e i3;cases hdv:es[k]? with
 | some dv=>
  rw [hdv] at e;cases e;obtain ⟨v,hv1,hv2⟩:=hr.get hdv;rw [Array.getElem?_toList] at hv1;obtain ⟨k1,k2⟩:=hs.setIter hit hm hoi i1 i3 (·.setIfInBounds 1 (rawInt ((k:Int)+1))) (.iter src (k+1)) fun ob g1 g2 g3 g4=>⟨pl,ob,hml,g1,g2,g3.trans i2,g4⟩
  exact lI ho hcls hdat pW slot_listiter_next.plain entry_listiter_next (zc q.1 pl.1 k oi us v) ⟨hoi,i3,hl.isList,hv1,⟨_,l,rfl,k1,k2,hv2.later k2.later⟩⟩
 | none=>
  rw [hdv] at e;cases e
  have hz:us[k]?=none:=by
   rw [← Array.getElem?_toList,List.getElem?_eq_none_iff,hr.length];exact List.getElem?_eq_none_iff.mp hdv
  obtain ⟨k1,k2⟩:=hs.setIter hit hm hoi i1 i3 (·.setIfInBounds 0 Value.none) .dead fun ob g1 _ _ _=>⟨ob,g1⟩
  refine lI ho hcls hdat pW slot_listiter_next.plain entry_listiter_next (B1 q.1 pl.1 k oi us) ⟨x.hquiet hq,hoi,i3,hl.isList,hz,fun h' e' hk he' hob=>?_⟩;obtain ⟨m1,m2,m3⟩:=k1.flyExc hk he' hob;exact ⟨_,l,rfl,m1,k2.trans m2,m3.before fun _=>k2.new⟩
end
theorem zF (hq:x.quiet=true) {b:Value} {vs:List Value} {P:MP} {d:D} {ds:List D} (hd:∀ h l,P.p h l->Rep h l b d) (hv:∀ h l,P.p h l->au h l vs ds):Sim x P MP.rep (PySem.call b vs []) (yu d ds):=by
 intro ρ σ l s r st' e hs hp;obtain ⟨n,T,m,rfl,hn,e2⟩:=qN e;obtain ⟨p,rfl,hm⟩:=(hd _ _ hp).obj_inv;obtain ⟨ox,q,rest,hmq,ho,ho2,ho3⟩:=hs.inv.at hn hm;have rv:=hv _ _ hp;rcases e2 with ⟨rfl,e3⟩ | ⟨rfl,rfl,e3⟩
 .exact ug hs ⟨ox,rest,ho,ho2,ho3⟩ hmq rv e3
 .obtain rfl:=rv.nil_inv;exact wi hq hs ⟨ox,rest,ho,ho2,ho3⟩ hmq e3
end
section
variable {x:Ctx}
theorem ua {σ:List O} {l:Lay} {s:Shared} {v:Value} {d:D} {ds:List D} {ρ:aq} {q:Except Value D×ASt} (i:Inv x.c σ l s.heap) (r:Rep s.heap l v d) (e:yu d ds ⟨ρ,σ⟩=some q):Looks x.c.M s.heap (keeperOf v) .machine:=by
 obtain ⟨n,id,m,rfl,hn,_⟩:=qN e;obtain ⟨p,rfl,hm⟩:=r.obj_inv;obtain ⟨ox,q,rest,hmq,ho,hcls,hdat⟩:=i.at hn hm;refine (Looks.ld (part:=none) ho).andThen ?_;rw [hdat];dsimp only;rcases hcls with e | e <;> rw [e] <;> exact Looks.of_pure rfl
theorem fF {func:Expr} {pos:Pos} {args:List Expr} {f:AM D} {g:AM (List D)} (hq:x.quiet=true) (harm:eval (.Call func args [] pos) x.env=(eval func x.env>>=fun v=>callWith pos v [] (backTo pos (starEach args x.env)) []))
  (h:a9 x func f) (ha:f6 x args g):a9 x (.Call func args [] pos) (fy f g):=fun P=>by
 rw [harm];refine (h P).bind fun v d=>?_;exact fun ρ σ l s r st' e hs hp=>gl (first:=[]) (ha (P.and (MP.rep v d)) v pos) e hs hp (fun vs ds ρ1 σ1 l1 s1 e2 hs1 st1 rvs=>
  have rv:Rep s1.heap l1 v d:=hp.2.later st1.later
  ⟨⟨.machine,.inr (.inl rfl),ua hs1.inv rv e2⟩,wpAny_mono (zF (P:=(MP.rep v d).and (MP.reps vs ds)) hq (fun h l q=>q.1) (fun h l q=>q.2) _ _ _ _ _ _ e2 hs1 ⟨rv,rvs⟩) (fun _ _ q=>q.from st1) fun _ _ q=>q.from st1⟩) fun _ _ q=>q
theorem gn {n:Str} {p pos:Pos} {args:List Expr}:eval (.Call (.Name n p) args [] pos) x.env=(eval (.Name n p) x.env>>=fun v=>callWith pos v [] (backTo pos (starEach args x.env)) []):=by
 rw [arm_eval_Call_Name']; rfl
theorem Ds {a b:Expr} {p pos:Pos} {args:List Expr}:eval (.Call (.Subscript a b p) args [] pos) x.env=(eval (.Subscript a b p) x.env>>=fun v=>callWith pos v [] (backTo pos (starEach args x.env)) []):=rfl
end
noncomputable def GB:Value->Option Int
 | .int i _=>some i
 | _=>none
noncomputable def yc (es:List DictEntry):Bool:=es.all fun e=>(GB e.key).any fun k=>e.hash==hashInt k
theorem z3 {prog:Program} {w:World} {K:Frag} {h:Heap} {a:Addr} {es:Array DictEntry} {n:Nat} (X:K.In h) (hl:K.lookup a=some ⟨.type "dict",none,.dict es n,#[]⟩) (hk:yc es.toList=true):h.MapOf (mix prog w) a (fun k=>findBy sQ es k):=
 ⟨_,es,n,X _ _ hl,⟨rfl,rfl,rfl⟩,rfl,(fun e he=>by
  have:=List.all_eq_true.mp hk e (Array.mem_toList_iff.mpr he);obtain ⟨k,h1,h2⟩:=any_some this;cases hkey:e.key with
  | int k t=>
   rw [hkey] at h1;cases h1;exact ⟨.i k,by show Value.isInt k (.int k t)=true; simp [Value.isInt],by rw [beq_iff_eq.mp h2]; rfl⟩
  | _=>rw [hkey] at h1; cases h1),fun _=>rfl⟩
section
variable {prog:Program} {w:World} {A:Around} {E:Value->Shared->Prop} {s:Shared} {a:Addr}
theorem yS {c:Nat} {y:Str} {t:Tok} {m:KK->Option Value} {Q:Builtin.Str.Mapped->Shared->Prop} (hm:s.heap.MapOf (mix prog w) a m) (hf:m (.i c)=some (.str y t)) (h:∀ tk,Q (.text y) {s with toks:=tk}):
  wpAny (model prog w) A (Builtin.Str.tableLookup (.ref a) c) Q E s:=by
 unfold Builtin.Str.tableLookup;refine wpAny_bind (wpAny_attempt (wpAny_bind (wpAny_mkInt ?_)));have hm':({s with toks:=s.toks+1}:Shared).heap.MapOf (mix prog w) a m:=hm;refine wpAny_getItem_of (knd:=mix prog w) (k:=.i c) (by show Value.isInt (c:Int) (.int c s.toks)=true; simp [Value.isInt]) hm' hf ?_;dsimp only;refine wpAny_bind (wpAny_of_eq (a:=none) (by first | rfl | kernel_rfl) ?_);refine wpAny_bind (wpAny_of_eq (a:=some y) (by first | rfl | kernel_rfl) ?_);exact wpAny_pure (h _)
theorem rH {c:Nat} {y:Str} {t u:Tok} {m:KK->Option Value} {Q:Value->Shared->Prop} (hc:c < 128) (hm:s.heap.MapOf (mix prog w) a m) (hf:m (.i c)=some (.str y t)) (hy:(y.length==1)=false) (hz:y.length<=sizeLine) (h:∀ tk tk',Q (.str y tk) {s with toks:=tk'}):
  wpAny (model prog w) A (PySem.call (.builtin "str.translate") [.str ⟨#[c]⟩ u,.ref a] []) Q E s:=by
 refine wpAny_call_entry PySem.F.slot_str_translate (typeIs_str _ _ _) PySem.F.entry_str_translate ?_ (PySem.F.args_str_translate_2 _ _);unfold Builtin.«str.translate»;refine wpAny_bind (wpAny_of_eq (a:=(.str ⟨#[c]⟩ u,⟨#[c]⟩,.ref a)) (by first | rfl | kernel_rfl) ?_);dsimp only;refine be (if_neg (by show ¬ ((1:Nat)==0)=true; decide)) ?_;have hall:(#[c].all fun x=>decide (x < 128))=true:=by simp [hc]
 rw [hall,show (#[c]:Array Nat)=[c].toArray from rfl,List.forIn_toArray,List.forIn_cons];refine wpAny_bind (wpAny_bind ?_);refine be (if_neg (by decide)) ?_;refine be (if_pos rfl) ?_;refine wpAny_bind (yS hm hf fun tk=>?_);dsimp only;rw [hy];refine wpAny_bind (wpAny_pure ?_);rw [Bool.false_and,if_neg (show ¬ ((false:Bool)=true) from Bool.false_ne_true)];dsimp only;refine wpAny_bind (wpAny_rule ?_);refine be (if_neg (by decide)) ?_;refine wpAny_bind (yS (s:={s with toks:=tk}) hm hf fun tk2=>?_);refine wpAny_pure ?_;dsimp only;rw [List.forIn_nil];refine wpAny_pure ?_;dsimp only;refine be (if_neg ?_) ?_
 .unfold Str.tooLong
  simpa using hz
 have hy2:({cps:=List.foldl (fun acc p=>acc++p.cps) #[] [y].reverse}:Str)=y:=by
  obtain ⟨cs⟩:=y;simp
 rw [hy2];exact wpAny_bind (wpAny_mkStr (wpAny_pure ⟨_,rfl,h _ _⟩) hz)
end
theorem vW {β:Type}:∀ {l:List (Nat×β)} {c:Nat} {z:β},l.lookup c=some z->(c,z)∈l:=by
 intro l
 induction l with
 | nil=>intro c z h; cases h
 | cons q r ih=>
  intro c z h;obtain ⟨d,y⟩:=q;rw [List.lookup_cons] at h;cases hb:c==d with
  | true=>rw [hb] at h; cases h; rw [beq_iff_eq.mp hb]; exact List.mem_cons_self
  | false=>rw [hb] at h; exact List.mem_cons_of_mem _ (ih h)
noncomputable def EO (z:Str):Option Value->Bool
 | some (.str y _)=>y==z
 | _=>false
theorem wZ {z:Str} {v:Option Value} (h:EO z v=true):∃ t,v=some (.str z t):=by
 cases v with
 | none=>cases h
 | some v=>cases v with
  | str y t=>rw [← beq_iff_eq.mp h]; exact ⟨t,rfl⟩
  | _=>cases h
inductive vx (K:Frag) (T:Addr) (tbl:List (Nat×Str)):Prop
 | mk {es n}:K.lookup T=some ⟨.type "dict",none,.dict es n,#[]⟩->yc es.toList=true->(tbl.all fun q=>decide (q.1 < 128)&&(!(q.2.length==1)&&(decide (q.2.length<=ar)&&EO q.2 (findBy sQ es (.i q.1)))))=true->vx K T tbl
noncomputable def D.ref?:D->Option Addr
 | .val (.ref a)=>some a
 | _=>none
theorem Rep.ref? {h:Heap} {l:Lay} {v:Value} {d:D} {a:Addr} (r:Rep h l v d) (e:d.ref?=some a):v=.ref a:=by
 cases r with
 | val _=>cases v with
  | ref b=>cases e; rfl
  | _=>cases e
 | _=>cases e
noncomputable def GO:List Nat->Option Nat
 | [c]=>some c
 | _=>none
theorem ze {y:Str} {c:Nat} (e:GO y.cps.toList=some c):y=⟨#[c]⟩:=by
 obtain ⟨⟨cs⟩⟩:=y;rcases cs with _ | ⟨a,_ | ⟨b,t⟩⟩
 .cases e
 .cases e; rfl
 .cases e
noncomputable def qH (T:Addr) (tbl:List (Nat×Str)) (d u:D):Option D:=d.str?.bind fun y=>u.ref?.bind fun a=>if a=T then (GO y.cps.toList).bind fun c=>(tbl.lookup c).map fun z=>.py (.str z) else none
noncomputable def qK (T:Addr) (tbl:List (Nat×Str)) (d:D):List D->AM D
 | [u]=>eA fun _=>qH T tbl d u
 | _=>AM.fail
section
variable {x:Ctx}
theorem qR {T:Addr} {tbl:List (Nat×Str)} (hk:vx x.c.K T tbl):gA x "str.translate" (qK T tbl):=iB (fun _=>rfl) (fun _ _ _ _=>rfl) fun P v d w u hv hvs=>by
 intro ρ σ l s r st' e hs hp;obtain ⟨_,ho,rfl,rfl⟩:=eN (f:=fun _=>qH T tbl d u) e;obtain ⟨y,hy,ho⟩:=Option.bind_eq_some_iff.mp ho;obtain ⟨a,ha,ho⟩:=Option.bind_eq_some_iff.mp ho;obtain ⟨rfl,ho2⟩:=gf ho;obtain ⟨c,hc,ho3⟩:=Option.bind_eq_some_iff.mp ho2;obtain ⟨z,hz,rfl⟩:=Option.map_eq_some_iff.mp ho3;obtain rfl:=ze hc;obtain ⟨t,rfl⟩:=(hv _ _ hp).str? hy;obtain rfl:=(hvs _ _ hp).ref? ha;cases hk with | mk hl h3 h4=>?_
 have h5:=List.all_eq_true.mp h4 _ (vW hz);obtain ⟨k1,h5⟩:=Bool.and_eq_true_iff.mp h5;obtain ⟨k2,h5⟩:=Bool.and_eq_true_iff.mp h5;obtain ⟨k3,h5⟩:=Bool.and_eq_true_iff.mp h5;obtain ⟨t',hf⟩:=wZ h5;exact rH (of_decide_eq_true k1) (z3 hs.inv.inK hl h3) hf (by simpa using k2) (bD (of_decide_eq_true k3)) fun tk tk'=>⟨_,l,rfl,hs.rw (s':={s with toks:=tk'}) rfl rfl rfl,.refl ..,.py (.str _ _)⟩
end
section
variable {x:Ctx}
noncomputable def D0 (σ:List O) (d:D):Option (List D×Chk):=d.obj?.bind fun n=>(σ[n]?.bind O.dict?).map fun q=>(q.2.map fun kv=>kv.2,fun _=>gx n (.dict q.1 q.2))
noncomputable def tY (d:D):AM (List D×Chk):=eA fun σ=>D0 σ d
theorem qk {I:Addr} {n ep:Nat} {kvs:List (KK×D)} (hq:x.quiet=true):Wk x (.ref I) (kvs.map fun kv=>kv.2) (fun _=>gx n (.dict ep kvs)) cw (fun a=>a=I)
  (fun k h l=>∃ p,l.mu[n]?=some p/\o5 h I "dict_valueiterator" (.fields #[.ref p.1,.int k 0,.int kvs.length 0,.int ep 0])/\cP x l h I) (fun k _ h l=>∃ p,l.mu[n]?=some p/\o5 h I "dict_valueiterator" (.fields #[.ref p.1,.int (k+1:Nat) 0,.int kvs.length 0,.int ep 0])/\cP x l h I):=
 uc (dt:=fun a k=>.fields #[.ref a,.int k 0,.int kvs.length 0,.int ep 0]) rfl (fun i r hm h2 hd Q E k=>by
  obtain ⟨vs,hl,hr⟩:=r;obtain ⟨⟨kk,d'⟩,hd2,rfl⟩:=Option.map_eq_some_iff.mp (List.getElem?_map ..▸hd);obtain ⟨v,hv,rv⟩:=hr.get hd2;rw [← hr.length] at h2 k;exact wpAny_pyNext_values_item h2 hl hv fun h' a b=>k v h' a b rv) (fun i r hm h2 Q E k=>by
  obtain ⟨vs,hl,hr⟩:=r;rw [List.length_map,← hr.length] at h2;exact wpAny_pyNext_values_end (x.hquiet hq) h2 hl (List.getElem?_eq_none_iff.mpr (Nat.le_refl _)) k) fun h2 Q E q=>wpAny_pyIter_valiter h2 q
theorem z7 {o:Expr} {apos pos:Pos} {f:AM D} (hq:x.quiet=true) (hbase:attributeBase o (Str.o "values") x.env (eval o x.env)=eval o x.env)
  (hline:(apos.endLine==pos.line)=true) (ho:a9 x o f) (hf:∀ v,foldedSetIterable (.Call (.Attribute o (Str.o "values") apos) [] [] pos) x.env v=pure v):
  oZ x (.Call (.Attribute o (Str.o "values") apos) [] [] pos) cw (f>>=tY):=⟨hf,fun ρ σ l s r st' ee hs=>by
 rw [show eval (.Call (.Attribute o (Str.o "values") apos) [] [] pos) x.env=_ from arm_eval_Call ..,hbase];refine wpAny_bind ((ho .tt).run ee hs trivial (fun v d ρ1 σ1 l1 s1 e2 hs1 st1 rv=>?_) fun _ _ q=>q);obtain ⟨⟨items,chk⟩,ho',e3⟩:=Option.map_eq_some_iff.mp e2;cases e3;obtain ⟨n,h1,h2⟩:=Option.bind_eq_some_iff.mp ho';obtain ⟨q,h3,h4⟩:=Option.map_eq_some_iff.mp h2;obtain ⟨o2,hn,h5⟩:=Option.bind_eq_some_iff.mp h3;cases h4;rw [O.dict?_some h5] at hn;obtain rfl:=dM h1;obtain ⟨p,rfl,hm⟩:=Rep.obj_inv rv;obtain ⟨vs,hl,hr⟩:=hs1.inv.at hn hm;obtain ⟨od,es,hod,hcd,hdd⟩:=id hl;refine wpAny_bind (wpAny_standAt ?_);unfold methodCall;rw [show methodCallForm (([]:List Expr).length+([]:List Keyword).length) (backTo pos (starEach [] x.env)) (backToKw pos (keywordEach [] x.env))=true from rfl];refine wpAny_bind (wpAny_holding (getMethod_builtin ⟨od,hod,hcd.1⟩ PySem.F.plainAttrs_dict PySem.F.slot_dict_values PySem.F.type_dict_values (fun a q=>by cases q; exact ⟨od,hod,hcd.2.1⟩) ?_));have hpos:methodCallPos true o x.env apos pos=pure pos:=by unfold methodCallPos; simp [hline]
 refine wpAny_bind (wpAny_of_eq hpos (gl (P:=.tt) (K:=pure) (eD .tt _ _) rfl hs1 trivial (fun us ds ρ2 σ2 l2 s2 e4 hs2 st2 rus=>?_) fun _ _ ⟨_,_,q,_,_,_⟩=>nomatch q));cases (show some (Except.ok ds,ASt.mk ρ2 σ2)=some (Except.ok [],ASt.mk ρ1 σ1) from e4);cases rus;refine ⟨df.builtin _ _ hs2.inv.base,?_⟩;have hm2:=st2.later.mu _ _ hm;obtain ⟨vs2,hl2,hr2⟩:=hs2.inv.at hn hm2;refine call_meetsIn PySem.F.slot_dict_values hl2.dictOf.typeIs PySem.F.entry_dict_values (PySem.F.args_dict_values_1 _) (meets_dict_values (mix x.c.prog x.c.w) _ (hs2.inv.notSys hm2)) ⟨⟨_,hl2.dictOf⟩,?_⟩;obtain ⟨k1,k2,_⟩:=hs2.newIter {cls:=.type "dict_values",data:=.fields #[.ref p.1]};have hl3:(s2.heap.push {cls:=.type "dict_values",data:=.fields #[.ref p.1]}).DictAt (mix x.c.prog x.c.w) p.1 vs2 q.1:=let ⟨o3,es3,h3,r3⟩:=hl2; ⟨o3,es3,Heap.get?_push_of_some _ h3,r3⟩
 refine wpAny_pyIter_values (s:={s2 with heap:=s2.heap.push {cls:=.type "dict_values",data:=.fields #[.ref p.1]}}) ⟨_,Heap.get?_push_size _ rfl,rfl,rfl⟩ hl3 ?_;obtain ⟨m1,m2,_⟩:=k1.newIter {cls:=.type "dict_valueiterator",data:=.fields #[.ref p.1,.int 0 0,.int vs2.length 0,.int q.1 0]};have st3:=st1.trans (st2.trans k2);refine ⟨_,_,l2,rfl,m1,st3.trans m2,(lf k1 rfl fun y _ z=>⟨_,_,qk (z.trans hq),fun f=>⟨p,hm2,?_,f⟩⟩).weaken st3⟩;rw [← hr2.length];exact ⟨_,Heap.get?_push_size _ rfl,rfl,rfl⟩⟩
end
theorem x9:mroOf (.type "object")=pure [.type "object"]:=by rw [mroOf_type]; kernel_rfl
theorem qo:typeLookup (.type "object") "__new__" =pure (some (.builtin "object.__new__")):=by rw [typeLookup_type,builtinLookup_eq_fast]; kernel_rfl
theorem rN:Slot "object" "__init__" "object.__init__" :=
 .of (owner:= "object") (n:= "__init__") (by rw [typeLookup_type,builtinLookup_eq_fast]; kernel_rfl) (by decide +kernel) (by decide +kernel) (by decide +kernel)
  (by first | exact .inl (by decide +kernel) | exact .inr (by decide +kernel)) (by rw [isSubtype_type]; kernel_rfl)
theorem xe:TypeCalled "object" "object.__new__" "object.__init__" :=
 ⟨by decide +kernel,by decide +kernel,⟨_,_,x9⟩,madeBy_type x9 qo (by decide +kernel),by decide +kernel,by rw [isSubtype_type]; kernel_rfl,rN⟩
theorem tO:checkTypeCall "object" ⟨[],[]⟩=pure ():=by kernel_rfl
theorem vL:checkBuiltinCall "object.__new__" ⟨[.type "object"],[]⟩=pure ():=by kernel_rfl
theorem rB:entryFor table "object.__new__" =some Builtin.«object.__new__»:=entryFor_of_tree (by kernel_rfl)
noncomputable def xP:List D->AM D
 | []=>fun st=>some (.ok (.obj st.σ.length),⟨st.ρ,st.σ++[.plain]⟩)
 | _=>AM.fail
section
variable {x:Ctx}
theorem ui:eV x (.type "object") xP:=vY (fun _ _=>rfl) fun P=>by
 intro ρ σ l s r st' e hs hp;cases (show some (Except.ok (D.obj σ.length),(⟨ρ,σ++[.plain]⟩:ASt))=some (r,st') from e);refine callType_meets (S:=fun _ R s'=>s'=s/\R (.ok (.ret (.ref s.heap.objs.size))) {s with heap:=s.heap.push {cls:=.type "object",data:=.plain}}) (Q₁:=fun obj s₁=>obj=.ref s.heap.objs.size/\s₁={s with heap:=s.heap.push {cls:=.type "object",data:=.plain}})
  xe tO vL rB F.entry_object_init (Meets.of_wp fun prog w A R s' h=>?_) ⟨rfl,rfl,rfl⟩ fun obj s₁ hq=>?_
 .obtain ⟨rfl,h⟩:=h;unfold Builtin.«object.__new__»;refine wpAny_bind (wpAny_of_eq (a:=true) (by first | rfl | kernel_rfl) ?_);refine be (if_neg (by decide)) ?_;refine be (if_neg (by decide +kernel)) ?_;refine wpAny_bind (wpAny_of_eq (a:=()) (by kernel_rfl) ?_);refine be (if_neg (by decide)) ?_;refine wpAny_bind (wpAny_of_eq (a:=none) (by kernel_rfl) ?_);dsimp only;refine wpAny_bind (wpAny_newObj_type ?_);refine be (if_neg (by decide +kernel)) ?_;exact wpAny_pure ⟨_,rfl,h⟩
 .obtain ⟨rfl,rfl⟩:=hq;refine ⟨⟨_,Heap.get?_push_size _ rfl,rfl⟩,by unfold argsOk; kernel_rfl,fun _ R s'=>R (.ok (.ret .none)) s',Meets.of_wp fun prog w A R s' h=>wpAny_pure ⟨_,rfl,h⟩,rfl,?_⟩;obtain ⟨k1,k2,k3⟩:=hs.newObj (h':=s.heap.push {cls:=.type "object",data:=.plain}) (a:=s.heap.objs.size) (o:=.plain) s.toks (fun b ob e=>Heap.get?_push_of_some _ e) (bi _) ⟨_,Heap.get?_push_size _ rfl⟩ ⟨_,Heap.get?_push_size _ rfl⟩ rfl;exact ⟨_,_,rfl,k1,k2,k3⟩
noncomputable def GP:D->Option String
 | .val (.type t)=>some t
 | _=>none
noncomputable def G9:List D->Option Str
 | [d,_]=>d.str?
 | _=>none
noncomputable def Hl:List D->Option String
 | [_,d]=>GP d
 | _=>none
noncomputable def lU (ds:List D):AM D:=if (G9 ds).isSome=true/\Hl ds=some "str" then pure (.py (.bool true)) else AM.fail
theorem tw {ds:List D} {st st':ASt} {r:Except Value D} (e:lU ds st=some (r,st')):∃ y,ds=[.py (.str y),.val (.type "str")]/\r=.ok (.py (.bool true))/\st'=st:=by
 obtain ⟨⟨h1,h2⟩,e⟩:=mm e;obtain ⟨y,h3⟩:=Option.isSome_iff_exists.mp h1
 match ds,h2,h3 with
 | [d,v],h2,h3=>
  obtain rfl:v=.val (.type "str"):=by
   cases v with
   | val v=>cases v with
    | type t=>cases h2; rfl
    | _=>cases h2
   | _=>cases h2
  obtain rfl:d=.py (.str y):=by
   cases d with
   | py p=>cases p with
    | str _=>cases h3; rfl
    | _=>cases h3
   | _=>cases h3
  exact ⟨y,rfl,kD e⟩
theorem o9:eV x (.builtin "isinstance") lU:=fun P vs ds hv=>by
 intro ρ σ l s r st' e hs hp;obtain ⟨y,rfl,rfl,rfl⟩:=tw e;obtain ⟨v1,v2,rfl,r1,r2⟩:=(hv _ _ hp).two;obtain ⟨tk,rfl⟩:=r1.str_inv;have e2:v2=.type "str" :=by cases r2; rfl
 subst e2;exact call_isinstance_yes (typeIs_str _ _ _) (by first | rfl | kernel_rfl) isSubtype_str_str ⟨_,l,rfl,hs,.refl ..,.py (.bool _)⟩
noncomputable def mi:List D->AM D
 | [d]=>fun st=>(viewL st.σ d).bind fun ds=>if ds.length<=ar then some (.ok (j7 ds),st) else none
 | _=>AM.fail
theorem v7:eV x (.type "tuple") mi:=kj rfl (fun _ _ _=>rfl) fun P v d hv=>by
 intro ρ σ l s r st' e hs hp;have rv:=hv _ _ hp;have e0:(viewL σ d).bind (fun ds=>if ds.length<=ar then some ((.ok (j7 ds):Except Value D),(⟨ρ,σ⟩:ASt)) else none)=some (r,st'):=e
 .obtain ⟨es,he,e⟩:=Option.bind_eq_some_iff.mp e0;obtain ⟨hz,e⟩:=gf e;cases e;obtain ⟨a,us,rfl,hk,hr⟩:=hs.inv.viewL rv he;have z:=hr.length;rw [Array.length_toList] at z;have hsz:us.size<=sizeLine:=by rw [z]; exact bD hz
  refine call_tuple_list (hsz:=hsz) hk fun h' hkeep=>?_;obtain ⟨k1,k2⟩:=hs.grow (s':={s with heap:=h'}) hkeep rfl rfl;obtain ⟨m1,m2⟩:=k1.push {cls:=.type "tuple",data:=.seq us} s.toks;have hf:cP x l (h'.push {cls:=.type "tuple",data:=.seq us}) h'.objs.size:=k1.free_new (bi _) ⟨_,Heap.get?_push_size _ rfl⟩;have m3:=m2.freeze (a:=h'.objs.size) (bi _);refine ⟨_,_,rfl,m1.freeze hf,k2.trans m3,?_⟩;have hobj:(h'.push {cls:=.type "tuple",data:=.seq us}).get? h'.objs.size=some {cls:=.type "tuple",data:=.seq us}:=Heap.get?_push_size _ rfl;have hr2:=hr.later (k2.trans m3).later;show Rep _ _ _ (j7 es);unfold j7;split
  .rename_i qs hqs;exact .py (.tuple (.inr rfl) hobj rfl rfl (hr2.rp hqs))
  .exact .tup (.inr rfl) hobj rfl rfl hr2
end
noncomputable def tj:List D->AM D
 | []=>fun st=>some (.ok (.obj st.σ.length),⟨st.ρ,st.σ++[.set []]⟩)
 | _=>AM.fail
noncomputable def u7 (ks:List KK) (k:KK):List KK:=if k∈ks then ks else ks++[k]
noncomputable def O.set?:O->Option (List KK)
 | .set ks=>some ks
 | _=>none
theorem O.set?_some {o:O} {ks:List KK} (e:o.set?=some ks):o=.set ks:=by
 cases o with
 | set _=>cases e; rfl
 | _=>cases e
noncomputable def mJ (d:D):List D->AM D
 | [u]=>rG (fun o=>o.set?.bind fun ks=>(ic u).bind fun k=>if ks.length<=4000 then some (.set (u7 ks k),.py .none) else none) d
 | _=>AM.fail
noncomputable def l9 (o i:D):AM Unit:=rG (fun ob=>ob.dict?.bind fun q=>(ic i).bind fun k=>if q.2.length<=ar/\(q.2.any fun kv=>decide (kv.1=k))=true then some (.dict (q.1+1) (n4 q.2 k),()) else none) o
noncomputable def xM (f g:AM D):AM aj:=f>>=fun o=>g>>=fun i=>l9 o i>>=fun _=>pure .next
section
variable {prog:Program} {w:World} {K:Type} [DecidableEq K] {knd:KeyKind prog w K} {A:Around} {E:Value->Shared->Prop} {s:Shared}
theorem uJ {d:Addr} {kvs:List (K×Value)} {k:K} {key:Value} {ep:Nat} {Q:Unit->Shared->Prop} (hkey:knd.is k key=true) (hm:s.heap.DictAt knd d kvs ep) (hth:(kvs.any fun kv=>decide (kv.1=k))=true)
  (h:∀ h',h'.DictAt knd d (PySem.without kvs k) (ep+1)->Heap.SameBut d s.heap h'->Q () {s with heap:=h',toks:=s.toks+1}) (hsz:kvs.length<=sizeLine):
  wpAny (model prog w) A (delItem (.ref d) key) Q E s:=by
 have hD:=hm.dictOf;unfold delItem
 try with_reducible refine wpAny_holding ?_
 refine wpAny_bind (wpAny_sequenceKey hD.typeIs (by decide) ?_);refine wpAny_bind (wpAny_callSpecial?_slot (name:=Str.ofString "__delitem__") hD.typeIs PySem.F.slot_dict_delitem (wpAny_call_entry PySem.F.slot_dict_delitem hD.typeIs PySem.F.entry_dict_delitem ?_ (PySem.F.args_dict_delitem_2 _ _)));unfold Builtin.«dict.__delitem__»;refine wpAny_bind ?_;unfold Builtin.Dict.dictSlotArgs;refine wpAny_bind (wpAny_notOrdered_dict hD.typeIs ?_);show wpAny _ _ (pure (Value.ref d,key)) _ _ s;refine wpAny_pure ?_;show wpAny _ _ (Builtin.Dict.takeOut d key>>=_) _ _ s;refine wpAny_bind (xH hkey hm hth (fun e h' hm' hs'=>?_) hsz);exact wpAny_bind (wpAny_letGo (wpAny_pure ⟨.none,rfl,wpAny_pure (h h' hm' hs')⟩))
end
section
variable {x:Ctx}
theorem z4:eV x (.type "set") tj:=vY (fun _ _=>rfl) fun P=>by
 intro ρ σ l s r st' e hs hp;cases (show some (Except.ok (D.obj σ.length),(⟨ρ,σ++[.set []]⟩:ASt))=some (r,st') from e);refine call_set_0 fun led=>?_;obtain ⟨k1,k2,k3⟩:=hs.newObj (h':=s.heap.push {cls:=.type "set",dict:=none,data:=.set #[] 0 (.fresh 0 0 led)}) (a:=s.heap.objs.size) (o:=.set []) s.toks (fun b ob e=>Heap.get?_push_of_some _ e) (bi _) ⟨_,Heap.get?_push_size _ rfl⟩
  ⟨_,(PyProof.Rows.setObjOf_fresh led).setOf (Heap.get?_push_size _ rfl) (by decide),.nil,fun k=>by simp⟩ rfl
 exact ⟨_,_,rfl,k1,k2,k3⟩
theorem Cg (ks:List KK) (k:KK):(if decide (k∈ks)=true then ks.length else ks.length+1)=(u7 ks k).length:=by
 unfold u7;by_cases h:k∈ks
 .rw [if_pos (decide_eq_true h),if_pos h]
 .rw [if_neg (fun z=>h (of_decide_eq_true z)),if_neg h,List.length_append]; rfl
theorem wu {ks:List KK} (h:ks.Nodup) (k:KK):(u7 ks k).Nodup:=by
 unfold u7;by_cases hk:k∈ks
 .rw [if_pos hk]; exact h
 .rw [if_neg hk]; exact List.nodup_append.mpr ⟨h,by simp,fun a ha b hb e=>hk (List.mem_singleton.mp hb▸e▸ha)⟩
theorem Cn {ks:List KK} {k y:KK}:y∈u7 ks k↔y=k\/y∈ks:=by
 unfold u7;by_cases hk:k∈ks
 .rw [if_pos hk]; exact ⟨.inr,fun z=>z.elim (fun e=>e▸hk) id⟩
 .rw [if_neg hk,List.mem_append,List.mem_singleton]; exact or_comm
theorem vH:gA x "set.add" mJ:=iB (fun _=>rfl) (fun _ _ _ _=>rfl) fun P v d w u hv hvs=>Sim.upd hv (fun ob q e=>by cases ob <;> first | rfl | cases e) fun {ρ σ l s p ob q} hs hp e r h2 hf {Q E} g=>by
 subst e;obtain ⟨ks,h1,h3⟩:=Option.bind_eq_some_iff.mp hf;obtain ⟨k,hk,h4⟩:=Option.bind_eq_some_iff.mp h3;obtain ⟨hz,rfl⟩:=bb h4;obtain rfl:=O.set?_some h1;obtain ⟨S,hS,hnd,hmem⟩:=r;obtain ⟨q1,q2⟩:=jY (hvs _ _ hp) hk;refine call_set_add (knd:=mix x.c.prog x.c.w) q1 q2 hS (Nat.lt_of_le_of_lt (Nat.succ_le_succ hz) (by decide)) fun h' hsb hS'=>g .none h' _ (.one hsb (let ⟨o,_,_,_,ho,_⟩:=hS'; ⟨o,ho⟩) h2) fun la=>⟨⟨_,Cg ks k▸hmem k▸hS',wu hnd k,fun y=>?_⟩,.py .none⟩
 rw [hmem y,← Bool.decide_or];exact decide_eq_decide.mpr (or_comm.trans Cn.symm)
theorem ut {P:MP} {vo vi:Value} {o i:D} (ho:∀ h l,P.p h l->Rep h l vo o) (hi:∀ h l,P.p h l->Rep h l vi i):Sim x P (fun _ _=>MP.tt) (delItem vo vi) (l9 o i):=Sim.upd ho (fun ob q e=>by cases ob <;> first | rfl | cases e) fun {ρ σ l s p ob q} hs hp e r h2 hf {Q E} g=>by
 subst e;obtain ⟨q,h1,h3⟩:=Option.bind_eq_some_iff.mp hf;obtain ⟨k,hk,h4⟩:=Option.bind_eq_some_iff.mp h3;obtain ⟨hz,rfl⟩:=bb h4;obtain rfl:=O.dict?_some h1;obtain ⟨vs,hd,hr⟩:=r;exact uJ (knd:=mix x.c.prog x.c.w) (jY (hi _ _ hp) hk).1 hd (by rw [hr.any k]; exact hz.2) (fun h' hd' hsb=>g () h' _ (.one hsb (let ⟨o,_,ho,_⟩:=hd'; ⟨o,ho⟩) h2) fun la=>⟨⟨_,hd',(hr.later la).drop⟩,trivial⟩) (by rw [hr.length]; exact bD hz.1)
theorem Cb {o i:Expr} {p pos:Pos} {f g:AM D} (h1:a9 x o f) (h2:a9 x i g):iJ x (.Delete [.Subscript o i p] pos) (xM f g):=fun P=>by
 rw [arm_exec_Delete];refine Sim.at ?_;intro ρ σ l s r st' e hs hp;refine wpAny_bind ?_;rw [arm_deleteEach_cons];refine wpAny_bind (PyProof.Rows.delete_Subscript ((h1 .tt).run e hs trivial (fun ov od ρ1 σ1 l1 s1 e1 hs1 st1 ro=>?_) fun _ _ q=>q));refine (h2 (MP.rep ov od)).run e1 hs1 ro (fun iv id ρ2 σ2 l2 s2 e2 hs2 st2 ri=>?_) fun _ _ q=>q.from st1;have st12:=st1.trans st2;refine (ut (P:=(MP.rep ov od).and (MP.rep iv id)) (fun h l q=>q.1) fun h l q=>q.2).run e2 hs2 ⟨(MP.rep ov od).mono st2.later ro,ri⟩ (fun _ _ ρ3 σ3 l3 s3 e3 hs3 st3 _=>?_) fun _ _ q=>q.from st12;obtain ⟨rfl,rfl⟩:=kD e3;exact wpAny_pure (wpAny_pure ⟨_,l3,rfl,hs3,st12.trans st3,trivial⟩)
end
noncomputable def d5:Nat:=10000
noncomputable def jd (K:Frag) (C:Addr) (n:String):Option (Addr×FuncData):=(findIn K (.ref C) (Str.o n)).bind fun o=>o.bind fun v=>(FQ v).bind (xo K)
theorem fx {K:Frag} {C:Addr} {n:String} {q:Addr×FuncData} (h:jd K C n=some q):findIn K (.ref C) (Str.o n)=some (some (.ref q.1))/\∃ oc od osl,K.lookup q.1=some ⟨oc,od,.func q.2,osl⟩:=by
 obtain ⟨o,h1,h2⟩:=Option.bind_eq_some_iff.mp h;obtain ⟨v,rfl,h3⟩:=Option.bind_eq_some_iff.mp h2;obtain ⟨f,h4,h5⟩:=Option.bind_eq_some_iff.mp h3;obtain ⟨rfl,h6⟩:=og h5;exact ⟨by rw [h1,sC h4],h6⟩
theorem A3 {c:Cx} {K:Frag} (F:aS c K) {q:Addr×FuncData} (h2:∃ oc od osl,K.lookup q.1=some ⟨oc,od,.func q.2,osl⟩) (ok:CZ K q.2=true):xy c q.1 q.2 (ci q.2):=by
 unfold CZ at ok;simp only [Bool.and_eq_true,Bool.not_eq_true',decide_eq_true_eq,List.isEmpty_iff,beq_iff_eq] at ok;obtain ⟨⟨⟨⟨⟨⟨⟨⟨h3,h4⟩,h5⟩,h6⟩,h7⟩,h8⟩,h9⟩,h10⟩,h11⟩:=ok;refine ⟨by rw [F.eqK]; exact h2,by rw [F.eqK]; exact h3,?_,h5,h6,h7,h8,h9,h10,h11⟩;unfold ci;cases hb:q.2.body with
 | stmts b=>rfl
 | _=>rw [hb] at h4; cases h4
noncomputable def EZ (ns:List (Str×NameKind)) (ps:List String):Bool:=decide ps.Nodup&&ps.all fun v=>ns.lookup (Str.o v)==some .local||ns.lookup (Str.o v)==some .cell
theorem Dl {ns:List (Str×NameKind)} {ps:List String} (e:EZ ns ps=true) {bs:aq} (h:bs.map (·.1)=ps):(bs.map (·.1)).Nodup/\∀ v∈bs.map (·.1),ns.lookup (Str.o v)=some .local\/ns.lookup (Str.o v)=some .cell:=by
 simp only [EZ,Bool.and_eq_true,decide_eq_true_eq,List.all_eq_true] at e;rw [h];refine ⟨e.1,fun v hv=>?_⟩;have:=e.2 v hv
 simpa using this
theorem cQ {c:Cx} {K:Frag} {n:Nat} {q:Addr×FuncData} {bind:List D->Option aq} {ps:List String} {fb:AM aj} (F:aS c K) (h:∃ oc od osl,K.lookup q.1=some ⟨oc,od,.func q.2,osl⟩) (ok:CZ K q.2=true) (hb:cG c n q.2 (ci q.2) fb)
  (hbind:kq c q.2 bind) (hnames:∀ ds bs,bind ds=some bs->bs.map (·.1)=ps) (hps:EZ q.2.scope.names ps=true):eS c n q.1 bind fb:=
 ⟨q.2,ci q.2,A3 F h ok,hb,hbind,fun ds bs e=>Dl hps (hnames ds bs e)⟩
theorem n7 {ps:List String} {v:String} {ds:List D} {bs:aq} (h:i4 ps v ds=some bs):bs.map (·.1)=ps++[v]:=by
 unfold i4 at h;split at h
 .obtain ⟨b0,h0,rfl⟩:=Option.map_eq_some_iff.mp h;rw [List.map_append,aZ h0]; rfl
 .cases h
noncomputable def x8 (ps:List String) (v:String) (dv:D) (ds:List D):Option aq:=(bI ps ds).map fun bs=>bs++[(v,dv)]
theorem uB {ps:List String} {v:String} {dv:D} {ds:List D} {bs:aq} (h:x8 ps v dv ds=some bs):bs.map (·.1)=ps++[v]:=by
 obtain ⟨b0,h0,rfl⟩:=Option.map_eq_some_iff.mp h;rw [List.map_append,aZ h0]; rfl
theorem wm {c:Cx} {K:Frag} {fd:FuncData} {p v:String} {dval:Value} {dv:D} {T:Addr} {o:Obj} {items:Array Value} {n:Nat} {k:Value->Option (Array Value)->Sem (List (Str×Value))} (F:aS c K) (hr:∀ h l,Rep h l dval dv) (hd:fd.defaults=.ref T) (ho:K.lookup T=some o) (hs:o.data=.seq items n)
  (h₁:∀ u:Value,bindArgs fd ⟨[u],[]⟩=seqItems? fd.defaults>>=k u) (h₂:∀ u:Value,k u (some items)=pure [(Str.o p,u),(Str.o v,dval)]):kq c fd (x8 [p] v dv):=
 zn hr (DZ (k:=fun vs=>match vs with | [u]=>k u | _=>fun _=>pure []) hd (by rw [F.eqK]; exact ho) hs (w6.of (n:=1) h₁) (w6.of (n:=1) h₂))
section
variable {x:Ctx}
theorem cD {K:Frag} {C:Addr} {nm:Str} (F:aS x.c K) (h:d7 K C nm=true):d7 x.c.K C nm=true:=by rw [F.eqK]; exact h
theorem eQ {K:Frag} {C:Addr} {nm:Str} {i:Nat} (F:aS x.c K) (h:fi K C nm i=true):fi x.c.K C nm i=true:=by rw [F.eqK]; exact h
theorem lc {K:Frag} {C:Addr} {nm:Str} {f:Addr} (F:aS x.c K) (h:fe K C nm f=true):fe x.c.K C nm f=true:=by rw [F.eqK]; exact h
theorem yJ {K:Frag} {C f:Addr} (F:aS x.c K) (h:nV K C f=true):nV x.c.K C f=true:=by rw [F.eqK]; exact h
theorem Az {K:Frag} {C:Addr} (F:aS x.c K) (h:pU K C):pU x.c.K C:=by rw [F.eqK]; exact h
theorem FG {K:Frag} {T:Addr} {tbl:List (Nat×Str)} (F:aS x.c K) (h:vx K T tbl):vx x.c.K T tbl:=by rw [F.eqK]; exact h
noncomputable def Dj (K:Frag) (n:String):Option Int:=(nsIn K mainGlobals (Str.o n)).bind fun o=>o.bind GB
theorem jJ {K:Frag} {n:String} {pos:Pos} {i:Int} (F:aS x.c K) (h:Dj K n=some i) (hk:x.env.kindOf (Str.o n)=some .globalImplicit) (hd:(Str.o n==("__debug__" :PySem.Str))=false):a9 x (.Name (Str.o n) pos) (pure (.py (.int i))):=by
 obtain ⟨o,h1,h2⟩:=Option.bind_eq_some_iff.mp h;obtain ⟨v,rfl,h3⟩:=Option.bind_eq_some_iff.mp h2;cases v with
 | int j t=>cases h3; exact tE _ (F.glob n _ h1) hk (fun h l=>.py (.int _ _)) hd
 | _=>cases h3
noncomputable def Ej (v:Value):AM D:=pure (.val v)
theorem xu {K:Frag} {n:String} {pos:Pos} {a:Addr} (F:aS x.c K) (h:nsIn K mainGlobals (Str.o n)=some (some (.ref a))) (hk:x.env.kindOf (Str.o n)=some .globalImplicit) (hd:(Str.o n==("__debug__" :PySem.Str))=false):a9 x (.Name (Str.o n) pos) (Ej (.ref a)):=
 tE _ (F.glob n _ h) hk (fun h l=>.val rfl) hd
theorem vw {n t:String} {pos:Pos} (h:xg x.c n (.type t)) (hk:x.env.kindOf (Str.o n)=some .globalImplicit) (hd:(Str.o n==("__debug__" :PySem.Str))=false):a9 x (.Name (Str.o n) pos) (Ej (.type t)):=
 tE _ h hk (fun h l=>.val rfl) hd
theorem eT {n:Str} {np cpos pos:Pos} {args:List Expr} {g:AM (List D)} (hq:x.quiet=true) (hc:gS x (.Name n np) (.type "ValueError")) (ha:f6 x args g)
  (hplain:(backTo cpos (starEach args x.env)).any (·.1)=false):iJ x (.Raise (some (.Call (.Name n np) args [] cpos)) none pos) (fW (.type "ValueError") g):=
 Au PySem.F.excCall_ValueError PySem.F.excRaise_ValueError hq hc ha hplain
end
noncomputable def jp (K:Frag) (C:Addr) (nm:Str) (f:Addr):Bool:=fe K C nm f&&specialIn K (.ref f) "__get__" ==some (some (.builtin "function.__get__"))&&takesIn K (.ref f)==some false&&!(copiedNames.contains nm)
theorem vK {K:Frag} {C f:Addr} {od:Obj} {name:Str} {g:Value} (hh:hasDictIn K C=true) (ha:findIn K (.ref C) name=some (some (.ref f))) (hg:specialIn K (.ref f) "__get__" =some (some g)) (ht:takesIn K (.ref f)=some false) (hc:copiedNames.contains name=false) (hl:lookIn name od=some none):
  findObj K C (some od) name=some (.bind g (.ref f)):=by
 obtain ⟨cd,hc',hd⟩:=any_some hh;have ho:W.ownOf cd (some od) name=some none:=by unfold W.ownOf; rw [if_pos hd]; exact hl
 unfold findObj;rw [hc',Option.bind_some,ha,Option.bind_some];show (specialIn K (.ref f) "__get__").bind _=_;rw [hg,Option.bind_some];show (takesIn K (.ref f)).bind _=_;rw [ht,Option.bind_some];show (W.ownOf cd (some od) name).bind _=_;rw [ho,Option.bind_some];show (if (copiedNames.contains name&&_)=true then _ else _)=_;rw [hc];rfl
noncomputable def O.meth?:O->Option (Addr×Nat)
 | .meth f n=>some (f,n)
 | _=>none
theorem O.meth?_some {o:O} {q:Addr×Nat} (e:o.meth?=some q):o=.meth q.1 q.2:=by
 cases o with
 | meth _ _=>cases e; rfl
 | _=>cases e
noncomputable def AV (fa:Addr) (d:D):AM Nat:=fun st=>d.obj?.map fun n=>(.ok st.σ.length,⟨st.ρ,st.σ++[.meth fa n]⟩)
noncomputable def qg (fa:Addr) (b:Nat) (k:List D->AM D) (ds:List D):AM D:=fun st=>(st.σ[b]?.bind O.meth?).bind fun q=>if q.1=fa then k (.obj q.2::ds) st else none
noncomputable def nR (C:Addr) (nm:String) (fa:Addr) (f:AM D) (g:AM (List D)) (k:List D->AM D):AM D:=f>>=fun d=>Eo C nm d>>=fun _=>AV fa d>>=fun b=>g>>=fun ds=>qg fa b k ds
section
variable {x:Ctx}
theorem u4 {o:Expr} {nm:String} {apos pos:Pos} {args:List Expr} {C fa:Addr} {f:AM D} {g:AM (List D)} {k:List D->AM D} (hbase:attributeBase o (Str.o nm) x.env (eval o x.env)=eval o x.env)
  (hfew:methodCallForm (args.length+([]:List Keyword).length) (backTo pos (starEach args x.env)) (backToKw pos (keywordEach [] x.env))=false)
  (hstar:(backTo pos (starEach args x.env)).any (·.1)=true) (hm:jp x.c.K C (Str.o nm) fa=true) (hkeep:fnIn x.c.K fa=true) (ho:a9 x o f) (ha:f6 x args g) (hk:sH x (.ref fa) k):
  a9 x (.Call (.Attribute o (Str.o nm) apos) args [] pos) (nR C nm fa f g k):=fun P=>by
 rw [show eval (.Call (.Attribute o (Str.o nm) apos) args [] pos) x.env=_ from arm_eval_Call ..,hbase];refine (ho P).bind fun ov d=>Sim.at ?_;unfold methodCall;rw [hfew];intro ρ σ l s r st' e hs hp;simp only [jp,fe,Bool.and_eq_true,beq_iff_eq,Bool.not_eq_true'] at hm;obtain ⟨⟨⟨⟨⟨⟨k1,k2⟩,k3⟩,k4⟩,k5⟩,k6⟩,k7⟩:=hm;obtain ⟨n,p,ox,od,rfl,rfl,hmu,I,hl,e2⟩:=vh hs hp.2 e;refine wpAny_bind (wpAny_holding ?_);show wpAny _ _ (getAttr (.ref p.1) (Str.o nm) true>>=fun f=>pure (f,[])) _ _ _;refine wpAny_bind (get_bind hs.inv.inK I (plainGet_of k1).1 (vK k2 k3 k5 k6 k7 hl) (plainGet_of k1).2 (wpAny_call (fn_get (s:={s with toks:=s.toks+1}) hs.inv.inK (beq_iff_eq.mp k4) (handed_on rfl ?_))));obtain ⟨m1,m2,m3⟩:=hs.pushed (ob:=methodObj (.ref fa) (.ref p.1)) (o:=.meth fa n) (s.toks+1) rfl ⟨p,hmu,Heap.get?_push_size _ rfl⟩ rfl;refine wpAny_pure (wpAny_bind (wpAny_of_eq (show methodCallPos false o x.env apos pos=pure pos by unfold methodCallPos; rfl) ?_));show wpAny _ _ (callWith pos (.ref s.heap.objs.size) [] (backTo pos (starEach args x.env)) []) _ _ _;have e3:(g>>=fun ds=>qg fa σ.length k ds) ⟨ρ,σ++[.meth fa n]⟩=some (r,st'):=e2;refine gl (P:=MP.rep (.ref s.heap.objs.size) (.obj σ.length)) (ha _ _ pos) e3 m1 m3 (fun vs ds ρ1 σ1 l1 s1 e4 hs1 st1 rv=>?_) fun _ _ q=>q.from m2;obtain ⟨⟨f',n'⟩,h1,e5⟩:=Option.bind_eq_some_iff.mp e4;obtain ⟨ob,hb,h2⟩:=Option.bind_eq_some_iff.mp h1;obtain rfl:=O.meth?_some h2;obtain ⟨hfa,e6⟩:=gf e5;obtain rfl:f'=fa:=hfa;obtain ⟨b,hbe,hmu1⟩:=(m3.later st1.later).obj_inv;obtain ⟨q,hq1,hob⟩:=hs1.inv.at hb hmu1;rw [hbe];refine ⟨⟨.boundFrame,.inr (.inr rfl),(Looks.ld (part:=none) hob).andThen ?_⟩,wpAny_call (method_call hob (codeAny_mono (hk (.ref q.1::vs) (.obj n'::ds) _ _ _ _ _ _ hs1 (.cons (.obj hq1) rv) e6) fun z s' hz=>match z,hz with
  | .ok (.ret _),hz=>OkQ.from hz (m2.trans st1)
  | .error _,hz=>ErQ.from hz (m2.trans st1)))⟩
 unfold fnIn at hkeep;cases hfn:x.c.K.lookup f' with
 | none=>rw [hfn] at hkeep; cases hkeep
 | some ob=>
  obtain ⟨oc,o1,od,osl⟩:=ob;rw [hfn] at hkeep;cases od with
  | func fd=>exact (Looks.ld (M:=x.c.M) (part:=none) (hs1.inv.inK _ _ hfn)).andThen (f:=fun o=>pure (match o.data with | .func _=>Keeper.boundFrame | _=>.caller)) .now
  | _=>cases hkeep
theorem AA {K:Frag} {C:Addr} {nm:Str} {f:Addr} (F:aS x.c K) (h:jp K C nm f=true):jp x.c.K C nm f=true:=by rw [F.eqK]; exact h
theorem EK {K:Frag} {f:Addr} (F:aS x.c K) (h:fnIn K f=true):fnIn x.c.K f=true:=by rw [F.eqK]; exact h
end
end Mine
end S4973
section S6413
open PySem PySem.W PySem.Calls PyProof.Rows
namespace Mine
theorem Aq {b:Bs} {l:Lay} {s:Shared} {n:Nat} {f:Addr} {bind:List D->Option aq} {fb:AM aj} {ps:List PyData} {p:PyData} (hn:n+1<=b.room) (hq:b.quiet=true) (hf:eS b.c n f bind fb) (hbase:b.c.base=s.heap) (hfs:b.fs=[]) (hg:s.gens=b.c.gens) (ho:s.os=b.c.os)
  (hF:∀ a,l.F a->∃ o,s.heap.get? a=some o) {vs:List Value} (rv:bA s.heap l.F vs ps) (e:kB bind fb ps=some p):
  wpAny b.c.M b.A (PySem.call (.ref f) vs []) (fun v s'=>(∃ l':Lay,Rp s'.heap l'.F v p)/\(∀ a o,s.heap.get? a=some o->s'.heap.get? a=some o)/\s'.gens=s.gens/\s'.os=s.os) (fun _ _=>False) s:=by
 obtain ⟨fd,body,h1,h2,h3,h4⟩:=hf.at_;obtain ⟨bs,hbs,hrun⟩:=Option.bind_eq_some_iff.mp e;obtain ⟨q,he,hret⟩:=Option.bind_eq_some_iff.mp hrun;have hb0:ls b [] ⟨[],l.F⟩ s:=.plain (fun a o e=>hbase▸e) hF (by rw [hfs]; trivial) (fun a ha=>by unfold Bs.S at ha; rw [hfs] at ha; cases ha) hg ho;have main:=sh (Nat.le_trans (Nat.le_add_left ..) hn) h1 (fun y k1 k2 k3 k4 k5=>h2 y k1 (k2.trans hq) (Nat.le_of_succ_le_succ (Nat.le_trans hn (Nat.le_of_eq k3.symm))) k4 k5) h3 h4 hb0 (bA.rep (l:=⟨[],l.F⟩) rv) hbs he;rw [kr hret] at main;refine wpAny_mono main (fun v s1 q=>?_) fun ev s1 ⟨_,_,q,_,_,_⟩=>nomatch q;obtain ⟨_,l1,q1,q2,_,q4⟩:=q;cases q1;exact ⟨⟨l1,q4.py_inv⟩,fun a o e=>q2.inv.base a o (hbase.symm▸e),q2.gens.trans hg.symm,q2.os.trans ho.symm⟩
theorem w7 {h:Heap} {F:Addr->Prop} {vs:List Value} {ns:List Int} (r:IntsAre vs ns):bA h F vs (ns.map .int):=by
 induction r with
 | nil=>exact .nil
 | cons i t _ ih=>exact .cons (.int i t) ih
theorem Ba {c:Cx}:aS c c.K:=by
 refine ⟨rfl,fun n v e=>⟨.inl (mg_of c.inK c.top.g e)⟩,fun n v e hv hn=>⟨.inr ⟨mg_none_of c.inK c.top.g e,(c.top.builtins _ hn).trans hv⟩⟩⟩
theorem Ao {p:Program} {loose:List Str} {w:World} {s:Shared} {mg mb:Str->Option Value} {K:Frag} {fa a f:Addr} {vs:List Value} {ns:List Int} {pg:Program} {n:Nat} {fb:AM aj}
  (TR:TopRead p loose mg mb s.heap) (KX:K.In s.heap) (sys:∃ o,s.heap.get? sysModules=some o) (hmg:mg (Str.o "law")=some (.ref fa)) (hq:nsIn K mainGlobals (Str.o "law")=some (some (.ref f)))
  (hI:IntsAre vs ns) (hL:s.heap.get? a=some {cls:=.type "list",data:=.seq vs.toArray})
  (hok:∀ c:Cx,aS c K->eS c n f (bI ["script"]) fb) (hn:n<=16) (hrun:kB (bI ["script"]) fb [.list (ns.map .int)]=some (.bool true)) {Q E:Value->Shared->Prop}
  (hQ:∀ s',(∀ b o,s.heap.get? b=some o->s'.heap.get? b=some o)->s'.gens=s.gens->s'.os=s.os->Q (.bool true) s'):wpAny (model pg w) callerA (PySem.call (.ref fa) [.ref a] []) Q E s:=by
 obtain rfl:fa=f:=by
  have:=hmg.symm.trans (mg_of KX TR.g hq);injection this with this
  injection this
 let c:Cx:={prog:=pg,w:=w,K:=K,base:=s.heap,gens:=s.gens,os:=s.os,loose:=loose,mg:=mg,mb:=mb,view:=p,top:=TR,inK:=KX,nolim:=TR.nolimit,big:=sys}
 refine wpAny_mono (Aq (b:=⟨c,17,callerA,[],true,rfl,by decide,by decide,fun _=>rfl⟩) (l:=⟨[],fun b=>b=a⟩) (Nat.succ_le_succ hn) rfl (hok c Ba) rfl rfl rfl rfl (fun b e=>e▸⟨_,hL⟩) (.cons (.list rfl hL (by rw [List.toList_toArray]; exact w7 hI)) .nil) hrun) (fun v s' h=>?_) (fun _ _ h=>h.elim);obtain ⟨⟨l',hr⟩,keep,hg,ho⟩:=h;cases hr;exact hQ s' keep hg ho
noncomputable abbrev prg:Program:=PySem.Challenge.rw_aa0061_02.row.prog
noncomputable def oN (x:String):Str:=Str.ofString x
noncomputable def oS (x:String) (n:Nat):Value:=.str (Str.ofString x) n
noncomputable def oE (P:Params) (x:String) (n:Nat) (v:Value):DictEntry:=⟨PyData.keyHash P (Str.ofString x),.str (Str.ofString x) n,v⟩
noncomputable def oI (i n:Nat) (x:String) (k:Nat):DictEntry:=⟨i,.int i n,.str (Str.ofString x) k⟩
noncomputable def oO (c:Value) (d:Data):Obj:=⟨c,none,d,#[]⟩
noncomputable def oU (l:List Value):Obj:=oO (.type "tuple") (.seq ⟨l⟩ 0)
noncomputable def oC (n q:String) (a l ac fl r:Nat) (b:Bool) (vs:List Value) (t:Nat):Obj:=oO (.type "code") (.fields ⟨oS n a::oS q (a+1)::oS "/claim/cut.py" (a+2)::.int l 0::.int ac 0::.int 0 0::.int 0 0::.int fl 0::.ref r::.bool b::.int 276 0::.ref (r+1)::(vs++[.int t 0,.int l 0,oS "/claim/cut.py" (t+1)])⟩)
noncomputable def oAt (l:List Stmt) (i:Nat):Stmt:=l.getD i (.Pass ⟨0,0,0,0⟩)
noncomputable def oA (i:Nat):Stmt:=oAt prg.main.body i
noncomputable def oB (i j:Nat):Stmt:=match oA i with
 | .ClassDef _ _ _ b ..=>oAt b j
 | s=>s
noncomputable def oF (s:Stmt) (q:String) (g:Addr) (cl:List (Str×Addr)) (dv kv doc pm:Value) (an:Option Addr) (cd ct:Value) (bl:Addr):FuncData:=match s with
 | .FunctionDef n ps b _ _ _ sc ..=>⟨n,Str.ofString q,ps,.stmts b,sc,g,cl,dv,kv,doc,pm,an,cd,ct,bl⟩
 | _=>default
noncomputable def h43 (P:Params):Obj:=oO (.type "dict") (.dict #[oE P "__name__" 1 (oS "builtins" 160),oE P "__doc__" 2 (.builtin "builtins.__doc__:str#opaque"),oE P "__package__" 3 (.builtin "builtins.__package__:str#opaque"),oE P "__loader__" 4 (.builtin "builtins.__loader__:shared#opaque"),oE P "__spec__" 5 (.builtin "builtins.__spec__#opaque"),oE P "__build_class__" 6 (.builtin "__build_class__"),oE P "__\x69mport__" 7 (.builtin "__\x69mport__"),oE P "abs" 8 (.builtin "abs"),oE P "all" 9 (.builtin "all"),oE P "any" 10 (.builtin "any"),oE P "ascii" 11 (.builtin "ascii"),oE P "bin" 12 (.builtin "bin"),oE P "breakpoint" 13 (.builtin "breakpoint"),oE P "callable" 14 (.builtin "callable"),oE P "chr" 15 (.builtin "chr"),oE P "compile" 16 (.builtin "compile"),oE P "delattr" 17 (.builtin "delattr"),oE P "dir" 18 (.builtin "dir"),oE P "divmod" 19 (.builtin "divmod"),oE P "eval" 20 (.builtin "eval"),oE P "exec" 21 (.builtin "exec"),oE P "format" 22 (.builtin "format"),oE P "getattr" 23 (.builtin "getattr"),oE P "globals" 24 (.builtin "globals"),oE P "hasattr" 25 (.builtin "hasattr"),oE P "hash" 26 (.builtin "hash"),oE P "hex" 27 (.builtin "hex"),oE P "id" 28 (.builtin "id"),oE P "input" 29 (.builtin "input"),oE P "isinstance" 30 (.builtin "isinstance"),oE P "issubclass" 31 (.builtin "issubclass"),oE P "iter" 32 (.builtin "iter"),oE P "aiter" 33 (.builtin "aiter"),oE P "len" 34 (.builtin "len"),oE P "locals" 35 (.builtin "locals"),oE P "max" 36 (.builtin "max"),oE P "min" 37 (.builtin "min"),oE P "next" 38 (.builtin "next"),oE P "anext" 39 (.builtin "anext"),oE P "oct" 40 (.builtin "oct"),oE P "ord" 41 (.builtin "ord"),oE P "pow" 42 (.builtin "pow"),oE P "print" 43 (.builtin "print"),oE P "repr" 44 (.builtin "repr"),oE P "round" 45 (.builtin "round"),oE P "setattr" 46 (.builtin "setattr"),oE P "sorted" 47 (.builtin "sorted"),oE P "sum" 48 (.builtin "sum"),oE P "vars" 49 (.builtin "vars"),oE P "None" 50 .none,oE P "Ellipsis" 51 (Value.ellipsis),oE P "NotImplemented" 52 (Value.notImplemented),oE P "False" 53 (.bool false),oE P "True" 54 (.bool true),oE P "bool" 55 (.type "bool"),oE P "memoryview" 56 (.type "memoryview"),oE P "bytearray" 57 (.type "bytearray"),oE P "bytes" 58 (.type "bytes"),oE P "classmethod" 59 (.type "classmethod"),oE P "complex" 60 (.type "complex"),oE P "dict" 61 (.type "dict"),oE P "enumerate" 62 (.type "enumerate"),oE P "filter" 63 (.type "filter"),oE P "float" 64 (.type "float"),oE P "frozenset" 65 (.type "frozenset"),oE P "property" 66 (.type "property"),oE P "int" 67 (.type "int"),oE P "list" 68 (.type "list"),oE P "map" 69 (.type "map"),oE P "object" 70 (.type "object"),oE P "range" 71 (.type "range"),oE P "reversed" 72 (.type "reversed"),oE P "set" 73 (.type "set"),oE P "slice" 74 (.type "slice"),oE P "staticmethod" 75 (.type "staticmethod"),oE P "str" 76 (.type "str"),oE P "super" 77 (.type "super"),oE P "tuple" 78 (.type "tuple"),oE P "type" 79 (.type "type"),oE P "zip" 80 (.type "zip"),oE P "__debug__" 81 (.bool true),oE P "BaseException" 82 (.type "BaseException"),oE P "BaseExceptionGroup" 83 (.type "BaseExceptionGroup"),oE P "Exception" 84 (.type "Exception"),oE P "GeneratorExit" 85 (.type "GeneratorExit"),oE P "KeyboardInterrupt" 86 (.type "KeyboardInterrupt"),oE P "SystemExit" 87 (.type "SystemExit"),oE P "ArithmeticError" 88 (.type "ArithmeticError"),oE P "AssertionError" 89 (.type "AssertionError"),oE P "AttributeError" 90 (.type "AttributeError"),oE P "BufferError" 91 (.type "BufferError"),oE P "EOFError" 92 (.type "EOFError"),oE P "ImportError" 93 (.type "ImportError"),oE P "LookupError" 94 (.type "LookupError"),oE P "MemoryError" 95 (.type "MemoryError"),oE P "NameError" 96 (.type "NameError"),oE P "OSError" 97 (.type "OSError"),oE P "ReferenceError" 98 (.type "ReferenceError"),oE P "RuntimeError" 99 (.type "RuntimeError"),oE P "StopAsyncIteration" 100 (.type "StopAsyncIteration"),oE P "StopIteration" 101 (.type "StopIteration"),oE P "SyntaxError" 102 (.type "SyntaxError"),oE P "SystemError" 103 (.type "SystemError"),oE P "TypeError" 104 (.type "TypeError"),oE P "ValueError" 105 (.type "ValueError"),oE P "Warning" 106 (.type "Warning"),oE P "FloatingPointError" 107 (.type "FloatingPointError"),oE P "OverflowError" 108 (.type "OverflowError"),oE P "ZeroDivisionError" 109 (.type "ZeroDivisionError"),oE P "BytesWarning" 110 (.type "BytesWarning"),oE P "DeprecationWarning" 111 (.type "DeprecationWarning"),oE P "EncodingWarning" 112 (.type "EncodingWarning"),oE P "FutureWarning" 113 (.type "FutureWarning"),oE P "ImportWarning" 114 (.type "ImportWarning"),oE P "PendingDeprecationWarning" 115 (.type "PendingDeprecationWarning"),oE P "ResourceWarning" 116 (.type "ResourceWarning"),oE P "RuntimeWarning" 117 (.type "RuntimeWarning"),oE P "SyntaxWarning" 118 (.type "SyntaxWarning"),oE P "UnicodeWarning" 119 (.type "UnicodeWarning"),oE P "UserWarning" 120 (.type "UserWarning"),oE P "BlockingIOError" 121 (.type "BlockingIOError"),oE P "ChildProcessError" 122 (.type "ChildProcessError"),oE P "ConnectionError" 123 (.type "ConnectionError"),oE P "FileExistsError" 124 (.type "FileExistsError"),oE P "FileNotFoundError" 125 (.type "FileNotFoundError"),oE P "InterruptedError" 126 (.type "InterruptedError"),oE P "IsADirectoryError" 127 (.type "IsADirectoryError"),oE P "NotADirectoryError" 128 (.type "NotADirectoryError"),oE P "PermissionError" 129 (.type "PermissionError"),oE P "ProcessLookupError" 130 (.type "ProcessLookupError"),oE P "TimeoutError" 131 (.type "TimeoutError"),oE P "IndentationError" 132 (.type "IndentationError"),oE P "_IncompleteInputError" 133 (.type "_IncompleteInputError"),oE P "IndexError" 134 (.type "IndexError"),oE P "KeyError" 135 (.type "KeyError"),oE P "ModuleNotFoundError" 136 (.type "ModuleNotFoundError"),oE P "NotImplementedError" 137 (.type "NotImplementedError"),oE P "PythonFinalizationError" 138 (.type "PythonFinalizationError"),oE P "RecursionError" 139 (.type "RecursionError"),oE P "UnboundLocalError" 140 (.type "UnboundLocalError"),oE P "UnicodeError" 141 (.type "UnicodeError"),oE P "BrokenPipeError" 142 (.type "BrokenPipeError"),oE P "ConnectionAbortedError" 143 (.type "ConnectionAbortedError"),oE P "ConnectionRefusedError" 144 (.type "ConnectionRefusedError"),oE P "ConnectionResetError" 145 (.type "ConnectionResetError"),oE P "TabError" 146 (.type "TabError"),oE P "UnicodeDecodeError" 147 (.type "UnicodeDecodeError"),oE P "UnicodeEncodeError" 148 (.type "UnicodeEncodeError"),oE P "UnicodeTranslateError" 149 (.type "UnicodeTranslateError"),oE P "ExceptionGroup" 150 (.type "ExceptionGroup"),oE P "EnvironmentError" 151 (.type "OSError"),oE P "IOError" 152 (.type "OSError"),oE P "open" 153 (.builtin "open"),oE P "quit" 154 (.builtin "builtins.quit#opaque"),oE P "exit" 155 (.builtin "builtins.exit#opaque"),oE P "copyright" 156 (.builtin "builtins.copyright#opaque"),oE P "credits" 157 (.builtin "builtins.credits#opaque"),oE P "license" 158 (.builtin "builtins.license#opaque"),oE P "help" 159 (.builtin "builtins.help#opaque")] 159)
noncomputable def h44 (P:Params):Obj:=oO (.type "dict") (.dict #[oE P "builtins" 162 (.ref 4),oE P "__main__" 163 (.ref 5),oE P "_sre" 244 (.ref 12)] 3)
noncomputable def h45 (P:Params):Obj:=oO .none (.dict #[oE P "\x69mport.loaded._sre" 183 (.bool true),oE P "class._frozen_\x69mportlib.BuiltinImporter" 185 (.ref 14),oE P "watched.\x69mport" 206 (.ref 18),oE P "class._frozen_\x69mportlib.ModuleSpec" 216 (.ref 22),oE P "sys.modules.booked-epoch" 245 (.int 3 0),oE P "\x69mport.later-laid._sre" 270 (.bool true),oE P "watched.library" 272 (.ref 27),oE P "watched.library-objects" 0 (oS "\x0c" 0),oE P "watched.library-deep._sre" 273 (oS "\x04\x00\x00\x0b\x04\x00\x00\x0b\x04\x00\x00\x03\x04\x00\x00\x0b\x08\x04dict\x02" 0)] 9)
noncomputable def h47 (P:Params):Obj:=⟨(.type "module"),(some 0),.plain,#[]⟩
noncomputable def h48 (P:Params):Obj:=⟨(.type "module"),(some 3),.plain,#[]⟩
noncomputable def h49 (P:Params):Obj:=oO (.type "dict") (.dict #[] 0)
noncomputable def h50 (P:Params):Obj:=oU []
noncomputable def h51 (P:Params):Obj:=oO .none (.fields #[])
noncomputable def h52 (P:Params):Obj:=oO (.type "code") (.fields #[(oS "<module>" 176),(oS "<module>" 177),(oS "/claim/cut.py" 178),(.int 1 0),(.int 0 0),(.int 0 0),(.int 0 0),(.int 0 0),(.ref 7),(.bool false),(.int 175 0),(.ref 8),.none,.none,.none,.none,(.int 179 0),(.int 1 0),(oS "/claim/cut.py" 180)])
noncomputable def h53 (P:Params):Obj:=⟨(.type "frame"),none,.plain,#[(some (.ref 9)),(some (.ref 3)),(some (.ref 3)),none,(some (oS "__main__" 164)),none,(some (.ref 0))]⟩
noncomputable def h54 (P:Params):Obj:=oO (.type "dict") (.dict #[oE P "__name__" 247 (oS "_sre" 246),oE P "__doc__" 248 .none,oE P "__package__" 250 (oS "" 249),oE P "__loader__" 251 (.builtin "off-the-table:_sre.__loader__:shared#opaque"),oE P "__spec__" 252 (.builtin "off-the-table:_sre.__spec__:shared#opaque"),oE P "compile" 253 (.builtin "_sre.compile"),oE P "template" 254 (.builtin "off-the-table:_sre.template:shared#opaque"),oE P "getcodesize" 255 (.builtin "off-the-table:_sre.getcodesize:shared#opaque"),oE P "ascii_iscased" 256 (.builtin "off-the-table:_sre.ascii_iscased:shared#opaque"),oE P "unicode_iscased" 257 (.builtin "off-the-table:_sre.unicode_iscased:shared#opaque"),oE P "ascii_tolower" 258 (.builtin "off-the-table:_sre.ascii_tolower:shared#opaque"),oE P "unicode_tolower" 259 (.builtin "off-the-table:_sre.unicode_tolower:shared#opaque"),oE P "MAGIC" 261 (.int 20230612 260),oE P "CODESIZE" 263 (.int 4 262),oE P "MAXREPEAT" 265 (.int 4294967295 264),oE P "MAXGROUPS" 267 (.int 1073741823 266),oE P "copyright" 269 (oS " SRE 2.2.2 Copyright (c) 1997-2002 by Secret Labs AB " 268)] 17)
noncomputable def h55 (P:Params):Obj:=⟨(.type "module"),(some 11),.plain,#[]⟩
noncomputable def h56 (P:Params):Obj:=oO (.type "dict") (.dict #[oE P "__module__" 189 (oS "_frozen_\x69mportlib" 186),oE P "__firstlineno__" 190 (.int 971 187),oE P "__doc__" 191 (.builtin "_frozen_\x69mportlib.BuiltinImporter.__doc__:str#opaque"),oE P "_ORIGIN" 192 (oS "built-in" 188),oE P "find_spec" 193 (.builtin "_frozen_\x69mportlib.BuiltinImporter.find_spec#opaque"),oE P "create_module" 194 (.builtin "_frozen_\x69mportlib.BuiltinImporter.create_module#opaque"),oE P "exec_module" 195 (.builtin "_frozen_\x69mportlib.BuiltinImporter.exec_module#opaque"),oE P "get_code" 196 (.builtin "_frozen_\x69mportlib.BuiltinImporter.get_code#opaque"),oE P "get_source" 197 (.builtin "_frozen_\x69mportlib.BuiltinImporter.get_source#opaque"),oE P "is_package" 198 (.builtin "_frozen_\x69mportlib.BuiltinImporter.is_package#opaque"),oE P "load_module" 199 (.builtin "_frozen_\x69mportlib.BuiltinImporter.load_module#opaque"),oE P "__static_attributes__" 200 (.ref 15),oE P "__dict__" 202 (.ref 16),oE P "__weakref__" 204 (.ref 17)] 14)
noncomputable def h57 (P:Params):Obj:=oO (.type "type") (.cls ⟨(oN "BuiltinImporter"),[(.type "object")],[(.ref 14),(.type "object")],13,(oN "BuiltinImporter"),true,[],[],false,none,false⟩)
noncomputable def h58 (P:Params):Obj:=oU []
noncomputable def h59 (P:Params):Obj:=oO (.type "getset_descriptor") (.fields #[(oS "__dict__" 201),(.ref 14),(.builtin "function.__dict__"),(.builtin "function.__dict__#set")])
noncomputable def h60 (P:Params):Obj:=oO (.type "getset_descriptor") (.fields #[(oS "__weakref__" 203),(.ref 14),(.builtin "ExceptionGroup.__weakref__"),.none])
noncomputable def h61 (P:Params):Obj:=oO .none (.seq #[(.int 13 0),(oS "\x06½\n__module__\x06º\x11_frozen_\x69mportlib\x06¾\x0f__firstlineno__\x04»\x00ϋ\x06¿\x07__doc__\t4_frozen_\x69mportlib.BuiltinImporter.__doc__:str#opaque\x06À\x07_ORIGIN\x06¼\x08built-in\x06Á\tfind_spec\t2_frozen_\x69mportlib.BuiltinImporter.find_spec#opaque\x06Â\x0dcreate_module\t6_frozen_\x69mportlib.BuiltinImporter.create_module#opaque\x06Ã\x0bexec_module\t4_frozen_\x69mportlib.BuiltinImporter.exec_module#opaque\x06Ä\x08get_code\t1_frozen_\x69mportlib.BuiltinImporter.get_code#opaque\x06Å\nget_source\t3_frozen_\x69mportlib.BuiltinImporter.get_source#opaque\x06Æ\nis_package\t3_frozen_\x69mportlib.BuiltinImporter.is_package#opaque\x06Ç\x0bload_module\t4_frozen_\x69mportlib.BuiltinImporter.load_module#opaque\x06È\x15__static_attributes__\x04\x00\x00\x0f\x06Ê\x08__dict__\x04\x00\x00\x10\x06Ì\x0b__weakref__\x04\x00\x00\x11" 0),(.bool true),(.bool true),(oS "" 205),(.int 21 0),(oS "\x06ã\n__module__\x06Ù\x11_frozen_\x69mportlib\x06ä\x0f__firstlineno__\x04Ú\x00Ȳ\x06å\x07__doc__\t/_frozen_\x69mportlib.ModuleSpec.__doc__:str#opaque\x06æ\x08__init__\t,_frozen_\x69mportlib.ModuleSpec.__init__#opaque\x06ç\x08__repr__\t,_frozen_\x69mportlib.ModuleSpec.__repr__#opaque\x06è\x06__eq__\t*_frozen_\x69mportlib.ModuleSpec.__eq__#opaque\x06é\x06cached\t*_frozen_\x69mportlib.ModuleSpec.cached#opaque\x06ê\x06parent\t*_frozen_\x69mportlib.ModuleSpec.parent#opaque\x06ë\x0chas_location\t0_frozen_\x69mportlib.ModuleSpec.has_location#opaque\x06ì\x15__static_attributes__\x04\x00\x00\x17\x06î\x08__dict__\x04\x00\x00\x18\x06ð\x0b__weakref__\x04\x00\x00\x19\x06ñ\x08__hash__\x00" 0),(.bool true),(.bool true),(oS "" 242)] 1)
noncomputable def h62 (P:Params):Obj:=oO (.type "list") (.seq #[] 0)
noncomputable def h63 (P:Params):Obj:=oO (.type "dict") (.dict #[oE P "name" 208 (oS "_sre" 207),oE P "loader" 209 (.ref 14),oE P "origin" 210 (oS "built-in" 184),oE P "loader_state" 211 .none,oE P "submodule_search_locations" 212 .none,oE P "_uninitialized_submodules" 213 (.ref 19),oE P "_set_fileattr" 214 (.bool false),oE P "_cached" 215 .none,oE P "_initializing" 243 (.bool false)] 9)
noncomputable def h64 (P:Params):Obj:=oO (.type "dict") (.dict #[oE P "__module__" 227 (oS "_frozen_\x69mportlib" 217),oE P "__firstlineno__" 228 (.int 562 218),oE P "__doc__" 229 (.builtin "_frozen_\x69mportlib.ModuleSpec.__doc__:str#opaque"),oE P "__init__" 230 (.builtin "_frozen_\x69mportlib.ModuleSpec.__init__#opaque"),oE P "__repr__" 231 (.builtin "_frozen_\x69mportlib.ModuleSpec.__repr__#opaque"),oE P "__eq__" 232 (.builtin "_frozen_\x69mportlib.ModuleSpec.__eq__#opaque"),oE P "cached" 233 (.builtin "_frozen_\x69mportlib.ModuleSpec.cached#opaque"),oE P "parent" 234 (.builtin "_frozen_\x69mportlib.ModuleSpec.parent#opaque"),oE P "has_location" 235 (.builtin "_frozen_\x69mportlib.ModuleSpec.has_location#opaque"),oE P "__static_attributes__" 236 (.ref 23),oE P "__dict__" 238 (.ref 24),oE P "__weakref__" 240 (.ref 25),oE P "__hash__" 241 .none] 13)
noncomputable def h65 (P:Params):Obj:=oO (.type "type") (.cls ⟨(oN "ModuleSpec"),[(.type "object")],[(.ref 22),(.type "object")],21,(oN "ModuleSpec"),true,[],[],false,none,false⟩)
noncomputable def h66 (P:Params):Obj:=oU [(oS "_cached" 219),(oS "_set_fileattr" 220),(oS "_uninitialized_submodules" 221),(oS "loader" 222),(oS "loader_state" 223),(oS "name" 224),(oS "origin" 225),(oS "submodule_search_locations" 226)]
noncomputable def h67 (P:Params):Obj:=oO (.type "getset_descriptor") (.fields #[(oS "__dict__" 237),(.ref 22),(.builtin "function.__dict__"),(.builtin "function.__dict__#set")])
noncomputable def h68 (P:Params):Obj:=oO (.type "getset_descriptor") (.fields #[(oS "__weakref__" 239),(.ref 22),(.builtin "ExceptionGroup.__weakref__"),.none])
noncomputable def h69 (P:Params):Obj:=⟨(.ref 22),(some 20),.plain,#[]⟩
noncomputable def h70 (P:Params):Obj:=oO .none (.seq #[(.int 11 0),(Value.str {cps:=#[6,247,8,95,95,110,97,109,101,95,95,6,246,4,95,115,114,101,6,248,7,95,95,100,111,99,95,95,0,6,250,11,95,95,112,97,99,107,97,103,101,95,95,6,249,0,6,251,10,95,95,108,111,97,100,101,114,95,95,4,0,0,14,6,252,8,95,95,115,112,101,99,95,95,4,0,0,26,6,253,7,99,111,109,112,105,108,101,9,12,95,115,114,101,46,99,111,109,112,105,108,101,6,254,8,116,101,109,112,108,97,116,101,9,13,95,115,114,101,46,116,101,109,112,108,97,116,101,6,255,11,103,101,116,99,111,100,101,115,105,122,101,9,16,95,115,114,101,46,103,101,116,99,111,100,101,115,105,122,101,6,256,13,97,115,99,105,105,95,105,115,99,97,115,101,100,9,18,95,115,114,101,46,97,115,99,105,105,95,105,115,99,97,115,101,100,6,257,15,117,110,105,99,111,100,101,95,105,115,99,97,115,101,100,9,20,95,115,114,101,46,117,110,105,99,111,100,101,95,105,115,99,97,115,101,100,6,258,13,97,115,99,105,105,95,116,111,108,111,119,101,114,9,18,95,115,114,101,46,97,115,99,105,105,95,116,111,108,111,119,101,114,6,259,15,117,110,105,99,111,100,101,95,116,111,108,111,119,101,114,9,20,95,115,114,101,46,117,110,105,99,111,100,101,95,116,111,108,111,119,101,114,6,261,5,77,65,71,73,67,4,260,0,20230612,6,263,8,67,79,68,69,83,73,90,69,4,262,0,4,6,265,9,77,65,88,82,69,80,69,65,84,4,264,0,4294967295,6,267,9,77,65,88,71,82,79,85,80,83,4,266,0,1073741823,6,269,9,99,111,112,121,114,105,103,104,116,6,268,53,32,83,82,69,32,50,46,50,46,50,32,67,111,112,121,114,105,103,104,116,32,40,99,41,32,49,57,57,55,45,50,48,48,50,32,98,121,32,83,101,99,114,101,116,32,76,97,98,115,32,65,66,32]} 0),(.bool true),(.bool false),(oS "_sre" 271)] 0)
noncomputable def Gx (P:Params):List Obj:=[
h43 P,
h44 P,
h45 P,
oO (.type "dict") (.dict #[oE P "__name__" 165 (oS "__main__" 164),oE P "__doc__" 166 .none,oE P "__package__" 167 .none,oE P "__loader__" 168 (.builtin "__main__.__loader__#opaque"),oE P "__spec__" 169 .none,oE P "__annotations__" 170 (.ref 6),oE P "__builtins__" 171 (.ref 4),oE P "__file__" 173 (oS "/claim/cut.py" 172),oE P "__cached__" 174 .none,oE P "_sre" 275 (.ref 12)] 10),
h47 P,
h48 P,
h49 P,
h50 P,
h51 P,
h52 P,
h53 P,
h54 P,
h55 P,
h56 P,
h57 P,
h58 P,
h59 P,
h60 P,
h61 P,
h62 P,
h63 P,
h64 P,
h65 P,
h66 P,
h67 P,
h68 P,
h69 P,
h70 P]
noncomputable def ye (P:Params):List Obj:=[
h43 P,
h44 P,
h45 P,
oO (.type "dict") (.dict #[oE P "__name__" 165 (oS "law_aa0061_02" 732),oE P "__doc__" 166 .none,oE P "__package__" 167 .none,oE P "__loader__" 168 (.builtin "__main__.__loader__#opaque"),oE P "__spec__" 169 .none,oE P "__annotations__" 170 (.ref 6),oE P "__builtins__" 171 (.ref 4),oE P "__file__" 173 (oS "/claim/cut.py" 172),oE P "__cached__" 174 .none,oE P "_sre" 275 (.ref 12),oE P "_wall" 288 (.ref 38),oE P "_NODE_OUT" 293 (.int (-1) 292),oE P "_NODE_DONE" 296 (.int (-2) 295),oE P "_NodeInfo" 333 (.ref 57),oE P "CycleError" 351 (.ref 72),oE P "TopologicalSorter" 470 (.ref 154),oE P "_twin_re_1" 510 (.ref 163),oE P "translate" 519 (.ref 170),oE P "_special_chars_map" 667 (.ref 172),oE P "escape" 674 (.ref 182),oE P "_translate" 695 (.ref 189),oE P "_join_translated_parts" 708 (.ref 196),oE P "_deduplicate_unhashable" 719 (.ref 203),oE P "_compare_args_orderless" 731 (.ref 210),oE P "_law_text" 739 (.ref 215),oE P "_law_pieces" 749 (.ref 222),oE P "_law_takes" 755 (.ref 227),oE P "_law_border" 761 (.ref 232),oE P "_law_above" 767 (.ref 237),oE P "_law_pairs" 781 (.ref 244),oE P "_law_sorter" 787 (.ref 249),oE P "_law_sum" 796 (.ref 256),oE P "_law_leads" 802 (.ref 261),oE P "_law_rank" 812 (.ref 268),oE P "_law_holes" 818 (.ref 273),oE P "law" 824 (.ref 278)] 36),
h47 P,
h48 P,
h49 P,
h50 P,
h51 P,
h52 P,
h53 P,
h54 P,
h55 P,
h56 P,
h57 P,
h58 P,
h59 P,
h60 P,
h61 P,
h62 P,
h63 P,
h64 P,
h65 P,
h66 P,
h67 P,
h68 P,
h69 P,
h70 P,
oU [],
oO .none (.fields #[(.int 2 0),(.int 0 0),(.ref 37),(.int 8 0),(.int 0 0),(.ref 44),(.int 15 0),(.int 0 0),(.ref 68),(.int 17 0),(.int 0 0),(.ref 81),(.int 125 0),(.int 0 0),(.ref 169),(.int 131 0),(.int 0 0),(.ref 181),(.int 138 0),(.int 0 0),(.ref 188),(.int 200 0),(.int 0 0),(.ref 195),(.int 228 0),(.int 0 0),(.ref 202),(.int 234 0),(.int 0 0),(.ref 209),(.int 245 0),(.int 0 0),(.ref 214),(.int 247 0),(.int 0 0),(.ref 221),(.int 254 0),(.int 0 0),(.ref 226),(.int 256 0),(.int 0 0),(.ref 231),(.int 258 0),(.int 0 0),(.ref 236),(.int 261 0),(.int 0 0),(.ref 243),(.int 270 0),(.int 0 0),(.ref 248),(.int 276 0),(.int 0 0),(.ref 255),(.int 281 0),(.int 0 0),(.ref 260),(.int 291 0),(.int 0 0),(.ref 267),(.int 299 0),(.int 0 0),(.ref 272),(.int 305 0),(.int 0 0),(.ref 277)]),
oC "<module>" "<module>" 277 1 0 0 28 false [.none,.none,.none,.none] 280,
⟨(.type "frame"),none,.plain,#[(some (.ref 30)),(some (.ref 3)),(some (.ref 3)),none,(some (oS "__main__" 164)),none,(some (.ref 0))]⟩,
oU [],
oO .none (.fields #[]),
oU [(oS "k" 285)],
oU [],
oO .none (.func (oF (oA 1) "_wall" 0 [] .none .none .none .none none .none .none 0)),
oC "_wall" "_wall" 282 2 1 3 32 true [.none,(.ref 34),(.ref 35),(.ref 36)] 286,
oO (.type "function") (.func (oF (oA 1) "_wall" 3 [] .none .none .none (oS "__main__" 164) none (.ref 37) .none 0)),
oU [],
oO (.type "builtin_function_or_method") (.fields #[(.builtin "type.__prepare__"),(.type "type")]),
oO (.type "dict") (.dict #[oE P "__module__" 304 (oS "cpy313.graphlib" 289),oE P "__qualname__" 306 (oS "_NodeInfo" 305),oE P "__firstlineno__" 308 (.int 8 307),oE P "__slots__" 312 (.ref 46),oE P "__init__" 320 (.ref 53),oE P "__static_attributes__" 324 (.ref 54)] 6),
oU [],
oO .none (.fields #[(.int 11 0),(.int 4 0),(.ref 52)]),
oC "_NodeInfo" "_NodeInfo" 299 8 0 0 42 false [.none,.none,.none,.none] 302,
⟨(.type "frame"),none,.plain,#[(some (.ref 44)),(some (.ref 3)),(some (.ref 41)),none,(some (oS "cpy313.graphlib" 289)),none,(some (.ref 0))]⟩,
oU [(oS "node" 309),(oS "npredecessors" 310),(oS "successors" 311)],
oU [],
oO .none (.fields #[]),
oU [(oS "self" 316),(oS "node" 317)],
oU [],
oO .none (.func (oF (oB 5 1) "_NodeInfo.__init__" 0 [] .none .none .none .none none .none .none 0)),
oC "__init__" "_NodeInfo.__init__" 313 11 2 3 47 true [.none,(.ref 49),(.ref 50),(.ref 51)] 318,
oO (.type "function") (.func (oF (oB 5 1) "_NodeInfo.__init__" 3 [] .none .none .none (oS "cpy313.graphlib" 289) none (.ref 52) .none 0)),
oU [(oS "node" 321),(oS "npredecessors" 322),(oS "successors" 323)],
oO (.type "list") (.seq #[(oS "node" 309),(oS "npredecessors" 310),(oS "successors" 311)] 1),
oO (.type "dict") (.dict #[oE P "__module__" 304 (oS "cpy313.graphlib" 289),oE P "__firstlineno__" 308 (.int 8 307),oE P "__slots__" 312 (.ref 46),oE P "__init__" 320 (.ref 53),oE P "__static_attributes__" 324 (.ref 54),oE P "node" 326 (.ref 58),oE P "npredecessors" 328 (.ref 59),oE P "successors" 330 (.ref 60),oE P "__doc__" 331 .none] 5),
⟨(.type "type"),none,(.cls ⟨(oN "_NodeInfo"),[(.type "object")],[(.ref 57),(.type "object")],56,(oN "_NodeInfo"),false,[(oN "node"),(oN "npredecessors"),(oN "successors")],[],false,none,false⟩),#[none,none,(some (oS "_NodeInfo" 297)),(some (oS "_NodeInfo" 305)),(some (.builtin "object.__new__")),(some (.bool false))]⟩,
oO (.type "member_descriptor") (.fields #[(oS "node" 325),(.ref 57),(.builtin "proto.slot"),(.builtin "proto.slot#set"),(.int 2 0)]),
oO (.type "member_descriptor") (.fields #[(oS "npredecessors" 327),(.ref 57),(.builtin "proto.slot"),(.builtin "proto.slot#set"),(.int 1 0)]),
oO (.type "member_descriptor") (.fields #[(oS "successors" 329),(.ref 57),(.builtin "proto.slot"),(.builtin "proto.slot#set"),(.int 0 0)]),
oO (.type "super") (.fields #[(.ref 57),(.ref 57),(.ref 57)]),
oO (.type "builtin_function_or_method") (.fields #[(.builtin "object.__init_subclass__"),(.ref 57)]),
oU [(.type "ValueError")],
oO (.type "builtin_function_or_method") (.fields #[(.builtin "type.__prepare__"),(.type "type")]),
oO (.type "dict") (.dict #[oE P "__module__" 341 (oS "cpy313.graphlib" 289),oE P "__qualname__" 343 (oS "CycleError" 342),oE P "__firstlineno__" 345 (.int 15 344),oE P "__static_attributes__" 346 (.ref 70)] 4),
oU [],
oO .none (.fields #[]),
oC "CycleError" "CycleError" 336 15 0 0 66 false [.none,.none,.none,.none] 339,
⟨(.type "frame"),none,.plain,#[(some (.ref 68)),(some (.ref 3)),(some (.ref 65)),none,(some (oS "cpy313.graphlib" 289)),none,(some (.ref 0))]⟩,
oU [],
oO (.type "dict") (.dict #[oE P "__module__" 341 (oS "cpy313.graphlib" 289),oE P "__firstlineno__" 345 (.int 15 344),oE P "__static_attributes__" 346 (.ref 70),oE P "__weakref__" 348 (.ref 73),oE P "__doc__" 349 .none] 3),
⟨(.type "type"),none,(.cls ⟨(oN "CycleError"),[(.type "ValueError")],[(.ref 72),(.type "ValueError"),(.type "Exception"),(.type "BaseException"),(.type "object")],71,(oN "CycleError"),true,[],[],false,none,false⟩),#[(some (.ref 63)),none,(some (oS "CycleError" 334)),(some (oS "CycleError" 342)),(some (.builtin "ValueError.__new__")),(some (.bool true))]⟩,
oO (.type "getset_descriptor") (.fields #[(oS "__weakref__" 347),(.ref 72),(.builtin "ExceptionGroup.__weakref__"),.none]),
oO (.type "super") (.fields #[(.ref 72),(.ref 72),(.ref 72)]),
oO (.type "builtin_function_or_method") (.fields #[(.builtin "object.__init_subclass__"),(.ref 72)]),
oU [],
oO (.type "builtin_function_or_method") (.fields #[(.builtin "type.__prepare__"),(.type "type")]),
oO (.type "dict") (.dict #[oE P "__module__" 359 (oS "cpy313.graphlib" 289),oE P "__qualname__" 361 (oS "TopologicalSorter" 360),oE P "__firstlineno__" 363 (.int 17 362),oE P "__init__" 373 (.ref 90),oE P "_get_nodeinfo" 382 (.ref 97),oE P "add" 394 (.ref 104),oE P "prepare" 400 (.ref 109),oE P "get_ready" 410 (.ref 116),oE P "is_active" 417 (.ref 123),oE P "__bool__" 424 (.ref 130),oE P "done" 438 (.ref 137),oE P "_find_cycle" 451 (.ref 144),oE P "static_order" 458 (.ref 151),oE P "__static_attributes__" 463 (.ref 152)] 14),
oU [],
oO .none (.fields #[(.int 19 0),(.int 4 0),(.ref 89),(.int 28 0),(.int 4 0),(.ref 96),(.int 33 0),(.int 4 0),(.ref 103),(.int 42 0),(.int 4 0),(.ref 108),(.int 50 0),(.int 4 0),(.ref 115),(.int 61 0),(.int 4 0),(.ref 122),(.int 66 0),(.int 4 0),(.ref 129),(.int 69 0),(.int 4 0),(.ref 136),(.int 92 0),(.int 4 0),(.ref 143),(.int 121 0),(.int 4 0),(.ref 150)]),
oC "TopologicalSorter" "TopologicalSorter" 354 17 0 0 79 false [.none,.none,.none,.none] 357,
⟨(.type "frame"),none,.plain,#[(some (.ref 81)),(some (.ref 3)),(some (.ref 78)),none,(some (oS "cpy313.graphlib" 289)),none,(some (.ref 0))]⟩,
oU [.none],
oU [],
oO .none (.fields #[]),
oU [(oS "self" 367),(oS "graph" 368),(oS "node" 369),(oS "predecessors" 370)],
oU [],
oO .none (.func (oF (oB 7 0) "TopologicalSorter.__init__" 0 [] .none .none .none .none none .none .none 0)),
oC "__init__" "TopologicalSorter.__init__" 364 19 2 3 84 true [.none,(.ref 86),(.ref 87),(.ref 88)] 371,
oO (.type "function") (.func (oF (oB 7 0) "TopologicalSorter.__init__" 3 [] (.ref 83) .none .none (oS "cpy313.graphlib" 289) none (.ref 89) .none 0)),
oU [],
oO .none (.fields #[]),
oU [(oS "self" 377),(oS "node" 378),(oS "result" 379)],
oU [],
oO .none (.func (oF (oB 7 1) "TopologicalSorter._get_nodeinfo" 0 [] .none .none .none .none none .none .none 0)),
oC "_get_nodeinfo" "TopologicalSorter._get_nodeinfo" 374 28 2 3 91 true [.none,(.ref 93),(.ref 94),(.ref 95)] 380,
oO (.type "function") (.func (oF (oB 7 1) "TopologicalSorter._get_nodeinfo" 3 [] .none .none .none (oS "cpy313.graphlib" 289) none (.ref 96) .none 0)),
oU [],
oO .none (.fields #[]),
oU [(oS "self" 386),(oS "node" 387),(oS "predecessors" 388),(oS "nodeinfo" 389),(oS "pred" 390),(oS "pred_info" 391)],
oU [],
oO .none (.func (oF (oB 7 2) "TopologicalSorter.add" 0 [] .none .none .none .none none .none .none 0)),
oC "add" "TopologicalSorter.add" 383 33 2 7 98 true [.none,(.ref 100),(.ref 101),(.ref 102)] 392,
oO (.type "function") (.func (oF (oB 7 2) "TopologicalSorter.add" 3 [] .none .none .none (oS "cpy313.graphlib" 289) none (.ref 103) .none 0)),
oU [],
oO .none (.fields #[]),
oO .none (.func (oF (oB 7 3) "TopologicalSorter.prepare" 0 [] .none .none .none .none none .none .none 0)),
oC "prepare" "TopologicalSorter.prepare" 395 42 1 3 105 true [.none,.none,.none,(.ref 107)] 398,
oO (.type "function") (.func (oF (oB 7 3) "TopologicalSorter.prepare" 3 [] .none .none .none (oS "cpy313.graphlib" 289) none (.ref 108) .none 0)),
oU [],
oO .none (.fields #[]),
oU [(oS "self" 404),(oS "result" 405),(oS "n2i" 406),(oS "node" 407)],
oU [],
oO .none (.func (oF (oB 7 4) "TopologicalSorter.get_ready" 0 [] .none .none .none .none none .none .none 0)),
oC "get_ready" "TopologicalSorter.get_ready" 401 50 1 3 110 true [.none,(.ref 112),(.ref 113),(.ref 114)] 408,
oO (.type "function") (.func (oF (oB 7 4) "TopologicalSorter.get_ready" 3 [] .none .none .none (oS "cpy313.graphlib" 289) none (.ref 115) .none 0)),
oU [],
oO .none (.fields #[]),
oU [(oS "self" 414)],
oU [],
oO .none (.func (oF (oB 7 5) "TopologicalSorter.is_active" 0 [] .none .none .none .none none .none .none 0)),
oC "is_active" "TopologicalSorter.is_active" 411 61 1 3 117 true [.none,(.ref 119),(.ref 120),(.ref 121)] 415,
oO (.type "function") (.func (oF (oB 7 5) "TopologicalSorter.is_active" 3 [] .none .none .none (oS "cpy313.graphlib" 289) none (.ref 122) .none 0)),
oU [],
oO .none (.fields #[]),
oU [(oS "self" 421)],
oU [],
oO .none (.func (oF (oB 7 6) "TopologicalSorter.__bool__" 0 [] .none .none .none .none none .none .none 0)),
oC "__bool__" "TopologicalSorter.__bool__" 418 66 1 3 124 true [.none,(.ref 126),(.ref 127),(.ref 128)] 422,
oO (.type "function") (.func (oF (oB 7 6) "TopologicalSorter.__bool__" 3 [] .none .none .none (oS "cpy313.graphlib" 289) none (.ref 129) .none 0)),
oU [],
oO .none (.fields #[]),
oU [(oS "self" 428),(oS "nodes" 429),(oS "n2i" 430),(oS "node" 431),(oS "nodeinfo" 432),(oS "stat" 433),(oS "successor" 434),(oS "successor_info" 435)],
oU [],
oO .none (.func (oF (oB 7 7) "TopologicalSorter.done" 0 [] .none .none .none .none none .none .none 0)),
oC "done" "TopologicalSorter.done" 425 69 1 7 131 true [.none,(.ref 133),(.ref 134),(.ref 135)] 436,
oO (.type "function") (.func (oF (oB 7 7) "TopologicalSorter.done" 3 [] .none .none .none (oS "cpy313.graphlib" 289) none (.ref 136) .none 0)),
oU [],
oO .none (.fields #[]),
oU [(oS "self" 442),(oS "n2i" 443),(oS "stack" 444),(oS "itstack" 445),(oS "seen" 446),(oS "node2stacki" 447),(oS "node" 448)],
oU [],
oO .none (.func (oF (oB 7 8) "TopologicalSorter._find_cycle" 0 [] .none .none .none .none none .none .none 0)),
oC "_find_cycle" "TopologicalSorter._find_cycle" 439 92 1 3 138 true [.none,(.ref 140),(.ref 141),(.ref 142)] 449,
oO (.type "function") (.func (oF (oB 7 8) "TopologicalSorter._find_cycle" 3 [] .none .none .none (oS "cpy313.graphlib" 289) none (.ref 143) .none 0)),
oU [],
oO .none (.fields #[]),
oU [(oS "self" 455)],
oU [],
oO .none (.func (oF (oB 7 9) "TopologicalSorter.static_order" 0 [] .none .none .none .none none .none .none 0)),
oC "static_order" "TopologicalSorter.static_order" 452 121 1 3 145 true [.none,(.ref 147),(.ref 148),(.ref 149)] 456,
oO (.type "function") (.func (oF (oB 7 9) "TopologicalSorter.static_order" 3 [] .none .none .none (oS "cpy313.graphlib" 289) none (.ref 150) .none 0)),
oU [(oS "_nfinished" 459),(oS "_node2info" 460),(oS "_npassedout" 461),(oS "_ready_nodes" 462)],
oO (.type "dict") (.dict #[oE P "__module__" 359 (oS "cpy313.graphlib" 289),oE P "__firstlineno__" 363 (.int 17 362),oE P "__init__" 373 (.ref 90),oE P "_get_nodeinfo" 382 (.ref 97),oE P "add" 394 (.ref 104),oE P "prepare" 400 (.ref 109),oE P "get_ready" 410 (.ref 116),oE P "is_active" 417 (.ref 123),oE P "__bool__" 424 (.ref 130),oE P "done" 438 (.ref 137),oE P "_find_cycle" 451 (.ref 144),oE P "static_order" 458 (.ref 151),oE P "__static_attributes__" 463 (.ref 152),oE P "__dict__" 465 (.ref 155),oE P "__weakref__" 467 (.ref 156),oE P "__doc__" 468 .none] 4),
⟨(.type "type"),none,(.cls ⟨(oN "TopologicalSorter"),[(.type "object")],[(.ref 154),(.type "object")],153,(oN "TopologicalSorter"),true,[],[],false,none,false⟩),#[none,none,(some (oS "TopologicalSorter" 352)),(some (oS "TopologicalSorter" 360)),(some (.builtin "object.__new__")),(some (.bool true))]⟩,
oO (.type "getset_descriptor") (.fields #[(oS "__dict__" 464),(.ref 154),(.builtin "function.__dict__"),(.builtin "function.__dict__#set")]),
oO (.type "getset_descriptor") (.fields #[(oS "__weakref__" 466),(.ref 154),(.builtin "ExceptionGroup.__weakref__"),.none]),
oO (.type "super") (.fields #[(.ref 154),(.ref 154),(.ref 154)]),
oO (.type "builtin_function_or_method") (.fields #[(.builtin "object.__init_subclass__"),(.ref 154)]),
oO (.type "list") (.seq #[(.int 14 476),(.int 14 477),(.int 4 478),(.int 1 479),(.int 1 480),(.int 9 481),(.int 0 482),(.int 64 483),(.int 0 484),(.int 1342177280 485),(.int 0 486),(.int 0 487),(.int 0 488),(.int 0 489),(.int 0 490),(.int 17 491),(.int 0 492),(.int 13 493),(.int 11 494),(.int 9 495),(.int 0 496),(.int 64 497),(.int 0 498),(.int 1342177280 499),(.int 0 500),(.int 0 501),(.int 0 502),(.int 0 503),(.int 0 504),(.int 17 505),(.int 1 506),(.int 1 507)] 0),
oO (.type "dict") (.dict #[] 0),
oU [.none,.none],
oU [(.int 14 0),(.int 14 0),(.int 4 0),(.int 1 0),(.int 1 0),(.int 9 0),(.int 0 0),(.int 64 0),(.int 0 0),(.int 1342177280 0),(.int 0 0),(.int 0 0),(.int 0 0),(.int 0 0),(.int 0 0),(.int 17 0),(.int 0 0),(.int 13 0),(.int 11 0),(.int 9 0),(.int 0 0),(.int 64 0),(.int 0 0),(.int 1342177280 0),(.int 0 0),(.int 0 0),(.int 0 0),(.int 0 0),(.int 0 0),(.int 17 0),(.int 1 0),(.int 1 0)],
oO (.type "re.Pattern") (.fields #[(oS "([&~|])" 474),(.int 32 509),(.int 1 0),.none,.none,(.ref 162),(.int 0 0)]),
oU [],
oO .none (.fields #[]),
oU [(oS "pat" 514),(oS "STAR" 515),(oS "parts" 516)],
oU [],
oO .none (.func (oF (oA 10) "translate" 0 [] .none .none .none .none none .none .none 0)),
oC "translate" "translate" 511 125 1 3 164 true [.none,(.ref 166),(.ref 167),(.ref 168)] 517,
oO (.type "function") (.func (oF (oA 10) "translate" 3 [] .none .none .none (oS "cpy313.fnmatch" 471) none (.ref 169) .none 0)),
oO (.type "bytes_iterator") (.fields #[.none,(.int 24 0)]),
oO (.type "dict") (.dict #[oI 40 523 "\\(" 527,oI 41 529 "\\)" 533,oI 91 535 "\\[" 539,oI 93 541 "\\]" 545,oI 123 547 "\\{" 551,oI 125 553 "\\}" 557,oI 63 559 "\\?" 563,oI 42 565 "\\*" 569,oI 43 571 "\\+" 575,oI 45 577 "\\-" 581,oI 124 583 "\\|" 587,oI 94 589 "\\^" 593,oI 36 595 "\\$" 599,oI 92 601 "\\\\" 605,oI 46 607 "\\." 611,oI 38 613 "\\&" 617,oI 126 619 "\\~" 623,oI 35 625 "\\#" 629,oI 32 631 "\\ " 635,oI 9 637 "\\\t" 641,oI 10 643 "\\\n" 647,oI 13 649 "\\\x0d" 653,oI 11 655 "\\\x0b" 659,oI 12 661 "\\\x0c" 665] 24),
oO (.type "dict") (.dict #[] 2),
oU [],
oO (.type "StopIteration") (.fields #[(.ref 174),.none,.none,.none,(.bool false),.none]),
oU [],
oO .none (.fields #[]),
oU [(oS "pattern" 671)],
oU [],
oO .none (.func (oF (oA 13) "escape" 0 [] .none .none .none .none none .none .none 0)),
oC "escape" "escape" 668 131 1 3 176 true [.none,(.ref 178),(.ref 179),(.ref 180)] 672,
oO (.type "function") (.func (oF (oA 13) "escape" 3 [] .none .none .none (oS "re" 520) none (.ref 181) .none 0)),
oU [],
oO .none (.fields #[]),
oU [(oS "pat" 680),(oS "STAR" 681),(oS "QUESTION_MARK" 682),(oS "res" 683),(oS "add" 684),(oS "i" 685),(oS "n" 686),(oS "c" 687),(oS "j" 688),(oS "stuff" 689),(oS "chunks" 690),(oS "k" 691),(oS "chunk" 692)],
oU [],
oO .none (.func (oF (oA 15) "_translate" 0 [] .none .none .none .none none .none .none 0)),
oC "_translate" "_translate" 677 138 3 3 183 true [.none,(.ref 185),(.ref 186),(.ref 187)] 693,
oO (.type "function") (.func (oF (oA 15) "_translate" 3 [] .none .none .none (oS "cpy313.fnmatch" 675) none (.ref 188) .none 0)),
oU [],
oO .none (.fields #[]),
oU [(oS "inp" 699),(oS "STAR" 700),(oS "res" 701),(oS "add" 702),(oS "i" 703),(oS "n" 704),(oS "fixed" 705)],
oU [],
oO .none (.func (oF (oA 16) "_join_translated_parts" 0 [] .none .none .none .none none .none .none 0)),
oC "_join_translated_parts" "_join_translated_parts" 696 200 2 3 190 true [.none,(.ref 192),(.ref 193),(.ref 194)] 706,
oO (.type "function") (.func (oF (oA 16) "_join_translated_parts" 3 [] .none .none .none (oS "cpy313.fnmatch" 675) none (.ref 195) .none 0)),
oU [],
oO .none (.fields #[]),
oU [(oS "unhashable_params" 714),(oS "new_unhashable" 715),(oS "t" 716)],
oU [],
oO .none (.func (oF (oA 18) "_deduplicate_unhashable" 0 [] .none .none .none .none none .none .none 0)),
oC "_deduplicate_unhashable" "_deduplicate_unhashable" 711 228 1 3 197 true [.none,(.ref 199),(.ref 200),(.ref 201)] 717,
oO (.type "function") (.func (oF (oA 18) "_deduplicate_unhashable" 3 [] .none .none .none (oS "cpy313.typing" 709) none (.ref 202) .none 0)),
oU [],
oO .none (.fields #[]),
oU [(oS "first_args" 723),(oS "second_args" 724),(oS "first_unhashable" 725),(oS "second_unhashable" 726),(oS "t" 727),(oS "elem" 728)],
oU [],
oO .none (.func (oF (oA 19) "_compare_args_orderless" 0 [] .none .none .none .none none .none .none 0)),
oC "_compare_args_orderless" "_compare_args_orderless" 720 234 2 3 204 true [.none,(.ref 206),(.ref 207),(.ref 208)] 729,
oO (.type "function") (.func (oF (oA 19) "_compare_args_orderless" 3 [] .none .none .none (oS "cpy313.typing" 709) none (.ref 209) .none 0)),
oU [],
oO .none (.fields #[]),
oO .none (.func (oF (oA 21) "_law_text" 0 [] .none .none .none .none none .none .none 0)),
oC "_law_text" "_law_text" 734 245 1 3 211 true [.none,.none,.none,(.ref 213)] 737,
oO (.type "function") (.func (oF (oA 21) "_law_text" 3 [] .none .none .none (oS "law_aa0061_02" 732) none (.ref 214) .none 0)),
oU [],
oO .none (.fields #[]),
oU [(oS "text" 743),(oS "pieces" 744),(oS "k" 745),(oS "size" 746)],
oU [],
oO .none (.func (oF (oA 22) "_law_pieces" 0 [] .none .none .none .none none .none .none 0)),
oC "_law_pieces" "_law_pieces" 740 247 1 3 216 true [.none,(.ref 218),(.ref 219),(.ref 220)] 747,
oO (.type "function") (.func (oF (oA 22) "_law_pieces" 3 [] .none .none .none (oS "law_aa0061_02" 732) none (.ref 221) .none 0)),
oU [],
oO .none (.fields #[]),
oO .none (.func (oF (oA 23) "_law_takes" 0 [] .none .none .none .none none .none .none 0)),
oC "_law_takes" "_law_takes" 750 254 2 3 223 true [.none,.none,.none,(.ref 225)] 753,
oO (.type "function") (.func (oF (oA 23) "_law_takes" 3 [] .none .none .none (oS "law_aa0061_02" 732) none (.ref 226) .none 0)),
oU [],
oO .none (.fields #[]),
oO .none (.func (oF (oA 24) "_law_border" 0 [] .none .none .none .none none .none .none 0)),
oC "_law_border" "_law_border" 756 256 1 3 228 true [.none,.none,.none,(.ref 230)] 759,
oO (.type "function") (.func (oF (oA 24) "_law_border" 3 [] .none .none .none (oS "law_aa0061_02" 732) none (.ref 231) .none 0)),
oU [],
oO .none (.fields #[]),
oO .none (.func (oF (oA 25) "_law_above" 0 [] .none .none .none .none none .none .none 0)),
oC "_law_above" "_law_above" 762 258 2 3 233 true [.none,.none,.none,(.ref 235)] 765,
oO (.type "function") (.func (oF (oA 25) "_law_above" 3 [] .none .none .none (oS "law_aa0061_02" 732) none (.ref 236) .none 0)),
oU [],
oO .none (.fields #[]),
oU [(oS "lower" 771),(oS "cells" 772),(oS "x" 773),(oS "above" 774),(oS "paired" 775),(oS "t" 776),(oS "wider" 777),(oS "pick" 778)],
oU [],
oO .none (.func (oF (oA 26) "_law_pairs" 0 [] .none .none .none .none none .none .none 0)),
oC "_law_pairs" "_law_pairs" 768 261 3 3 238 true [.none,(.ref 240),(.ref 241),(.ref 242)] 779,
oO (.type "function") (.func (oF (oA 26) "_law_pairs" 3 [] .none .none .none (oS "law_aa0061_02" 732) none (.ref 243) .none 0)),
oU [],
oO .none (.fields #[]),
oO .none (.func (oF (oA 27) "_law_sorter" 0 [] .none .none .none .none none .none .none 0)),
oC "_law_sorter" "_law_sorter" 782 270 2 3 245 true [.none,.none,.none,(.ref 247)] 785,
oO (.type "function") (.func (oF (oA 27) "_law_sorter" 3 [] .none .none .none (oS "law_aa0061_02" 732) none (.ref 248) .none 0)),
oU [],
oO .none (.fields #[]),
oU [(oS "masks" 791),(oS "total" 792),(oS "mask" 793)],
oU [],
oO .none (.func (oF (oA 28) "_law_sum" 0 [] .none .none .none .none none .none .none 0)),
oC "_law_sum" "_law_sum" 788 276 1 3 250 true [.none,(.ref 252),(.ref 253),(.ref 254)] 794,
oO (.type "function") (.func (oF (oA 28) "_law_sum" 3 [] .none .none .none (oS "law_aa0061_02" 732) none (.ref 255) .none 0)),
oU [],
oO .none (.fields #[]),
oO .none (.func (oF (oA 29) "_law_leads" 0 [] .none .none .none .none none .none .none 0)),
oC "_law_leads" "_law_leads" 797 281 3 3 257 true [.none,.none,.none,(.ref 259)] 800,
oO (.type "function") (.func (oF (oA 29) "_law_leads" 3 [] .none .none .none (oS "law_aa0061_02" 732) none (.ref 260) .none 0)),
oU [],
oO .none (.fields #[]),
oU [(oS "masks" 806),(oS "heads" 807),(oS "mask" 808),(oS "head" 809)],
oU [],
oO .none (.func (oF (oA 30) "_law_rank" 0 [] .none .none .none .none none .none .none 0)),
oC "_law_rank" "_law_rank" 803 291 1 3 262 true [.none,(.ref 264),(.ref 265),(.ref 266)] 810,
oO (.type "function") (.func (oF (oA 30) "_law_rank" 3 [] .none .none .none (oS "law_aa0061_02" 732) none (.ref 267) .none 0)),
oU [],
oO .none (.fields #[]),
oO .none (.func (oF (oA 31) "_law_holes" 0 [] .none .none .none .none none .none .none 0)),
oC "_law_holes" "_law_holes" 813 299 2 3 269 true [.none,.none,.none,(.ref 271)] 816,
oO (.type "function") (.func (oF (oA 31) "_law_holes" 3 [] .none .none .none (oS "law_aa0061_02" 732) none (.ref 272) .none 0)),
oU [],
oO .none (.fields #[]),
oO .none (.func (oF (oA 32) "law" 0 [] .none .none .none .none none .none .none 0)),
oC "law" "law" 819 305 1 3 274 true [.none,.none,.none,(.ref 276)] 822,
oO (.type "function") (.func (oF (oA 32) "law" 3 [] .none .none .none (oS "law_aa0061_02" 732) none (.ref 277) .none 0))]
noncomputable def H0 (P:Params):Heap:=⟨⟨Gx P⟩,{}⟩
noncomputable def H1 (P:Params):Heap:=⟨⟨ye P⟩,{}⟩
noncomputable def kAs:List Addr:=[2,3,32,34,35,37,38,46,47,49,50,52,53,54,56,57,58,59,60,63,70,71,72,73,83,84,86,87,89,90,91,93,94,96,97,98,100,101,103,104,105,108,109,110,112,113,115,116,117,119,120,122,123,124,126,127,129,130,131,133,134,136,137,138,140,141,143,144,145,147,148,150,151,152,153,154,155,156,162,163,164,166,167,169,170,172,176,178,179,181,182,183,185,186,188,189,190,192,193,195,196,197,199,200,202,203,204,206,207,209,210,211,214,215,216,218,219,221,222,223,226,227,228,231,232,233,236,237,238,240,241,243,244,245,248,249,250,252,253,255,256,257,260,261,262,264,265,267,268,269,272,273,274,277,278]
noncomputable def EA (l:List Obj):List Addr->Frag
 | []=>[]
 | a::as=>(a,l.getD a default)::EA l as
noncomputable def K3 (P:Params):Frag:=EA (ye P) kAs
noncomputable def view:Program:={prg with main:={prg.main with body:=[0,1,3,4,5,6,7,9,10,12,13,15,16,18,19,21,22,23,24,25,26,27,28,29,30,31,32].map oA}}
theorem Gl:∀ w:World,(fencedOpening treeTable prg w 5986).map (fun s=>(s.heap,s.gens,s.drawn,s.toks))=some (H0 w.params,⟨[]⟩,{},276):=fun w=>by kernel_rfl
theorem GH:∀ w:World,((H0 w.params).isNs mainGlobals&&(⟨[]⟩:Array GenState).size==0,(H0 w.params).objs.size,(H0 w.params).nsMap mainGlobals "__annotations__")=(true,28,some (.ref 6)):=fun w=>by kernel_rfl
theorem FR:∀ P,kAs=(K3 P).map (·.1):=fun _=>by kernel_rfl
noncomputable abbrev rh:Hook:=kHook K3 kAs FR
noncomputable abbrev qL:List Str:=["_NodeInfo", "_twin_re_1", "_special_chars_map"]
theorem Ga:∀ w:World,(fun os=>((staticsOk (importedModules prg.main.body) (H0 w.params) (H1 w.params)&&namesBound prg (H1 w.params)&&gensDone ⟨H1 w.params,⟨[]⟩,{},825,os⟩&&laidKept (H0 w.params) (H1 w.params)),
    openSeen view qL (importedModules prg.main.body) (fun s=>xlAt view [] s&&recOk PySem.Challenge.rw_aa0061_02.row.records s) true ⟨H1 w.params,⟨[]⟩,{},825,os⟩,rh.obs ⟨H1 w.params,⟨[]⟩,{},825,os⟩))=fun _=>(true,openGood view qL,rh.val w):=fun w=>by kernel_rfl
noncomputable def Hm:Data->List DictEntry
 | .dict es _=>es.toList
 | _=>[]
noncomputable def Hb:Data->List Value
 | .fields vs=>vs.toList
 | _=>[]
noncomputable def GT (l:List Obj) (P:Params) (n e m:Nat) (nm:Value):List Obj:=
 l.take 3++oO (.type "dict") (.dict ⟨oE P "__name__" 165 nm::((Hm (l.getD 3 default).data).drop 1).take e⟩ (e+1))::((l.drop 4).take 25++oO .none (.fields ⟨(Hb (l.getD 29 default).data).take (3 * m)⟩)::(l.drop 30).take n)
noncomputable def alt:List Obj->Bool->List Obj
 | [],_=>[]
 | a::l,b=>match b with
  | true=>a::alt l false
  | false=>alt l true
noncomputable def trO:Nat->List Obj->BT
 | 0,_=>.nil
 | k+1,l=>match l with
  | []=>.nil
  | v::l=>.node v (trO k (alt l true)) (trO k (alt l false))
noncomputable def SMT (n e m:Nat) (nm:Value) (t:Nat) (w:World) (os:OsState):SharedT:=⟨trO 10 (GT (ye w.params) w.params n e m nm),n+30,{},⟨[]⟩,{},t,os⟩
noncomputable def gu:List Stmt:=behindTheImports prg
noncomputable def CI:Env:={scope:=prg.main.scope,locals:=mainNs,globals:=mainNs,cells:=[],code:=.ref 30,frame:=some 31}
noncomputable def cdT:Code:=.body gu CI
noncomputable abbrev tR (w:World):=topRun treeTable prg w 28 (some (.ref 6))
noncomputable abbrev q0:List Frame:=[topFrame default]
noncomputable def wb (n:Nat) (s:World->OsState->SharedT) (l:List Stmt) (p:Pos) (s':World->OsState->SharedT) (p':Pos) (w:World):Prop:=
 ∀ os,segRunT treeTable prg w 28 (some (.ref 6)) 1 n (s w os) (piecesOf l CI cdT p q0)=some (.next,s' w os,cdT,p')
noncomputable def sm0:=SMT 2 9 0 (oS "__main__" 164) 282
noncomputable def sm1:=SMT 33 13 2 (oS "cpy313.graphlib" 289) 334
noncomputable def sm2:=SMT 46 14 3 (oS "cpy313.graphlib" 289) 352
noncomputable def sm3:=SMT 129 15 4 (oS "cpy313.graphlib" 289) 471
noncomputable def sm4:=SMT 141 17 5 (oS "re" 520) 522
noncomputable def sm5:=SMT 146 18 5 (oS "re" 520) 668
noncomputable def sm6 (w:World) (os:OsState):SharedT:=⟨trO 10 (ye w.params),279,{},⟨[]⟩,{},825,os⟩
theorem G2 (w:World) (os:OsState):topGo treeTable prg w 28 (some (.ref 6)) 12 ⟨H0 w.params,⟨[]⟩,{},276,os⟩ (topStub prg)=some ((sm0 w os).abs,⟨denote treeTable cdT,cdT,default,q0⟩):=by kernel_rfl
theorem Hi (w:World) (os:OsState):segRunT treeTable prg w 28 (some (.ref 6)) 1 1 (sm0 w os) (blockOf gu CI cdT default q0)=some (.next,sm0 w os,cdT,default):=by kernel_rfl
theorem GZ (w:World):wb 340 sm0 ((gu.drop 0).take 5) default sm1 ⟨8,0,14,28⟩ w:=fun os=>by kernel_rfl
theorem G0 (w:World):wb 190 sm1 ((gu.drop 5).take 1) ⟨8,0,14,28⟩ sm2 ⟨15,0,16,8⟩ w:=fun os=>by kernel_rfl
theorem G1 (w:World):wb 530 sm2 ((gu.drop 6).take 1) ⟨15,0,16,8⟩ sm3 ⟨17,0,122,16⟩ w:=fun os=>by kernel_rfl
theorem G7 (w:World):wb 140 sm3 ((gu.drop 7).take 4) ⟨17,0,122,16⟩ sm4 ⟨129,0,129,8⟩ w:=fun os=>by kernel_rfl
noncomputable def wB (w:World):Prop:=wb 1300 sm4 ((gu.drop 11).take 1) ⟨129,0,129,8⟩ sm5 ⟨130,0,130,18⟩ w
theorem Gh (w:World):wB ((w.withFollow "special-get-raises" false).withFollow "comprehension-iter-twice" false):=fun os=>by kernel_rfl
theorem Gm (w:World):wB ((w.withFollow "special-get-raises" true).withFollow "comprehension-iter-twice" false):=fun os=>by kernel_rfl
theorem Gd (w:World):wB ((w.withFollow "special-get-raises" false).withFollow "comprehension-iter-twice" true):=fun os=>by kernel_rfl
theorem GF (w:World):wB ((w.withFollow "special-get-raises" true).withFollow "comprehension-iter-twice" true):=fun os=>by kernel_rfl
theorem G4:∀ w:World,wB w:=
 byRow2 "comprehension-iter-twice" (fun w=>byRow2 "special-get-raises" (P:=fun w=>wB (w.withFollow "comprehension-iter-twice" false)) Gh Gm w)
  fun w=>byRow2 "special-get-raises" (P:=fun w=>wB (w.withFollow "comprehension-iter-twice" true)) Gd GF w
theorem Hk (w:World):wb 540 sm5 (gu.drop 12) ⟨130,0,130,18⟩ sm6 ⟨305,0,333,86⟩ w:=fun os=>by kernel_rfl
theorem GU (w:World) (os:OsState):(sm6 w os).abs=⟨H1 w.params,⟨[]⟩,{},825,os⟩:=by kernel_rfl
theorem GW (w:World) (os:OsState):tR w 2 ⟨H1 w.params,⟨[]⟩,{},825,os⟩ ⟨doneF .next,cdT,⟨305,0,333,86⟩,q0⟩=some ⟨H1 w.params,⟨[]⟩,{},825,os⟩:=by kernel_rfl
theorem vq (k n:Nat):gu.drop k=(gu.drop k).take n++gu.drop (k+n):=by rw [← List.drop_drop,List.take_append_drop]
theorem y5 {n N:Nat} {s s':World->OsState->SharedT} {l rest:List Stmt} {p p':Pos} {w:World} {os:OsState} {r:Shared} (h:wb n s l p s' p' w) (k:tR w N (s' w os).abs (restOf rest CI cdT p' q0)=some r):
  tR w (n+N) (s w os).abs (restOf (l++rest) CI cdT p q0)=some r:=piece_app (segRun_of (h os)) k
theorem Hg (w:World) (os:OsState):tR w (12+(1+(340+(190+(530+(140+(1300+(540+2)))))))) ⟨H0 w.params,⟨[]⟩,{},276,os⟩ (topStub prg)=some ⟨H1 w.params,⟨[]⟩,{},825,os⟩:=by
 refine go_top (G2 w os) (piece_block (segRun_of (Hi w os)) ?_)
 have e:gu=(gu.drop 0).take 5++((gu.drop 5).take 1++((gu.drop 6).take 1++((gu.drop 7).take 4++((gu.drop 11).take 1++(gu.drop 12++[]))))):=by
  rw [List.append_nil,← vq 11 1,← vq 7 4,← vq 6 1,← vq 5 1,← vq 0 5];rfl
 have k:=y5 (GZ w) (y5 (G0 w) (y5 (G1 w) (y5 (G7 w) (y5 (G4 w) (y5 (rest:=[]) (Hk w) (GU w os▸GW w os))))));rw [← e,GU] at k;exact k
noncomputable abbrev Xt3:Shared->Bool:=fun s=>xlAt view [] s&&recOk PySem.Challenge.rw_aa0061_02.row.records s
theorem GI:LeftO prg view qL Xt3 rh.obs rh.val 5986:=LeftO.of_pieces Gl GH Hg (by decide +kernel) Ga
noncomputable def Fc:{q:DefRec×List (Str×PySem.Expr) // defOf view PySem.Challenge.rw_aa0061_02.row.name=some q}:=⟨_,rfl⟩
theorem GJ:PySem.Challenge.rw_aa0061_02.wellSaid=true:=by kernel_rfl
theorem hd3 (walk:WalkO view qL (XL view []) rh.says PySem.Challenge.rw_aa0061_02.row.toRowW Fc.1.1 Fc.1.2 fun f vs=>PySem.call f vs):PySem.Challenge.rw_aa0061_02.Holds:=
 holds_law GJ fun said=>holds_open (q:=view) (loose:=qL) (Xt:=Xt3) (XP:=XL view []) (Yf:=rh.obs) (Ya:=rh.val) (YP:=rh.says) (N:=5986) GI rh.of rh.keeps (fun s e=>xl_of s (Bool.and_eq_true_iff.mp e).1) XL.keeps
  Fc.2 (by kernel_rfl) (by kernel_rfl) (fun s e=>recFacts_of (Bool.and_eq_true_iff.mp e).2) (by kernel_rfl) said (by kernel_rfl) ⟨rfl,rfl,rfl,rfl,rfl,by decide +kernel⟩ ⟨[.list []],by decide +kernel,by decide +kernel⟩ walk
section
variable {x:Ctx}
theorem o7 (a:Addr):Meets (Builtin.«bool.__new__» ⟨[.type "bool",.ref a],[]⟩) (fun _ R s=>∃ vs,s.heap.IsList a vs/\(vs.size:Int) < 2 ^ 63/\R (.ok (.ret (.bool (!vs.isEmpty)))) {s with toks:=s.toks+1+1}):=
 Meets.of_wp fun prog w A R s hs=>by
  obtain ⟨vs,hl,hz,hs⟩:=hs;obtain ⟨hp,g,d,tk,os⟩:=s;have f1:=F.conv_sub_bool
  repeat (any_goals (first | assumption | (with_reducible refine wpAny_truthy_list hl hz ?_) | wp_step))
  all_goals first | exact ⟨_,rfl,hs⟩ | exact hs | skip
noncomputable def yR (d:D) (σ:List O):Option D:=(viewL σ d).bind fun ds=>if ds.length<=ar then some (.py (.bool (!ds.isEmpty))) else none
noncomputable def Bu:List D->AM D
 | [d]=>eA (yR d)
 | _=>AM.fail
theorem xl:eV x (.type "bool") Bu:=kj rfl (fun _ _ _=>rfl) fun P v d hr=>by
 intro ρ σ l s r st' e hs hp;obtain ⟨_,ho,rfl,rfl⟩:=eN (f:=yR d) e;obtain ⟨ds,e1,e2⟩:=Option.bind_eq_some_iff.mp ho;obtain ⟨hz,rfl⟩:=bb e2;obtain ⟨a,vs,rfl,hl,hr⟩:=hs.inv.viewL (hr _ _ hp) e1;have z:=hr.length;rw [Array.length_toList] at z;have hsm:ar=1000000:=rfl;refine call_bool_1 (o7 a) (show ∃ vs,_ from ⟨vs,hl,by omega,rfl,?_⟩);rw [uh z];exact ⟨_,l,rfl,hs.toks _,.refl ..,.py (.bool _)⟩
noncomputable def ky:List PyData->Option (List Int)
 | []=>some []
 | .int n::r=>(ky r).map (n::·)
 | _::_=>none
theorem oK {p:PyData} {ps:List PyData} {ys:List Int} (e:ky (p::ps)=some ys):∃ y zs,p=.int y/\ky ps=some zs/\ys=y::zs:=by
 cases p with
 | int y=>
  obtain ⟨zs,e1,e2⟩:=Option.map_eq_some_iff.mp (show (ky ps).map (y::·)=some ys from e);exact ⟨y,zs,rfl,e1,e2.symm⟩
 | _=>cases e
noncomputable def nth (ns:List Int) (i:Nat):Int:=ns.getD i 0
theorem zh {h:Heap} {F:Addr->Prop} {vs:List Value} {ps:List PyData} {ns:List Int} (r:bA h F vs ps) (e:ky ps=some ns):∀ (i:Nat) (v:Value),vs[i]?=some v->∃ t,v=.int (nth ns i) t:=by
 refine r.ind (C:=fun vs ps=>∀ ns,ky ps=some ns->∀ (i:Nat) (v:Value),vs[i]?=some v->∃ t,v=.int (nth ns i) t) (fun ns _ i v h=>by cases h) (fun r _ ih ns e i v h=>?_) ns e;obtain ⟨y,zs,rfl,e1,rfl⟩:=oK e;cases i with
 | zero=>cases h; cases r; exact ⟨_,rfl⟩
 | succ i=>exact ih zs e1 i v h
theorem lE:∀ {ps:List PyData} {ns:List Int},ky ps=some ns->ns.length=ps.length
 | [],_,e=>by cases e; rfl
 | _::_,_,e=>by
  obtain ⟨y,zs,rfl,e1,rfl⟩:=oK e;exact congrArg (·+1) (lE e1)
noncomputable def ED (σ:List O) (d:D):Option (List Int):=((w4 σ d).bind list?).bind ky
theorem CV {σ:List O} {l:Lay} {s:Shared} {v:Value} {d:D} {ns:List Int} (i:Inv x.c σ l s.heap) (rv:Rep s.heap l v d) (e:ED σ d=some ns):
  ∃ a vs,v=.ref a/\s.heap.IsList a vs/\vs.size=ns.length/\∀ (i:Nat) (v:Value),vs[i]?=some v->∃ t,v=.int (nth ns i) t:=by
 obtain ⟨ps,e1,e2⟩:=Option.bind_eq_some_iff.mp e;obtain ⟨p,e3,e4⟩:=Option.bind_eq_some_iff.mp e1;obtain rfl:=list?_some e4;obtain ⟨a,vs,rfl,hl,r⟩:=(rQ i rv e3).isL;refine ⟨a,vs,rfl,hl,?_,fun i v h=>zh r e2 i v (by rw [Array.getElem?_toList]; exact h)⟩;rw [lE e2,← r.length,Array.length_toList]
theorem Bc {ρ:aq} {σ:List O} {l:Lay} {s:Shared} (hs:St x ρ σ l s) {it:Obj} {h':Heap} {tk:Tok} (hk:∀ b o,b∉[s.heap.objs.size]->(s.heap.push it).get? b=some o->h'.get? b=some o):
  St x ρ σ l {s with heap:=h',toks:=tk}/\bt x.c x.S x.W l s.heap l h':=
 hs.grow (s':={s with heap:=h',toks:=tk}) (fun b o e=>hk b o (fun z=>Nat.ne_of_lt (Heap.lt_size e) (List.mem_singleton.mp z)) (Heap.get?_push_of_some _ e)) rfl rfl
theorem Et {h:Heap} {a:Addr} {vs:Array Value} (hl:h.IsList a vs) {A:Around} (hh:A.handled=none) {prog:Program} {w:World}:
  Walks prog w A h.objs.size [h.objs.size,a] [h.objs.size] vs.size (fun i v=>vs[i]?=some v) (fun i h'=>h'.IsListIter h.objs.size a i/\h'.IsList a vs)/\
  ((h.push {cls:=.type "list_iterator",data:=.fields #[.ref a,.int 0 0]}).IsListIter h.objs.size a 0/\(h.push {cls:=.type "list_iterator",data:=.fields #[.ref a,.int 0 0]}).IsList a vs)/\
  ∀ b∈[h.objs.size,a],b < (h.push {cls:=.type "list_iterator",data:=.fields #[.ref a,.int 0 0]}).objs.size:=by
 have lt:a < h.objs.size:=by obtain ⟨o,q,_⟩:=hl; exact Heap.lt_size q
 refine ⟨Walks.list hh _ a (Nat.ne_of_lt lt) vs,⟨⟨_,Heap.get?_push_size _ rfl,rfl,rfl⟩,hl.push _⟩,fun b hb=>?_⟩;have:(h.push {cls:=.type "list_iterator",data:=.fields #[.ref a,.int 0 0]}).objs.size=h.objs.size+1:=by simp [Heap.push]
 rw [this];rcases List.mem_cons.mp hb with e | e
 .exact e▸Nat.lt_succ_self _
 .exact Nat.lt_succ_of_lt (List.mem_singleton.mp e▸lt)
theorem AQ {h:Heap} {a:Addr} {vs:Array Value} (hl:IsTup h a vs) {A:Around} (hh:A.handled=none) {prog:Program} {w:World}:
  Walks prog w A h.objs.size [h.objs.size,a] [h.objs.size] vs.size (fun i v=>vs[i]?=some v) (fun i h'=>h'.IsTupleIter h.objs.size a i/\h'.IsTuple a vs)/\
  ((h.push {cls:=.type "tuple_iterator",data:=.fields #[.ref a,.int 0 0]}).IsTupleIter h.objs.size a 0/\(h.push {cls:=.type "tuple_iterator",data:=.fields #[.ref a,.int 0 0]}).IsTuple a vs)/\
  ∀ b∈[h.objs.size,a],b < (h.push {cls:=.type "tuple_iterator",data:=.fields #[.ref a,.int 0 0]}).objs.size:=by
 have lt:a < h.objs.size:=by obtain ⟨o,q,_⟩:=hl; exact Heap.lt_size q
 refine ⟨Walks.tuple hh _ a (Nat.ne_of_lt lt) vs,⟨⟨_,Heap.get?_push_size _ rfl,rfl,rfl⟩,IsTup.keeps hl fun b o e=>Heap.get?_push_of_some _ e⟩,fun b hb=>?_⟩;have:(h.push {cls:=.type "tuple_iterator",data:=.fields #[.ref a,.int 0 0]}).objs.size=h.objs.size+1:=by simp [Heap.push]
 rw [this];rcases List.mem_cons.mp hb with e | e
 .exact e▸Nat.lt_succ_self _
 .exact Nat.lt_succ_of_lt (List.mem_singleton.mp e▸lt)
noncomputable def GX (ns:List Int):Int:=nth ns (argBest (fun i j=>decide (nth ns i < nth ns j)) (ns.length - 1))
noncomputable def FH (d:D) (σ:List O):Option D:=(ED σ d).bind fun ns=>if 0 < ns.length then some (.py (.int (GX ns))) else none
noncomputable def yd (a b:D):Option D:=(oV D.int? a b).map fun q=>.py (.int (if q.2 < q.1 then q.2 else q.1))
noncomputable def Gb:List D->AM D
 | [d]=>eA (FH d)
 | [a,b]=>eA fun _=>yd a b
 | _=>AM.fail
theorem Hj (hq:x.quiet=true) {P:MP} {v:Value} {d:D} (hr:∀ h l,P.p h l->Rep h l v d):Sim x P MP.rep (PySem.call (.builtin "min") [v] []) (eA (FH d)):=by
 intro ρ σ l s r st' e hs hp;obtain ⟨_,ho,rfl,rfl⟩:=eN (f:=FH d) e;obtain ⟨ns,e1,e2⟩:=Option.bind_eq_some_iff.mp ho;obtain ⟨hz,rfl⟩:=bb e2;obtain ⟨a,vs,rfl,hl,hn,hv⟩:=CV hs.inv (hr _ _ hp) e1;obtain ⟨w1,w2,w3⟩:=Et hl (prog:=x.c.prog) (w:=x.c.w) (A:=x.A.in1) (x.hquiet hq);refine call_min_walk (wpAny_pyIter_list hl ⟨_,_,_,_,_,_,_,rfl,w1,w2,w3,hn▸hz,CmpOf.ints_lt (nth ns) hv,fun v h' tk hP hk=>?_⟩);obtain ⟨t,rfl⟩:=hv _ _ hP;rw [hn];obtain ⟨k1,k2⟩:=Bc hs hk;exact ⟨_,l,rfl,k1,k2,.py (.int _ _)⟩
theorem G3 (hq:x.quiet=true) {P:MP} {v w:Value} {a b:D} (hv:∀ h l,P.p h l->Rep h l v a) (hw:∀ h l,P.p h l->Rep h l w b):Sim x P MP.rep (PySem.call (.builtin "min") [v,w] []) (eA fun _=>yd a b):=by
 intro ρ σ l s r st' e hs hp;obtain ⟨_,ho,rfl,rfl⟩:=eN (f:=fun _=>yd a b) e;obtain ⟨⟨m,n⟩,e1,rfl⟩:=Option.map_eq_some_iff.mp ho;obtain ⟨h1,h2⟩:=eK e1;obtain ⟨t,rfl⟩:=(hv _ _ hp).int? h1;obtain ⟨u,rfl⟩:=(hw _ _ hp).int? h2;have it:IsTup (s.heap.push {cls:=.type "tuple",data:=.seq #[.int m t,.int n u]}) s.heap.objs.size #[.int m t,.int n u]:=⟨_,Heap.get?_push_size _ rfl,rfl,_,rfl⟩
 have ho:(s.heap.push {cls:=.type "tuple",data:=.seq #[.int m t,.int n u]}).objs.size=s.heap.objs.size+1:=by simp [Heap.push]
 obtain ⟨w1,w2,w3⟩:=AQ it (prog:=x.c.prog) (w:=x.c.w) (A:=x.A.in1) (x.hquiet hq);refine call_min_two (wpAny_pyIter_tuple it ⟨_,_,_,_,_,_,_,rfl,w1,w2,w3,Nat.zero_lt_two,CmpOf.ints_lt (nth [m,n]) (fun i v hi=>?_),fun v h' tk hP hk=>?_⟩)
 .match i,hi with
  | 0,hi=>cases hi; exact ⟨_,rfl⟩
  | 1,hi=>cases hi; exact ⟨_,rfl⟩
 .have hk2:∀ b o,s.heap.get? b=some o->h'.get? b=some o:=fun b o e=>hk b o (fun z=>by have z1:b=s.heap.objs.size+1:=(List.mem_singleton.mp z).trans ho; exact Nat.lt_irrefl _ (Nat.lt_trans (z1▸Heap.lt_size e) (Nat.lt_succ_self _))) (Heap.get?_push_of_some _ (Heap.get?_push_of_some _ e));obtain ⟨k1,k2⟩:=hs.grow (s':={s with heap:=h',toks:=tk}) hk2 rfl rfl;refine ⟨_,l,rfl,k1,k2,?_⟩
  have e2:argBest (fun i j=>decide (nth [m,n] i < nth [m,n] j)) 1=if n < m then 1 else 0:=by
   show (if decide (n < m)=true then 0+1 else 0)=_;by_cases q:n < m <;> simp [q]
  have hP:(#[.int m t,.int n u]:Array Value)[argBest (fun i j=>decide (nth [m,n] i < nth [m,n] j)) 1]?=some v:=hP;rw [e2] at hP;by_cases hlt:n < m
  .rw [if_pos hlt] at hP;cases hP;show Rep _ _ _ (.py (.int (if n < m then n else m)));rw [if_pos hlt];exact .py (.int _ _)
  .rw [if_neg hlt] at hP;cases hP;show Rep _ _ _ (.py (.int (if n < m then n else m)));rw [if_neg hlt];exact .py (.int _ _)
theorem zw (hq:x.quiet=true):eV x (.builtin "min") Gb:=fun P vs ds hvs=>by
 rcases ds with _ | ⟨a,_ | ⟨b,_ | ⟨c,t⟩⟩⟩
 .exact Sim.fail
 .intro ρ σ l s r st' e hs hp;obtain ⟨v,rfl,_⟩:=(hvs _ _ hp).one;exact Hj hq (fun h l q=>by obtain ⟨v',e,r⟩:=(hvs h l q).one; cases e; exact r) ρ σ l s r st' e hs hp
 .intro ρ σ l s r st' e hs hp;obtain ⟨w,w0,rfl,_⟩:=(hvs _ _ hp).two;exact G3 hq (fun h l q=>by obtain ⟨w',w0',e,r,_⟩:=(hvs h l q).two; cases e; exact r) (fun h l q=>by obtain ⟨w',w0',e,_,r⟩:=(hvs h l q).two; cases e; exact r) ρ σ l s r st' e hs hp
 .exact Sim.fail
end
section
variable {x:Ctx}
end
section
variable {x:Ctx}
noncomputable def xi (d u:D) (σ:List O):Option D:=((viewP σ d).bind list?).bind fun ps=>(viewP σ u).bind fun p=>if okP p=true/\okP (.list ps)=true/\ps.length<=ar then (ps.findIdx? fun y=>PyData.eqv y p).map fun (j:Nat)=>.py (.int (j:Int)) else none
noncomputable def gZ (d:D):List D->AM D
 | [u]=>eA (xi d u)
 | _=>AM.fail
theorem pC:gA x "list.index" gZ:=iB (fun _=>rfl) (fun _ _ _ _=>rfl) fun P v d w u hv hvs=>by
 intro ρ σ l s r st' e hs hp;have rv:=hvs _ _ hp;obtain ⟨_,ho,rfl,rfl⟩:=eN (f:=xi d u) e;obtain ⟨ps,h1,h2⟩:=Option.bind_eq_some_iff.mp ho;obtain ⟨q,h3,h4⟩:=Option.bind_eq_some_iff.mp h1;obtain ⟨p,hpv,h6⟩:=Option.bind_eq_some_iff.mp h2;obtain ⟨⟨o1,o2,hz⟩,h7⟩:=gf h6;obtain ⟨j,hj,rfl⟩:=Option.map_eq_some_iff.mp h7;obtain rfl:=list?_some h4;obtain ⟨a,us,rfl,hl,hrp⟩:=hs.inv.viewPL (hv _ _ hp) h3;have z:=hrp.length;rw [Array.length_toList] at z;obtain ⟨heq,at_⟩:=BS hs hrp rv hpv o1 o2;obtain ⟨⟨cls,dd,data,sl⟩,ho,hc,n,hd⟩:=hl;simp only at hc hd;subst hc hd;have hT:s.TypeIs (.ref a) "list" :=⟨_,ho,rfl⟩
 obtain ⟨hj1,hj2,hj3⟩:=List.findIdx?_eq_some_iff_getElem.mp hj;have hju:j < us.size:=by rw [z]; exact hj1
 have hsm:ar=1000000:=rfl;exact call_meets PySem.F.slot_list_index hT PySem.F.entry_list_index (PySem.F.args_list_index_2 _ _) (SeqAt.list_indexAt _ us n dd sl w (wL s.heap l.F p) j hju (by omega) ((at_ j hju _ (List.getElem?_eq_getElem hj1)).trans hj2) (fun m hm hmj=>(at_ m hm _ (List.getElem?_eq_getElem (z▸hm))).trans (Bool.not_eq_true _▸hj3 m hmj))) ⟨ho,heq,⟨_,l,rfl,hs.toks _,.refl ..,.py (.int _ _)⟩⟩
end
noncomputable def pp (o i v:D):AM Unit:=rG (fun ob=>(ob.dict?.bind fun q=>(ic i).bind fun k=>ir q.1 q.2 k v).map fun o'=>(o',())) o
noncomputable def m7 (chk:Chk) (body:D->AM Unit):Nat->List D->AM Unit
 | k,[]=>chk k
 | k,d::ds=>chk k>>=fun _=>body d>>=fun _=>m7 chk body (k+1) ds
noncomputable def tm (n:Nat) (tgt:D->AM Unit) (kf vf:AM D) (d:D):AM Unit:=tgt d>>=fun _=>kf>>=fun kd=>vf>>=fun vd=>pp (.obj n) kd vd
noncomputable def FT (fs:List String) (f:Nat->AM Unit):AM D:=fun st=>(f st.σ.length ⟨restr fs st.ρ,st.σ++[.dict 0 []]⟩).bind fun q=>match q.1 with
 | .ok _=>some (.ok (.obj st.σ.length),⟨st.ρ,q.2.σ⟩)
 | .error _=>none
noncomputable def tH (fs:List String) (it:AM (List D×Chk)) (tgt:D->AM Unit) (kf vf:AM D):AM D:=it>>=fun p=>FT fs fun n=>m7 p.2 (tm n tgt kf vf) 0 p.1
section
variable {x:Ctx} {P:MP}
theorem vC {a:Addr} {vi vv:Value} {o i v:D} (ho:∀ h l,P.p h l->Rep h l (.ref a) o) (hi:∀ h l,P.p h l->Rep h l vi i) (hv:∀ h l,P.p h l->Rep h l vv v):Sim x P (fun _ _=>MP.tt) (dictSet a vi vv) (pp o i v):=
 Sim.upd ho (fun ob q e=>by cases ob <;> first | rfl | cases e) fun {ρ σ l s p ob q} hs hp e r h2 hf {Q E} k=>by
  injection e with e
  subst e;have ri:=hi _ _ hp;have rv:=hv _ _ hp;obtain ⟨o',g,rfl⟩:=Option.map_eq_some_iff.mp hf;obtain ⟨q,hd,g2⟩:=Option.bind_eq_some_iff.mp g;obtain ⟨j,hj,g3⟩:=Option.bind_eq_some_iff.mp g2;obtain ⟨hz,rfl⟩:=bb g3;obtain rfl:=O.dict?_some hd;obtain ⟨vs,hl,hr⟩:=r;refine qC (jY ri hj).1 hl (fun h' hd' hsb=>k () h' _ (.one hsb (let ⟨_,_,q,_⟩:=hd'; ⟨_,q⟩) h2) fun la=>⟨⟨_,?_,(hr.later la).store (rv.later la)⟩,trivial⟩) (by rw [hr.length]; exact bD hz);rw [hr.any j] at hd'; exact hd'
theorem y8 {ke ve:Expr} {pos:Pos} {a:Addr} {n:Nat} {kf vf:AM D} (hk:a9 x ke kf) (hv:a9 x ve vf):
  Sim x (MP.rep (.ref a) (.obj n)) (fun _ _=>MP.tt) (eval ke x.env>>=fun kv=>holding [kv] (eval ve x.env)>>=fun vv=>standAt pos>>=fun _=>holding [kv,vv] (dictSet a kv vv)) (kf>>=fun kd=>vf>>=fun vd=>pp (.obj n) kd vd):=by
 refine (hk _).bind fun kv kd=>((hv _).holding).bind fun vv vd=>Sim.at ?_;refine Sim.holding ?_;exact vC (fun h l q=>q.1.1) (fun h l q=>q.1.2) fun h l q=>q.2
theorem Bj {ke ve:Expr} {scope:Scope} {pos:Pos} {it:Value} {a:Addr} {env:Env} {target iter:Expr}:
  compTurn (.DictComp ke ve [⟨target,iter,[],0⟩] scope pos) 0 it (.ref a) env=(do
   standAt iter.pos
   match ← pyNext it with
   | none=>pure (.done .next)
   | some v=>
    letOwnedTupleGo target it v
    assign target env v
    (eval ke env>>=fun kv=>holding [kv] (eval ve env)>>=fun vv=>standAt {ke.pos with endLine:=ve.pos.endLine,endCol:=ve.pos.endCol}>>=fun _=>holding [kv,vv] (dictSet a kv vv))
    PySem.again (.compLoop (.DictComp ke ve [⟨target,iter,[],0⟩] scope pos) 0 it (.ref a) env)):=by
 unfold compTurn;rfl
theorem zV {prog:Program} {w:World} {A:Around} {s:Shared} {R:Result->Shared->Prop} {ke ve:Expr} {scope:Scope} {pos:Pos} {it acc:Value} {env:Env} {target iter:Expr}
  (h0:codeAny (model prog w) A (.compLoop (.DictComp ke ve [⟨target,iter,[],0⟩] scope pos) 0 it acc env) R s)
  (h:wpAny (model prog w) A (pyIter it) (fun it' s'=>codeAny (model prog w) A (.compLoop (.DictComp ke ve [⟨target,iter,[],0⟩] scope pos) 0 it' acc env) R s') (notedBy (model prog w) A env fun x s'=>R (.error x) s') s):
  codeAny (model prog w) A (.compStart (.DictComp ke ve [⟨target,iter,[],0⟩] scope pos) 0 it acc env) R s:=by
 refine codeAny_of_tree ?_;show wpAny _ _ ((compStart (.DictComp ke ve [⟨target,iter,[],0⟩] scope pos) 0 it acc env).onRaise (fun x=>do noteFrame x env; standAt theWindowsPlace)) _ _ s;refine wpAny_notedAt ?_;unfold compStart;have hc:(clausesOf (.DictComp ke ve [⟨target,iter,[],0⟩] scope pos))[0]?=some ⟨target,iter,[],0⟩:=rfl;rw [hc];show wpAny _ _ (ask>>=_) _ _ s;refine wpAny_bind (wpAny_askSetting (wpAny_ite ?_));split
 .exact wpAny_bind (wpAny_pure (wpAny_pure (And.intro rfl h0)))
 .refine wpAny_bind (wpAny_rule ?_);show wpAny _ _ (standAt iter.pos>>=_) _ _ s;exact wpAny_bind (wpAny_standAt (wpAny_bind (wpAny_mono h (fun it' s' h'=>wpAny_pure (And.intro rfl h')) fun _ _ x=>x)))
end
section
variable {y:Ctx} {ke ve:Expr} {scope:Scope} {pos:Pos} {target iter:Expr} {kf vf:AM D} {tg:D->AM Unit}
inductive DpQ (y:Ctx) (a:Addr) (n:Nat) (lA:Lay) (hA:Heap) (st':ASt) (q:Result) (s':Shared):Prop
 | mk (f:Flow) (l':Lay):q=.ok f->St y st'.ρ st'.σ l' s'->Rep s'.heap l' (.ref a) (.obj n)->bt y.c y.S y.W lA hA l' s'.heap->DpQ y a n lA hA st' q s'
inductive DpI (y:Ctx) (a:Addr) (n:Nat) (lA:Lay) (hA:Heap) (st':ASt) (body:D->AM Unit) (items:List D) (chk:Chk) (Pk:Nat->Heap->Lay->Prop) (m:Nat) (s:Shared):Prop
 | mk (k:Nat) (ρ:aq) (σ:List O) (l:Lay):m=items.length+1 - k->k<=items.length->m7 chk body k (items.drop k) ⟨ρ,σ⟩=some (.ok (),st')->St y ρ σ l s->Rep s.heap l (.ref a) (.obj n)->Pk k s.heap l->bt y.c y.S y.W lA hA l s.heap->DpI y a n lA hA st' body items chk Pk m s
theorem wE (hk:a9 y ke kf) (hv:a9 y ve vf) (ht:j8 y target tg) {it:Value} {items:List D} {chk:Chk} {Me:Addr->Prop} {Pk:Nat->Heap->Lay->Prop} {Mid:Nat->Value->Heap->Lay->Prop} (W:Wk y it items chk cw Me Pk Mid) {a:Addr} {n:Nat} {lA:Lay} {hA:Heap} (hMA:∀ b,Me b->hA.get? b=none) {st':ASt} {m:Nat} {s:Shared}
  (hI0:DpI y a n lA hA st' (tm n tg kf vf) items chk Pk m s):codeAny y.c.M y.A (.compLoop (.DictComp ke ve [⟨target,iter,[],0⟩] scope pos) 0 it (.ref a) y.env) (DpQ y a n lA hA st') s:=by
 refine lD rfl _ (fun m s hI Q E kd ka=>?_) _ hI0;clear hI0;show wpAny _ y.A ((compTurn (.DictComp ke ve [⟨target,iter,[],0⟩] scope pos) 0 it (.ref a) y.env).onRaise (fun x=>do noteFrame x y.env; theTreesLotGoes x)) Q E s;obtain ⟨k,ρ,σ,l,rfl,hk',e,hs,ha,hpk,stA⟩:=hI;refine wpAny_noted ?_;rw [Bj];refine wpAny_bind (wpAny_standAt (wpAny_bind ?_));cases hd:items[k]? with
 | none=>
  have hlen:k=items.length:=Nat.le_antisymm hk' (List.getElem?_eq_none_iff.mp hd);rw [List.drop_eq_nil_of_le (Nat.le_of_eq hlen.symm)] at e;obtain ⟨_,rfl⟩:=W.chkp k _ _ _ e;exact W.stop k ρ σ l s hd hlen e hs hpk _ _ fun l1 s1 hs1 tr1=>wpAny_pure (kd _ _ ⟨_,l1,rfl,hs1,ha.later tr1.later,tr1.st _ _ _ stA hMA⟩)
 | some d=>
  obtain ⟨hlt,hdk⟩:=List.getElem?_eq_some_iff.mp hd;rw [List.drop_eq_getElem_cons hlt,hdk] at e;obtain ⟨e1,e2⟩:=kg W e;have e2:=(congrFun (iu (f:=tg d)) _).symm.trans e2;refine W.item k d ρ σ l s hd e1 hs hpk _ _ fun v l1 s1 hs1 tr1 rv1 hm1=>wpAny_bind (W.go k v d ρ σ l1 s1 target rfl hs1 rv1 hm1 _ _ fun l2 s2 hs2 tr2 rv2 hp2=>?_);have stA2:=tr2.st _ _ _ (tr1.st _ _ _ stA hMA) hMA;refine wpAny_bind ((ht (MP.rep v d) v d (fun _ _ q=>q)).ok e2 hs2 rv2 fun _ _ ρ3 σ3 l3 s3 e3 hs3 st3 _=>?_);have ha3:=((ha.later tr1.later).later tr2.later).later st3.later;refine wpAny_bind ((y8 (pos:={ke.pos with endLine:=ve.pos.endLine,endCol:=ve.pos.endCol}) hk hv).ok e3 hs3 ha3 fun _ _ ρ4 σ4 l4 s4 e4 hs4 st4 _=>?_);exact wpAny_pure (ka _ s4 (by omega) ⟨k+1,ρ4,σ4,l4,rfl,hlt,e4,hs4,ha3.later st4.later,W.keep (W.keep hp2 st3) st4,(stA2.trans st3).trans st4⟩)
end
structure DS (x:Ctx) (scope:Scope) (ke ve target iter:Expr) (g:AM (List D×Chk)) (tg:D->AM Unit) (kf vf:AM D):Prop where
 sc:mt x scope
 iter:oZ x iter cw g
 body:∀ y:Ctx,y.c=x.c->y.quiet=x.quiet->y.room=x.room->y.env.scope.names=eZ scope.names->y.wr=mh scope.names->a9 y ke kf/\a9 y ve vf/\j8 y target tg
section
variable {x:Ctx} {scope:Scope} {ke ve target iter:Expr} {g:AM (List D×Chk)} {tg:D->AM Unit} {kf vf:AM D}
theorem uT {pos:Pos} (fs:List String) (hc:DS x scope ke ve target iter g tg kf vf) (hfs:∀ v∈fs,(Str.o v,NameKind.free)∈scope.names):
  a9 x (.DictComp ke ve [⟨target,iter,[],0⟩] scope pos) (tH fs g tg kf vf):=fun P ρ σ l s r st' e hs _=>by
 show wpAny x.c.M x.A (comprehension (.DictComp ke ve [⟨target,iter,[],0⟩] scope pos) scope x.env (firstIterPos [⟨target,iter,[],0⟩] pos) newDict (firstAsync [⟨target,iter,[],0⟩]) (firstIter [⟨target,iter,[],0⟩] x.env)) _ _ s;refine wpAny_comprehension_free (cl:=lP x.env scope.names []) (use:=none) rfl hc.iter.1 (lB fun n hn=>hs.env.cellk n (hc.sc.free n hn)) hc.sc.kind (fun z hz hl=>cu hc.sc.nodup (by rw [← hl]; exact hz)) ?_;refine hc.iter.run e hs (fun items chk it ρ1 σ1 l2 s2 e2 hs2 stA hW=>?_) fun _ _ q=>q;obtain ⟨⟨q,st2⟩,e3,e4⟩:=Option.bind_eq_some_iff.mp (show (m7 chk (tm σ1.length tg kf vf) 0 items ⟨restr fs ρ1,σ1++[.dict 0 []]⟩).bind _=some (r,st') from e2);cases q with
 | error X=>cases e4
 | ok u=>
 cases e4;refine wpAny_newObj_type (kP ?_) (by size_fits);obtain ⟨hs3,st3,rd⟩:=hs2.newObj (h':=s2.heap.push {cls:=.type "dict",data:=.dict #[]}) (a:=s2.heap.objs.size) (o:=.dict 0 []) s2.toks (fun b ob e=>Heap.get?_push_of_some _ e) (bi _) ⟨_,Heap.get?_push_size _ rfl⟩
  ⟨[],⟨_,#[],Heap.get?_push_size _ rfl,⟨rfl,rfl,rfl⟩,rfl,fun e h=>by simp at h,.nil,by simp⟩,.nil⟩ rfl
 obtain ⟨y,hch,hy,keep,hnew,here⟩:=oy hc.sc hs3 fs hfs rfl rfl;obtain ⟨hbk,hbv,hbt⟩:=hc.body y hch.c hch.quiet hch.room hch.names hch.wr;have hyL:y.env.locals=(s2.heap.push {cls:=.type "dict",data:=.dict #[]}).objs.size:=by rw [hch.env]
 obtain ⟨Me,Pk,Mid,W,hpk,hMe⟩:=hW y ⟨hch.c,hch.A,hch.fs,hch.quiet,fun b o e=>here b o (Heap.get?_push_of_some _ e)⟩;have up:∀ b o,s2.heap.get? b=some o->(s2.heap.push {cls:=.type "dict",data:=.dict #[]}).get? b=some o:=fun b o e=>Heap.get?_push_of_some _ e
 have st4:bt y.c y.S y.W l2 s2.heap l2 _:=
  ⟨.of_off fun b o _ e=>keep b o (up b o e),fun b o e=>⟨o,keep b o (up b o e)⟩,fun _ q=>.inl q,fun _ q=>.inl q,fun b o _ _ _ e=>keep b o (up b o e),fun b o _ _ e=>⟨o.slots,keep b o (up b o e)⟩⟩
 have st5:=st4.add (p:=(s2.heap.objs.size,s2.heap.objs.size)) (bi _) (bi _);have hpk4:=W.keep hpk st5
 have st6:bt y.c y.S y.W (l2.add (s2.heap.objs.size,s2.heap.objs.size)) (s2.heap.push {cls:=.type "dict",data:=.dict #[]}) (l2.add (s2.heap.objs.size,s2.heap.objs.size)) _:=
  ⟨.of_off fun b o _ e=>keep b o e,fun b o e=>⟨o,keep b o e⟩,fun _ q=>.inl q,fun _ q=>.inl q,fun b o _ _ _ e=>keep b o e,fun b o _ _ e=>⟨o.slots,keep b o e⟩⟩
 have inner:=wE (scope:=scope) (pos:=pos) (iter:=iter) hbk hbv hbt W (a:=s2.heap.objs.size) (n:=σ1.length) (hMA:=fun b q=>jM q) (st':=st2)
  ⟨0,_,_,_,rfl,Nat.zero_le _,e3,hy,rd.later st6.later,hpk4,(bt.without (l:=l2.add (s2.heap.objs.size,s2.heap.objs.size)) Me fun b q=>(hMe b q).2.F).trans st6⟩
 have hC0:s2.heap.get? (s2.heap.push {cls:=.type "dict",data:=.dict #[]}).objs.size=none:=Heap.get?_none_of_le (by rw [Heap.size_push]; exact Nat.le_succ _);have hCF:cP x l2 (pushCells ((s2.heap.push {cls:=.type "dict",data:=.dict #[]}).push {cls:=.type "dict",data:=.dict #[]}) scope.names) (s2.heap.push {cls:=.type "dict",data:=.dict #[]}).objs.size:=hs2.free_new hC0 (hyL▸hy.env.lthere)
 have key:∀ R:Result->Shared->Prop,(∀ f l' s',St x ρ1 st2.σ l' s'->Sp x l s.heap l' s'.heap->Rep s'.heap l' (.ref s2.heap.objs.size) (.obj σ1.length)->cP x l' s'.heap (s2.heap.push {cls:=.type "dict",data:=.dict #[]}).objs.size->(∃ m,s'.heap.Ns (s2.heap.push {cls:=.type "dict",data:=.dict #[]}).objs.size m)->R (.ok f) s')->
   codeAny x.c.M x.A (.compStart (.DictComp ke ve [⟨target,iter,[],0⟩] scope pos) 0 it (.ref s2.heap.objs.size) y.env) R {s2 with heap:=pushCells ((s2.heap.push {cls:=.type "dict",data:=.dict #[]}).push {cls:=.type "dict",data:=.dict #[]}) scope.names}:=fun R fin=>by
  rw [← hch.c,← hch.A];refine codeAny_mono (zV inner (W.again 0 _ _ _ rfl hpk4 _ _ inner)) fun r s' h=>?_;obtain ⟨f,l',rfl,hy',ha',stW⟩:=h;have hB:∀ b,Me b->cP x (l2.add (s2.heap.objs.size,s2.heap.objs.size)) (s2.heap.push {cls:=.type "dict",data:=.dict #[]}) b:=fun b q=>(hMe b q).2.step st3;refine fin f l' s' (hs3.back' hB (hch.step.mp stW) (fun b o e _ z=>hnew b o e z) (hch.c▸hy'.inv) (by rw [← hch.c,← hch.fs]; exact hy'.ff) (by rw [← hch.c]; exact hy'.gens) (by rw [← hch.c]; exact hy'.os))
   (((stA.trans st3).other Me (fun b q=>(hMe b q).1) fun b o hb e=>(iZ hb).trans e).trans ((hch.step.mp stW).weaken (fun b o e z=>(hnew b o (gk e).2 z).elim) fun _ _ _ q=>q)) ha'
   ⟨hyL▸hy'.env.lthere,hCF.base,hyL▸hy'.env.offL.1,hyL▸hy'.env.offL.2,hCF.here,hCF.fs⟩ (hyL▸hy'.env.loc.imp fun _ q=>q.1)
 have fin:=key _ fun f l' s' h1 h2 h3 h4 h5=>(show compPost x.c.M x.A (ErQ x l s.heap (Except.ok (D.obj σ1.length):Except Value D) ⟨ρ1,st2.σ⟩) none (OkQ x MP.rep l s.heap (Except.ok (D.obj σ1.length):Except Value D) ⟨ρ1,st2.σ⟩) (.ref s2.heap.objs.size) (s2.heap.push {cls:=.type "dict",data:=.dict #[]}).objs.size (.ok f) s' from by
  obtain ⟨m,hNs⟩:=h5;refine ⟨m,hNs,fun h' hsb=>?_⟩;have hkeep:∀ b o,¬ b=(s2.heap.push {cls:=.type "dict",data:=.dict #[]}).objs.size->s'.heap.get? b=some o->h'.get? b=some o:=fun b o hb e=>cK hsb b o hb e;exact ⟨_,l',rfl,h1.other (fun b=>b=_) (fun b hb=>hb▸h4) hkeep rfl rfl,h2.other (fun b=>b=_) (fun b hb=>hb▸(stA.new hC0)) hkeep,h3.later (.of_off fun b o q=>hkeep b o fun z=>h4.F (z▸q))⟩)
 rw [hch.env] at fin;exact fin
end
section
variable {x:Ctx}
noncomputable def pD (d u:D):Option D:=(oV D.str? d u).map fun q=>.py (.int (Txt.count q.1 q.2))
noncomputable def ue (d:D):List D->AM D
 | [u]=>eA fun _=>pD d u
 | _=>AM.fail
theorem ww:gA x "str.count" ue:=iB (fun _=>rfl) (fun _ _ _ _=>rfl) fun P v d w u hv hvs=>by
 intro ρ σ l s r st' e hs hp;obtain ⟨_,ho,rfl,rfl⟩:=eN (f:=fun _=>pD d u) e;obtain ⟨⟨y,z⟩,h1,rfl⟩:=Option.map_eq_some_iff.mp ho;obtain ⟨h2,h3⟩:=eK h1;obtain ⟨t,rfl⟩:=(hv _ _ hp).str? h2;obtain ⟨t2,rfl⟩:=(hvs _ _ hp).str? h3;exact PySem.SC.count ⟨_,l,rfl,hs.toks _,.refl ..,.py (.int _ _)⟩
end
end Mine
end S6413
section S7392
open PySem PySem.W PySem.Calls PyProof.Rows Builtin Builtin.ObjectAttr Builtin.Getset_descriptor
namespace Mine
set_option compiler.extract_closed false
open Lean in
local macro_rules
 | `(tactic| rfl) => `(tactic| kernel_rfl)
 | `(tactic| fail $s:str) => do
  let k ← `(tactic| refine id ?_ _ (by kernel_rfl) (by decide) (fun _=>?_) ⟨?_,?_,?_⟩ ⟨?_,?_,?_,?_⟩ (n:=id))
  let A := k.raw[1][1]
  let T := "!|aa _|af _ _|am|arC _ _ _|%|ap|ai _ _|ax hw0 !|aC _ _ _|aF|hq0|aL _ _ _|4|az _|bp _ _ _|av hn0 !|al _ _ _|bB|bE _ _|cR _ _ _|cV _ _ _|aI.nil|3|bZ _ _|br _|bc hF0 !|bY !|rfl|ax hw1 !|ca.nil|bv hn0 !|aT.cons _ _ _|bH hn0 !|bU _|aT.nil|cn _ _ _ _|PySem.F.plainAttrs_list|cW _ _ _|dQ _ _ _|fz okt=cw _ _ _ _ _|df.builtin ?|aI.cons _ _|et _ _|cj.cons _ _|dj|dB|fu _|hF0.built 'len ? ! ! #|dD _|cy id='list.append _ _ _ _ _ _ _ _ _|PySem.F.slot_list_append|PySem.F.type_list_append|cY|eD|ip _ _|gK||fE _ _ _ _|fD n=d5 _ _ _|gI|fF _ _ _ _|hF0.built 'range ? ! ! #|gd _|gj hn0 !|gn|iR _|iU|eT _ _ _ _|hF0.built 'ValueError ? ! ! #|hq1|jS|jZ _ _ _|bc hF1 !|nH|lj _ _|df.type ?|PySem.F.plainAttrs_str|qa hw0 !|vU _ _ _|kG _ _|kU _ _|hF0|ml _|cj.nil|jx _|tB _ _ _|pt|bH hn1 !|ax hw2 !|wG _ _ _|cy id='str.join _ _ _ _ _ _ _ _ _".splitOn "|"
  let f := fun (x : String) => if x == "_" then A[0] else if x == "?" then A[1] else if x == "!" then A[2] else if x == "#" then A[3] else if x == "%" then A[4] else if x == "3" then A[5] else if x == "4" then A[6] else if x.front == '\'' then (Syntax.mkStrLit (x.drop 1).toString).raw else (mkIdent x.toName).raw
  let g := fun (x : String) => match x.splitOn "=" with | [a, b] => (A[7].setArg 1 (mkIdent a.toName)).setArg 3 (f b) | _ => f x
  let ts := s.getString.toList.map fun c => let a := ((T.getD (c.toNat-35) "").splitOn " ").map g; ⟨k.raw.setArg 1 (if a.length == 1 then a.head! else mkNode ``Parser.Term.app #[a.head!, mkNullNode a.tail.toArray])⟩
  `(tactic| ($[$(ts.toArray)]*))
noncomputable def aG:Addr:=57
noncomputable def ae:Addr:=154
noncomputable def fm:Addr:=72
noncomputable def An:Addr:=172
noncomputable def GM:List (Nat×Str):=[(45,Str.o "\\-"),(43,Str.o "\\+"),(46,Str.o "\\.")]
theorem dY (P:Params):d7 (K3 P) ae (Str.o "_node2info")=true:=by rfl
theorem bP (P:Params):d7 (K3 P) ae (Str.o "_ready_nodes")=true:=by rfl
theorem iy (P:Params):d7 (K3 P) ae (Str.o "_npassedout")=true:=by rfl
theorem i6 (P:Params):d7 (K3 P) ae (Str.o "_nfinished")=true:=by rfl
theorem yB (P:Params):fi (K3 P) aG (Str.o "node") 0=true:=by rfl
theorem cB (P:Params):fi (K3 P) aG (Str.o "npredecessors") 1=true:=by rfl
theorem gJ (P:Params):fi (K3 P) aG (Str.o "successors") 2=true:=by rfl
theorem lx (P:Params):pU (K3 P) fm:=.mk rfl (by rfl) (by rfl) (by rfl)
theorem EY (P:Params):vx (K3 P) An GM:=.mk rfl (by rfl) (by rfl)
noncomputable def ay (P:Params):{q:Addr×FuncData // fnK (K3 P) "_deduplicate_unhashable" =some q}:=⟨_,rfl⟩
noncomputable def bL:AM aj:=
 (ak (bG "new_unhashable" (eb (pure [])))
 (ak (ik ((ad "unhashable_params")>>=aM) (fun d=>(aQ "t") d>>=fun _=>(ak (ifA (aJ .NotIn (ad "t") (ad "new_unhashable")) (ak (cv (bN "list" (ad "new_unhashable") (ao (ad "t") (pure [])) cN))
 (pure .next)) (pure .next))
 (pure .next))) (pure .next))
 (ak (ft (ad "new_unhashable"))
 (pure .next))))
noncomputable def cb:List PyData->Option PyData:=kB (bI ["unhashable_params"]) bL
theorem gX {c:Cx} {P:Params} (hF:aS c (K3 P)):cG c 0 (ay P).1.2 (ci (ay P).1.2) bL:=by
 intro x0 hc0 hq0 hr0 hn0 hw0;have hF0:=hF.to hc0
 fail "%/T)+#%K8.$#(#1+%7,$#$##%;U###HVW$#*'$#)##X#&&&&#%<$#&"
theorem dC {c:Cx} {P:Params} (hF:aS c (K3 P)):eS c 0 (ay P).1.1 (bI ["unhashable_params"]) bL:=by
 refine cQ (q:=(ay P).1) hF ?_ ?_ ?_ ?_ (fun ds bs e=>aZ e) ?_
 .exact (dU (ay P).2).2
 .rfl
 .exact @gX _ P hF
 .exact bo ["unhashable_params"] (by intro u0; show _=_; rfl)
 .rfl
noncomputable def aB (P:Params):{q:Addr×FuncData // fnK (K3 P) "_compare_args_orderless" =some q}:=⟨_,rfl⟩
noncomputable def ch:AM aj:=
 (ak (bG "first_unhashable" ((ao (ad "first_args") (pure []))>>=bV cb))
 (ak (bG "second_unhashable" ((ao (ad "second_args") (pure []))>>=bV cb))
 (ak (bG "t" ((ao (ad "second_unhashable") (pure []))>>=t9))
 (ak (p9 (ak (ik ((ad "first_unhashable")>>=aM) (fun d=>(aQ "elem") d>>=fun _=>(ak (cv (bN "list" (ad "t") (ao (ad "elem") (pure [])) mQ))
 (pure .next))) (pure .next))
 (pure .next)) (.type "ValueError") (ak (ft (pure (.py (.bool false))))
 (pure .next)))
 (ak (ft (Fn (ad "t")))
 (pure .next))))))
noncomputable def cc:List PyData->Option PyData:=kB (bI ["first_args", "second_args"]) ch
theorem g7 {c:Cx} {P:Params} (hF:aS c (K3 P)):cG c 1 (aB P).1.2 (ci (aB P).1.2) ch:=by
 intro x0 hc0 hq0 hr0 hn0 hw0;have hF0:=hF.to hc0
 fail "%/"
 refine aK (fv:=.ref (ay P).1.1) (al (ck (q:=(ay P).1) hF0 (ay P).2) (av hn0 (by rfl)) (by rfl)) ?_ ?_ (bX (n:=0) (bind:=bI ["unhashable_params"]) (fb:=bL) hq0 (Nat.le_trans (by decide) hr0) (@dC _ P hF0) (fun _ _ h=>h))
 fail "=*'$#)##+#%/"
 refine aK (fv:=.ref (ay P).1.1) (al (ck (q:=(ay P).1) hF0 (ay P).2) (av hn0 (by rfl)) (by rfl)) ?_ ?_ (bX (n:=0) (bind:=bI ["unhashable_params"]) (fb:=bL) hq0 (Nat.le_trans (by decide) hr0) (@dC _ P hF0) (fun _ _ h=>h))
 fail "=*'$#)##+#%/"
 refine aK (fv:=.type "list") ?_ ?_ ?_ ?_
 fail "4"
 exact hF0.built "list" _ (by rfl) (by rfl) (by decide)
 fail "3#o*'$#)##"
 exact xz
 fail "+#%}%K8.$#(#1+%;"
 refine cy (id:="list.remove") ?_ ?_ ?_ ?_ ?_ ?_ ?_ ?_ ?_
 fail "###H"
 exact PySem.F.slot_list_remove;exact PySem.F.type_list_remove
 fail "$#*'$#)##"
 refine v4 ?_
 fail ".#&&#&"
 refine lH ?_ ?_ ?_ ?_;exact pL;exact rj;exact pT;intro y hc he
 fail "4"
 exact (hF0.to hc).built "ValueError" _ (by rfl) (by rfl) (by decide);exact av ((congrArg (fun e:Env=>e.scope.names) he).trans hn0) (by rfl)
 fail "#"
 intro x1 hc1 hr1a he1 hw1a;have hn1:=(congrArg (fun e:Env=>e.scope.names) he1).trans hn0;have hw1:=hw1a.trans hw0;have hF1:=hF0.to hc1;have hr1:=leq hr0 hr1a
 fail "%<[&%<"
 refine FK ?_
 fail "$#&"
theorem fg {c:Cx} {P:Params} (hF:aS c (K3 P)):eS c 1 (aB P).1.1 (bI ["first_args", "second_args"]) ch:=by
 refine cQ (q:=(aB P).1) hF ?_ ?_ ?_ ?_ (fun ds bs e=>aZ e) ?_
 .exact (dU (aB P).2).2
 .rfl
 .exact @g7 _ P hF
 .exact bo ["first_args", "second_args"] (by intro u0 u1; show _=_; rfl)
 .rfl
noncomputable def cI (P:Params):{q:Addr×FuncData // fnK (K3 P) "_law_text" =some q}:=⟨_,rfl⟩
noncomputable def gP:AM aj:=
 (ak (ft (bN "str" (pure (.py (.str (Str.o "")))) (ao (bf false ["x"] ⟨(okA (ao (pure (.py (.int 3))) (pure []))>>=dw),(aQ "k"),[]⟩ [] (bu (pure (.py (.str (Str.o "-+?")))) (bO .Mod (bO .FloorDiv (ad "x") (bO .Pow (pure (.py (.int 3))) (ad "k"))) (pure (.py (.int 3)))))) (pure [])) xT))
 (pure .next))
noncomputable def fc:List PyData->Option PyData:=kB (bI ["x"]) gP
theorem qP {c:Cx} {P:Params} (hF:aS c (K3 P)):cG c 0 (cI P).1.2 (ci (cI P).1.2) gP:=by
 intro x0 hc0 hq0 hr0 hn0 hw0;have hF0:=hF.to hc0
 fail "%<~###p"
 exact PySem.F.slot_str_join;exact PySem.F.type_str_join
 fail "5*'"
 refine bq (keep:=false) (fs:=["x"]) ?_ ?_
 fail "0D?].4a3#*'-)##(#"
 intro x1 hc1 hq1a hr1a hn1 hw1;have hq1:=hq1a.trans hq0;have hr1:=leq hr0 hr1a;have hF1:=hF0.to hc1
 fail ":2566$#6-$#-((#0##1@9A>)##"
 exact nT
 fail "&"
theorem mV {c:Cx} {P:Params} (hF:aS c (K3 P)):eS c 0 (cI P).1.1 (bI ["x"]) gP:=by
 refine cQ (q:=(cI P).1) hF ?_ ?_ ?_ ?_ (fun ds bs e=>aZ e) ?_
 .exact (dU (cI P).2).2
 .rfl
 .exact @qP _ P hF
 .exact bo ["x"] (by intro u0; show _=_; rfl)
 .rfl
noncomputable def cX (P:Params):{q:Addr×FuncData // fnK (K3 P) "_law_pieces" =some q}:=⟨_,rfl⟩
noncomputable def gM:AM aj:=
 (ak (ql (j9 (ao (eb (pure [])) (ao (pure (.py (.int 4))) (pure [])))) ["pieces", "k"])
 (ak (eW (aJ .Lt (ad "k") (bO .Sub ((ao (ad "text") (pure []))>>=gQ) (pure (.py (.int 3))))) (ak (bG "size" (ifE (aJ .Eq (bu (ad "text") (ad "k")) (pure (.py (.str (Str.o "\\"))))) (pure (.py (.int 2))) (pure (.py (.int 1)))))
 (ak (cv (bN "list" (ad "pieces") (ao (cJ (ad "text") (ad "k") (bO .Add (ad "k") (ad "size"))) (pure [])) cN))
 (ak (bG "k" (bO .Add (ad "k") (ad "size")))
 (pure .next)))) (pure .next) d5)
 (ak (ft (ifE (jV (aJ .Eq (cJ (ad "text") (pure (.py .none)) (pure (.py (.int 4)))) (pure (.py (.str (Str.o "(?s:"))))) (jV (aJ .Eq (cJ (ad "text") (pure (.py (.int (-3)))) (pure (.py .none))) (pure (.py (.str (Str.o ")\\Z"))))) (pure (.And==BoolOp.And)))) (ad "pieces") (dl (pure []))))
 (pure .next))))
noncomputable def gN:List PyData->Option PyData:=kB (bI ["text"]) gM
theorem nw {c:Cx} {P:Params} (hF:aS c (K3 P)):cG c 0 (cX P).1.2 (ci (cX P).1.2) gM:=by
 intro x0 hc0 hq0 hr0 hn0 hw0;have hF0:=hF.to hc0
 fail "%"
 refine mo (vs:=["pieces", "k"]) ?_ ?_ ?_ ?_ ?_
 fail ".b'T)'-)##q#B%^,$#6"
 refine aK (fv:=.builtin "len") ?_ ?_ ?_ ?_
 fail "4S3#L*'$#)##Q-#%/r,2$#$#((#5#--+#%;U###HVW$#*'I$#E$#E6$#$#)##X#%/6$#$#+#&&%<reN,I$#PE-5#N,I$#EmP5#f$#R)&"
theorem qu {c:Cx} {P:Params} (hF:aS c (K3 P)):eS c 0 (cX P).1.1 (bI ["text"]) gM:=by
 refine cQ (q:=(cX P).1) hF ?_ ?_ ?_ ?_ (fun ds bs e=>aZ e) ?_
 .exact (dU (cX P).2).2
 .rfl
 .exact @nw _ P hF
 .exact bo ["text"] (by intro u0; show _=_; rfl)
 .rfl
noncomputable def dz (P:Params):{q:Addr×FuncData // fnK (K3 P) "_law_takes" =some q}:=⟨_,rfl⟩
noncomputable def hV:AM aj:=
 (ak (ft (Gw (tS .Eq ((ao (ad "pieces") (pure []))>>=gQ) (pure (.py (.int 3)))) (tS .Eq (bf false ["pieces", "text"] ⟨(okA (ao (pure (.py (.int 3))) (pure []))>>=dw),(aQ "k"),[(aJ .NotIn (bu (ad "pieces") (ad "k")) (j9 (ao (pure (.py (.str (Str.o ".")))) (ao (bO .Add (pure (.py (.str (Str.o "\\")))) (bu (ad "text") (ad "k"))) (pure [])))))]⟩ [] (ad "k")) (dl (pure [])))))
 (pure .next))
noncomputable def f8:List PyData->Option PyData:=kB (bI ["pieces", "text"]) hV
theorem oY {c:Cx} {P:Params} (hF:aS c (K3 P)):cG c 0 (dz P).1.2 (ci (dz P).1.2) hV:=by
 intro x0 hc0 hq0 hr0 hn0 hw0;have hF0:=hF.to hc0
 fail "%<"
 refine F5 ?_ ?_
 fail "y"
 refine aK (fv:=.builtin "len") ?_ ?_ ?_ ?_
 fail "4S3#L*'$#)##Q-#y"
 refine bq (keep:=false) (fs:=["pieces", "text"]) ?_ ?_
 fail "0D?].4a3#*'-)##(#"
 intro x1 hc1 hq1a hr1a hn1 hw1;have hq1:=hq1a.trans hq0;have hr1:=leq hr0 hr1a;have hF1:=hF0.to hc1
 fail ":$#0##1@M,2$#$#((#b'5'652$#$#((#)###9A>R)#&"
theorem rn {c:Cx} {P:Params} (hF:aS c (K3 P)):eS c 0 (dz P).1.1 (bI ["pieces", "text"]) hV:=by
 refine cQ (q:=(dz P).1) hF ?_ ?_ ?_ ?_ (fun ds bs e=>aZ e) ?_
 .exact (dU (dz P).2).2
 .rfl
 .exact @oY _ P hF
 .exact bo ["pieces", "text"] (by intro u0 u1; show _=_; rfl)
 .rfl
noncomputable def bz (P:Params):{q:Addr×FuncData // fnK (K3 P) "_law_border" =some q}:=⟨_,rfl⟩
noncomputable def eJ:AM aj:=
 (ak (ft (bf false ["cell"] ⟨(okA (ao (pure (.py (.int 3))) (pure []))>>=dw),(aQ "k"),[(aJ .Eq (bu (ad "cell") (ad "k")) (pure (.py (.str (Str.o "?")))))]⟩ [⟨((pure (.py (.str (Str.o "-+"))))>>=aM),(aQ "sign"),[]⟩] (bO .Add (bO .Add (cJ (ad "cell") (pure (.py .none)) (ad "k")) (ad "sign")) (cJ (ad "cell") (bO .Add (ad "k") (pure (.py (.int 1)))) (pure (.py .none))))))
 (pure .next))
noncomputable def cr:List PyData->Option PyData:=kB (bI ["cell"]) eJ
theorem nW {c:Cx} {P:Params} (hF:aS c (K3 P)):cG c 0 (bz P).1.2 (ci (bz P).1.2) eJ:=by
 intro x0 hc0 hq0 hr0 hn0 hw0;have hF0:=hF.to hc0
 fail "%<"
 refine bq (keep:=false) (fs:=["cell"]) ?_ ?_
 fail "0D?].4a3#*'-)##(#"
 intro x1 hc1 hq1a hr1a hn1 hw1;have hq1:=hq1a.trans hq0;have hr1:=leq hr0 hr1a;have hF1:=hF0.to hc1
 fail ":66I$#PE$#$#I$#E6$#-P0##1@M,2$#$#((#5#9"
 refine ca.cons ?_ ?_ ?_
 fail "0##1@98i5(#A>&"
theorem iC {c:Cx} {P:Params} (hF:aS c (K3 P)):eS c 0 (bz P).1.1 (bI ["cell"]) eJ:=by
 refine cQ (q:=(bz P).1) hF ?_ ?_ ?_ ?_ (fun ds bs e=>aZ e) ?_
 .exact (dU (bz P).2).2
 .rfl
 .exact @nW _ P hF
 .exact bo ["cell"] (by intro u0; show _=_; rfl)
 .rfl
noncomputable def cq (P:Params):{q:Addr×FuncData // fnK (K3 P) "_law_above" =some q}:=⟨_,rfl⟩
noncomputable def f7:AM aj:=
 (ak (bG "wider" (bf false ["cell"] ⟨(okA (ao (pure (.py (.int 3))) (pure []))>>=dw),(aQ "k"),[(aJ .NotEq (bu (ad "cell") (ad "k")) (pure (.py (.str (Str.o "?")))))]⟩ [] (bO .Add (bO .Add (cJ (ad "cell") (pure (.py .none)) (ad "k")) (pure (.py (.str (Str.o "?"))))) (cJ (ad "cell") (bO .Add (ad "k") (pure (.py (.int 1)))) (pure (.py .none))))))
 (ak (ft (bf false ["cells"] ⟨((ad "wider")>>=aM),(aQ "other"),[(aJ .In (ad "other") (ad "cells"))]⟩ [] (ad "other")))
 (pure .next)))
noncomputable def fq:List PyData->Option PyData:=kB (bI ["cell", "cells"]) f7
theorem pb {c:Cx} {P:Params} (hF:aS c (K3 P)):cG c 0 (cq P).1.2 (ci (cq P).1.2) f7:=by
 intro x0 hc0 hq0 hr0 hn0 hw0;have hF0:=hF.to hc0
 fail "%"
 refine gV (keep:=false) (fs:=["cell"]) ?_ ?_ ?_ ?_
 fail "0D?].4a3#*'-)##(#"
 intro x1 hc1 hq1a hr1a hn1 hw1;have hq1:=hq1a.trans hq0;have hr1:=leq hr0 hr1a;have hF1:=hF0.to hc1
 fail ":66I$#PE$#5I$#E6$#-P0##1@M,2$#$#((#5#9A>+c%<"
 refine bq (keep:=false) (fs:=["cells"]) ?_ ?_
 fail "0D?8.$#(#"
 intro x1 hc1 hq1a hr1a hn1 hw1;have hq1:=hq1a.trans hq0;have hr1:=leq hr0 hr1a;have hF1:=hF0.to hc1
 fail ":$#0##1@M,$#$##9A>&"
theorem ly {c:Cx} {P:Params} (hF:aS c (K3 P)):eS c 0 (cq P).1.1 (bI ["cell", "cells"]) f7:=by
 refine cQ (q:=(cq P).1) hF ?_ ?_ ?_ ?_ (fun ds bs e=>aZ e) ?_
 .exact (dU (cq P).2).2
 .rfl
 .exact @pb _ P hF
 .exact bo ["cell", "cells"] (by intro u0 u1; show _=_; rfl)
 .rfl
noncomputable def cU (P:Params):{q:Addr×FuncData // fnK (K3 P) "_law_sum" =some q}:=⟨_,rfl⟩
noncomputable def ix:AM aj:=
 (ak (bG "total" (pure (.py (.int 0))))
 (ak (ik ((ad "masks")>>=aM) (fun d=>(aQ "mask") d>>=fun _=>(ak (bG "total" (bO .BitXor (ad "total") (ad "mask")))
 (pure .next))) (pure .next))
 (ak (ft (ad "total"))
 (pure .next))))
noncomputable def eY:List PyData->Option PyData:=kB (bI ["masks"]) ix
theorem rL {c:Cx} {P:Params} (hF:aS c (K3 P)):cG c 0 (cU P).1.2 (ci (cU P).1.2) ix:=by
 intro x0 hc0 hq0 hr0 hn0 hw0;have hF0:=hF.to hc0
 fail "%/-+#%K8.$#(#1+%/6$#$#+#&&#%<$#&"
theorem oM {c:Cx} {P:Params} (hF:aS c (K3 P)):eS c 0 (cU P).1.1 (bI ["masks"]) ix:=by
 refine cQ (q:=(cU P).1) hF ?_ ?_ ?_ ?_ (fun ds bs e=>aZ e) ?_
 .exact (dU (cU P).2).2
 .rfl
 .exact @rL _ P hF
 .exact bo ["masks"] (by intro u0; show _=_; rfl)
 .rfl
noncomputable def dN (P:Params):{q:Addr×FuncData // fnK (K3 P) "_law_rank" =some q}:=⟨_,rfl⟩
noncomputable def iV:AM aj:=
 (ak (bG "heads" (eb (pure [])))
 (ak (ik ((ad "masks")>>=aM) (fun d=>(aQ "mask") d>>=fun _=>(ak (ik ((ad "heads")>>=aM) (fun d=>(aQ "head") d>>=fun _=>(ak (bG "mask" ((ao (ad "mask") (ao (bO .BitXor (ad "mask") (ad "head")) (pure [])))>>=Gb))
 (pure .next))) (pure .next))
 (ak (ifA (aJ .Gt (ad "mask") (pure (.py (.int 0)))) (ak (cv (bN "list" (ad "heads") (ao (ad "mask") (pure [])) cN))
 (pure .next)) (pure .next))
 (pure .next)))) (pure .next))
 (ak (ft ((ao (ad "heads") (pure []))>>=gQ))
 (pure .next))))
noncomputable def kI:List PyData->Option PyData:=kB (bI ["masks"]) iV
theorem qM {c:Cx} {P:Params} (hF:aS c (K3 P)):cG c 0 (dN P).1.2 (ci (dN P).1.2) iV:=by
 intro x0 hc0 hq0 hr0 hn0 hw0;have hF0:=hF.to hc0
 fail "%/T)+#%K8.$#(#1+%K8.$#(#1+%/"
 refine aK (fv:=.builtin "min") ?_ ?_ ?_ ?_
 fail "4"
 exact hF0.built "min" _ (by rfl) (by rfl) (by decide)
 fail "3#L*'$#'6$#$#)###"
 exact zw hq0
 fail "+#&&#%7,$#-#%;U###HVW$#*'$#)##X#&&&&#%<"
 refine aK (fv:=.builtin "len") ?_ ?_ ?_ ?_
 fail "4S3#L*'$#)##Q&"
theorem ty {c:Cx} {P:Params} (hF:aS c (K3 P)):eS c 0 (dN P).1.1 (bI ["masks"]) iV:=by
 refine cQ (q:=(dN P).1) hF ?_ ?_ ?_ ?_ (fun ds bs e=>aZ e) ?_
 .exact (dU (dN P).2).2
 .rfl
 .exact @qM _ P hF
 .exact bo ["masks"] (by intro u0; show _=_; rfl)
 .rfl
noncomputable def bS (P:Params):{q:Addr×FuncData // jd (K3 P) aG "__init__" =some q}:=⟨_,rfl⟩
theorem sZ (P:Params):nV (K3 P) aG (bS P).1.1=true:=by rfl
noncomputable def dO:AM aj:=
 (ak (bF (ad "node") [(lK aG 0 (ad "self"))])
 (ak (bF (pure (.py (.int 0))) [(lK aG 1 (ad "self"))])
 (ak (bF (eb (pure [])) [(lK aG 2 (ad "self"))])
 (pure .next))))
noncomputable abbrev gU:=(bI ["self", "node"])
theorem jf {c:Cx} {P:Params} (hF:aS c (K3 P)):cG c 0 (bS P).1.2 (ci (bS P).1.2) dO:=by
 intro x0 hc0 hq0 hr0 hn0 hw0;have hF0:=hF.to hc0
 fail "%G$#C#s"
 exact eQ hF0 (yB P)
 fail "$#F#B%G-C#s"
 exact eQ hF0 (cB P)
 fail "$#F#B%GT)C#s"
 exact eQ hF0 (gJ P)
 fail "$#F#B&"
theorem kb {c:Cx} {P:Params} (hF:aS c (K3 P)):eS c 0 (bS P).1.1 (bI ["self", "node"]) dO:=by
 refine cQ (q:=(bS P).1) hF ?_ ?_ ?_ ?_ (fun ds bs e=>aZ e) ?_
 .exact (fx (bS P).2).2
 .rfl
 .exact @jf _ P hF
 .exact bo ["self", "node"] (by intro u0 u1; show _=_; rfl)
 .rfl
noncomputable def ba (P:Params):{q:Addr×FuncData // jd (K3 P) ae "__init__" =some q}:=⟨_,rfl⟩
theorem kC (P:Params):nV (K3 P) ae (ba P).1.1=true:=by rfl
noncomputable def cz:AM aj:=
 (ak (bF (uH (.dict 0 [])) [(lL ae "_node2info" (ad "self"))])
 (ak (bF (pure (.py .none)) [(lL ae "_ready_nodes" (ad "self"))])
 (ak (bF (pure (.py (.int 0))) [(lL ae "_npassedout" (ad "self"))])
 (ak (bF (pure (.py (.int 0))) [(lL ae "_nfinished" (ad "self"))])
 (ak (ifA (aJ .IsNot (ad "graph") (pure (.py .none))) AM.fail (pure .next))
 (pure .next))))))
noncomputable abbrev eE:=(x8 ["self"] "graph" (.py .none))
theorem gr {c:Cx} {P:Params} (hF:aS c (K3 P)):cG c 0 (ba P).1.2 (ci (ba P).1.2) cz:=by
 intro x0 hc0 hq0 hr0 hn0 hw0;have hF0:=hF.to hc0
 fail "%GzC#t"
 exact cD hF0 (dY P)
 fail "$#F#B%G_C#t"
 exact cD hF0 (bP P)
 fail "$#F#B%G-C#t"
 exact cD hF0 (iy P)
 fail "$#F#B%G-C#t"
 exact cD hF0 (i6 P)
 fail "$#F#B%7,$#_#j&&"
theorem gT {c:Cx} {P:Params} (hF:aS c (K3 P)):eS c 0 (ba P).1.1 (x8 ["self"] "graph" (.py .none)) cz:=by
 refine cQ (q:=(ba P).1) hF ?_ ?_ ?_ ?_ (fun ds bs e=>uB e) ?_
 .exact (fx (ba P).2).2
 .rfl
 .exact @gr _ P hF
 .exact wm (dval:=.none) (items:=#[.none]) (T:=83) (n:=0) hF (fun h l=>.py .none) rfl rfl rfl (fun u=>rfl) (fun u=>rfl)
 .rfl
noncomputable def aA (P:Params):{q:Addr×FuncData // jd (K3 P) ae "_get_nodeinfo" =some q}:=⟨_,rfl⟩
theorem dJ (P:Params):fe (K3 P) ae (Str.o "_get_nodeinfo") (aA P).1.1=true:=by rfl
noncomputable def aX:AM aj:=
 (ak (ifA (aJ .Is (Dv (bN "dict" (fQ ae "_node2info" (ad "self")) (ao (ad "node") (pure [])) CK) (aQ "result")) (pure (.py .none))) (ak (bF ((ao (ad "node") (pure []))>>=jg (.slots aG []) gU dO) [(gR (fQ ae "_node2info" (ad "self")) (ad "node")),(aQ "result")])
 (pure .next)) (pure .next))
 (ak (ft (ad "result"))
 (pure .next)))
noncomputable abbrev cF:=(bI ["self", "node"])
theorem fA {c:Cx} {P:Params} (hF:aS c (K3 P)):cG c 2 (aA P).1.2 (ci (aA P).1.2) aX:=by
 intro x0 hc0 hq0 hr0 hn0 hw0;have hF0:=hF.to hc0
 fail "%7,"
 refine Ax ?_ ?_;refine cy (id:="dict.get") ?_ ?_ ?_ ?_ ?_ ?_ ?_ ?_ ?_
 fail "###"
 exact PySem.F.plainAttrs_dict;exact PySem.F.slot_dict_get;exact PySem.F.type_dict_get
 fail "J#"
 exact cD hF0 (dY P)
 fail "$#*'$#)##"
 exact vV
 fail "+_#%G"
 refine aK (fv:=.ref aG) ?_ ?_ ?_ (ux (n:=0) (fI:=(bS P).1.1) hq0 (Nat.le_trans (by decide) hr0) (yJ hF0 (sZ P)) sA.slots (@kb _ P hF0))
 fail "4"
 exact hF0.glob "_NodeInfo" (.ref aG) (by rfl)
 fail "3#=*'$#)##C#nJ#"
 exact cD hF0 (dY P)
 fail "$#$#C#1+F#B&&%<$#&"
theorem dE {c:Cx} {P:Params} (hF:aS c (K3 P)):eS c 2 (aA P).1.1 (bI ["self", "node"]) aX:=by
 refine cQ (q:=(aA P).1) hF ?_ ?_ ?_ ?_ (fun ds bs e=>aZ e) ?_
 .exact (fx (aA P).2).2
 .rfl
 .exact @fA _ P hF
 .exact bo ["self", "node"] (by intro u0 u1; show _=_; rfl)
 .rfl
noncomputable def cp (P:Params):{q:Addr×FuncData // jd (K3 P) ae "add" =some q}:=⟨_,rfl⟩
noncomputable def aW:Addr:=104
theorem ja (P:Params):jp (K3 P) ae (Str.o "add") aW=true:=by rfl
noncomputable def bT:AM aj:=
 (ak (ifA (aJ .IsNot (fQ ae "_ready_nodes" (ad "self")) (pure (.py .none))) (ak (fW (.type "ValueError") (ao (pure (.py (.str (Str.o "Nodes cannot be added after a call to prepare()")))) (pure [])))
 (pure .next)) (pure .next))
 (ak (bG "nodeinfo" (il ae "_get_nodeinfo" (ad "self") (ao (ad "node") (pure [])) (dI cF aX)))
 (ak (ko aG 1 .Add (ad "nodeinfo") ((ao (ad "predecessors") (pure []))>>=gQ))
 (ak (ik ((ad "predecessors")>>=aM) (fun d=>(aQ "pred") d>>=fun _=>(ak (bG "pred_info" (il ae "_get_nodeinfo" (ad "self") (ao (ad "pred") (pure [])) (dI cF aX)))
 (ak (cv (bN "list" (iM aG 2 (ad "pred_info")) (ao (ad "node") (pure [])) cN))
 (pure .next)))) (pure .next))
 (pure .next)))))
noncomputable abbrev d8:=(i4 ["self", "node"] "predecessors")
theorem iA {c:Cx} {P:Params} (hF:aS c (K3 P)):cG c 3 (cp P).1.2 (ci (cp P).1.2) bT:=by
 intro x0 hc0 hq0 hr0 hn0 hw0;have hF0:=hF.to hc0
 fail "%7,J#"
 exact cD hF0 (bP P)
 fail "$#_#%g.4h3#*'5)###&&%/"
 refine jv (fa:=(aA P).1.1) ?_ ?_ ?_ ?_ ?_ ?_ ?_ (fj (n:=2) hq0 (Nat.le_trans (by decide) hr0) (@dE _ P hF0))
 fail "###"
 exact lc hF0 (dJ P)
 fail "=$#*'$#)##+#%"
 refine oh ?_ ?_ ?_;exact eQ hF0 (cB P)
 fail "$#"
 refine aK (fv:=.builtin "len") ?_ ?_ ?_ ?_
 fail "4S3#L*'$#)##Q%K8.$#(#1+%/"
 refine jv (fa:=(aA P).1.1) ?_ ?_ ?_ ?_ ?_ ?_ ?_ (fj (n:=2) hq0 (Nat.le_trans (by decide) hr0) (@dE _ P hF0))
 fail "###"
 exact lc hF0 (dJ P)
 fail "=$#*'$#)##+#%;U###HVWk#"
 exact eQ hF0 (gJ P)
 fail "$#*'$#)##X#&&#&"
theorem jb {c:Cx} {P:Params} (hF:aS c (K3 P)):eS c 3 (cp P).1.1 (i4 ["self", "node"] "predecessors") bT:=by
 refine cQ (q:=(cp P).1) hF ?_ ?_ ?_ ?_ (fun ds bs e=>n7 e) ?_
 .exact (fx (cp P).2).2
 .rfl
 .exact @iA _ P hF
 .exact sa (by intro u0 u1 rest; cases rest <;> (show _=_; rfl))
 .rfl
theorem iI {c:Cx} {P:Params} (hF:aS c (K3 P)):eS c 3 aW (i4 ["self", "node"] "predecessors") bT:=by
 have h:=@jb c P hF;exact h
noncomputable def aR (P:Params):{q:Addr×FuncData // jd (K3 P) ae "_find_cycle" =some q}:=⟨_,rfl⟩
theorem gp (P:Params):fe (K3 P) ae (Str.o "_find_cycle") (aR P).1.1=true:=by rfl
noncomputable def bW:AM aj:=
 (ak (bG "n2i" (fQ ae "_node2info" (ad "self")))
 (ak (bG "stack" (eb (pure [])))
 (ak (bG "itstack" (eb (pure [])))
 (ak (bG "seen" ((pure [])>>=tj))
 (ak (bG "node2stacki" (uH (.dict 0 [])))
 (ak (ik ((ad "n2i")>>=aM) (fun d=>(aQ "node") d>>=fun _=>(ak (ifA (aJ .In (ad "node") (ad "seen")) (ak (pure .cont)
 (pure .next)) (pure .next))
 (ak (eW (iz (pure (.py (.bool true)))) (ak (ifA (aJ .In (ad "node") (ad "seen")) (ak (ifA (aJ .In (ad "node") (ad "node2stacki")) (ak (ft (bO .Add (cJ (ad "stack") (bu (ad "node2stacki") (ad "node")) (pure (.py .none))) (dl (ao (ad "node") (pure [])))))
 (pure .next)) (pure .next))
 (pure .next)) (ak (cv (bN "set" (ad "seen") (ao (ad "node") (pure [])) mJ))
 (ak (cv (bN "list" (ad "itstack") (ao (kl ((ao (iM aG 2 (bu (ad "n2i") (ad "node"))) (pure []))>>=ki)) (pure [])) cN))
 (ak (bF ((ao (ad "stack") (pure []))>>=gQ) [(gR (ad "node2stacki") (ad "node"))])
 (ak (cv (bN "list" (ad "stack") (ao (ad "node") (pure [])) cN))
 (pure .next))))))
 (ak (eW (iz (ad "stack")) (ak (p9 (ak (bG "node" (fy (bu (ad "itstack") (pure (.py (.int (-1))))) (pure [])))
 (ak (pure .brk)
 (pure .next))) (.type "StopIteration") (ak (xM (ad "node2stacki") (bN "list" (ad "stack") (pure []) rt))
 (ak (cv (bN "list" (ad "itstack") (pure []) rt))
 (pure .next))))
 (pure .next)) (ak (pure .brk)
 (pure .next)) d5)
 (pure .next))) (pure .next) d5)
 (pure .next)))) (pure .next))
 (ak (ft (pure (.py .none)))
 (pure .next))))))))
noncomputable abbrev gq:=(bI ["self"])
theorem fN {c:Cx} {P:Params} (hF:aS c (K3 P)):cG c 0 (aR P).1.2 (ci (aR P).1.2) bW:=by
 intro x0 hc0 hq0 hr0 hn0 hw0;have hF0:=hF.to hc0
 fail "%/J#"
 exact cD hF0 (dY P)
 fail "$#+#%/T)+#%/T)+#%/"
 refine aK (fv:=.type "set") ?_ ?_ ?_ ?_
 fail "4"
 exact hF0.built "set" _ (by rfl) (by rfl) (by decide)
 fail "3#oY"
 exact z4
 fail "+#%/z+#%K8.$#(#1+%7,$#$##%"
 exact uP
 fail "&&%^Z[#%7,$#$##%7,$#$##%<6I$#E2$#$#((#PR'$#)#&&&%;"
 refine cy (id:="set.add") ?_ ?_ ?_ ?_ ?_ ?_ ?_ ?_ ?_
 fail "###"
 exact PySem.F.plainAttrs_set;exact PySem.F.slot_set_add;exact PySem.F.type_set_add
 fail "$#*'$#)##"
 exact vH
 fail "#%;U###HVW$#*'"
 refine wR ?_ ?_
 fail "#"
 refine aK (fv:=.builtin "iter") ?_ ?_ ?_ ?_
 fail "4"
 exact hF0.built "iter" _ (by rfl) (by rfl) (by decide)
 fail "3#L*'k#"
 exact eQ hF0 (gJ P)
 fail "2$#$#((#)##"
 exact xw
 fail ")##X#%G"
 refine aK (fv:=.builtin "len") ?_ ?_ ?_ ?_
 fail "4S3#L*'$#)##QC#n$#$#F#B%;U###HVW$#*'$#)##X#&%^Z$##%}%/`."
 exact Ds
 fail "2$#m((#Y+#%"
 exact qd
 fail "&"
 refine lH ?_ ?_ ?_ ?_;exact mG;exact ng;exact l8;intro y hc he
 fail "4"
 exact (hF0.to hc).built "StopIteration" _ (by rfl) (by rfl) (by decide);exact av ((congrArg (fun e:Env=>e.scope.names) he).trans hn0) (by rfl)
 fail "#"
 intro x1 hc1 hr1a he1 hw1a;have hn1:=(congrArg (fun e:Env=>e.scope.names) he1).trans hn0;have hw1:=hw1a.trans hw0;have hF1:=hF0.to hc1;have hr1:=leq hr0 hr1a
 fail "%"
 refine Cb ?_ ?_
 fail "$#"
 refine cy (id:="list.pop") ?_ ?_ ?_ ?_ ?_ ?_ ?_ ?_ ?_
 fail "###H"
 exact PySem.F.slot_list_pop;exact PySem.F.type_list_pop
 fail "$#Y"
 exact v6
 fail "%;"
 refine cy (id:="list.pop") ?_ ?_ ?_ ?_ ?_ ?_ ?_ ?_ ?_
 fail "###H"
 exact PySem.F.slot_list_pop;exact PySem.F.type_list_pop
 fail "$#Y"
 exact v6
 fail "#&&%"
 exact qd
 fail "&&&&&#%<_&"
theorem gi {c:Cx} {P:Params} (hF:aS c (K3 P)):eS c 0 (aR P).1.1 (bI ["self"]) bW:=by
 refine cQ (q:=(aR P).1) hF ?_ ?_ ?_ ?_ (fun ds bs e=>aZ e) ?_
 .exact (fx (aR P).2).2
 .rfl
 .exact @fN _ P hF
 .exact bo ["self"] (by intro u0; show _=_; rfl)
 .rfl
noncomputable def bg (P:Params):{q:Addr×FuncData // jd (K3 P) ae "prepare" =some q}:=⟨_,rfl⟩
theorem g8 (P:Params):fe (K3 P) ae (Str.o "prepare") (bg P).1.1=true:=by rfl
noncomputable def cE:AM aj:=
 (ak (ifA (aJ .IsNot (fQ ae "_ready_nodes" (ad "self")) (pure (.py .none))) (ak (fW (.type "ValueError") (ao (pure (.py (.str (Str.o "cannot prepare() more than once")))) (pure [])))
 (pure .next)) (pure .next))
 (ak (bF (bf true [] ⟨((fQ ae "_node2info" (ad "self"))>>=tY),(aQ "i"),[(aJ .Eq (iM aG 1 (ad "i")) (pure (.py (.int 0))))]⟩ [] (iM aG 0 (ad "i"))) [(lL ae "_ready_nodes" (ad "self"))])
 (ak (bG "cycle" (il ae "_find_cycle" (ad "self") (pure []) (dI gq bW)))
 (ak (ifA (iz (ad "cycle")) (ak (fW (.ref fm) (ao (pure (.py (.str (Str.o "nodes are in a cycle")))) (ao (ad "cycle") (pure []))))
 (pure .next)) (pure .next))
 (pure .next)))))
noncomputable abbrev hH:=(bI ["self"])
theorem gz {c:Cx} {P:Params} (hF:aS c (K3 P)):cG c 1 (bg P).1.2 (ci (bg P).1.2) cE:=by
 intro x0 hc0 hq0 hr0 hn0 hw0;have hF0:=hF.to hc0
 fail "%7,J#"
 exact cD hF0 (bP P)
 fail "$#_#%g.4h3#*'5)###&&%G"
 refine bq (keep:=true) (fs:=[]) ?_ ?_
 fail "0D?"
 refine z7 ?_ ?_ ?_ ?_ ?_
 fail ".##J#"
 exact cD hF0 (dY P)
 fail "$#(#"
 intro x1 hc1 hq1a hr1a hn1 hw1;have hq1:=hq1a.trans hq0;have hr1:=leq hr0 hr1a;have hF1:=hF0.to hc1
 fail ":k#"
 exact eQ hF1 (yB P)
 fail "$#0##1@M,k#"
 exact eQ hF1 (cB P)
 fail "$#-#9A>C#t"
 exact cD hF0 (bP P)
 fail "$#F#B%/"
 refine jv (fa:=(aR P).1.1) ?_ ?_ ?_ ?_ ?_ ?_ ?_ (fj (n:=0) hq0 (Nat.le_trans (by decide) hr0) (@gi _ P hF0))
 fail "###"
 exact lc hF0 (gp P)
 fail "=$#Y+#%7Z$##%"
 refine t5 ?_ ?_ ?_ ?_ ?_
 fail "."
 exact Az hF0 (lx P)
 fail "4"
 exact hF0.glob "CycleError" (.ref fm) (by rfl)
 fail "3#*'"
 refine AE ?_
 fail "5'$#)####&&&"
theorem g6 {c:Cx} {P:Params} (hF:aS c (K3 P)):eS c 1 (bg P).1.1 (bI ["self"]) cE:=by
 refine cQ (q:=(bg P).1) hF ?_ ?_ ?_ ?_ (fun ds bs e=>aZ e) ?_
 .exact (fx (bg P).2).2
 .rfl
 .exact @gz _ P hF
 .exact bo ["self"] (by intro u0; show _=_; rfl)
 .rfl
noncomputable def aU (P:Params):{q:Addr×FuncData // jd (K3 P) ae "get_ready" =some q}:=⟨_,rfl⟩
theorem gC (P:Params):fe (K3 P) ae (Str.o "get_ready") (aU P).1.1=true:=by rfl
noncomputable def bJ:AM aj:=
 (ak (ifA (aJ .Is (fQ ae "_ready_nodes" (ad "self")) (pure (.py .none))) (ak (fW (.type "ValueError") (ao (pure (.py (.str (Str.o "prepare() must be called first")))) (pure [])))
 (pure .next)) (pure .next))
 (ak (bG "result" ((ao (fQ ae "_ready_nodes" (ad "self")) (pure []))>>=mi))
 (ak (bG "n2i" (fQ ae "_node2info" (ad "self")))
 (ak (ik ((ad "result")>>=aM) (fun d=>(aQ "node") d>>=fun _=>(ak (bF (pure (.py (.int (-1)))) [(lK aG 1 (bu (ad "n2i") (ad "node")))])
 (pure .next))) (pure .next))
 (ak (cv (bN "list" (fQ ae "_ready_nodes" (ad "self")) (pure []) wM))
 (ak (ph ae "_npassedout" .Add (ad "self") ((ao (ad "result") (pure []))>>=gQ))
 (ak (ft (ad "result"))
 (pure .next))))))))
noncomputable abbrev eo:=(bI ["self"])
theorem f9 {c:Cx} {P:Params} (hF:aS c (K3 P)):cG c 0 (aU P).1.2 (ci (aU P).1.2) bJ:=by
 intro x0 hc0 hq0 hr0 hn0 hw0;have hF0:=hF.to hc0
 fail "%7,J#"
 exact cD hF0 (bP P)
 fail "$#_#%g.4h3#*'5)###&&%/"
 refine aK (fv:=.type "tuple") ?_ ?_ ?_ ?_
 fail "4"
 exact hF0.built "tuple" _ (by rfl) (by rfl) (by decide)
 fail "3#o*'J#"
 exact cD hF0 (bP P)
 fail "$#)##"
 exact v7
 fail "+#%/J#"
 exact cD hF0 (dY P)
 fail "$#+#%K8.$#(#1+%G"
 refine jJ (K:=K3 P) ?_ ?_ ?_ ?_
 fail "u#3#C#s"
 exact eQ hF0 (cB P)
 fail "2$#$#((#F#B&&#%;"
 refine cy (id:="list.clear") ?_ ?_ ?_ ?_ ?_ ?_ ?_ ?_ ?_
 fail "###H"
 exact PySem.F.slot_list_clear;exact PySem.F.type_list_clear
 fail "J#"
 exact cD hF0 (bP P)
 fail "$#Y"
 exact xJ
 fail "#%"
 refine p5 ?_ ?_ ?_;exact cD hF0 (iy P)
 fail "$#"
 refine aK (fv:=.builtin "len") ?_ ?_ ?_ ?_
 fail "4S3#L*'$#)##Q%<$#&"
theorem gF {c:Cx} {P:Params} (hF:aS c (K3 P)):eS c 0 (aU P).1.1 (bI ["self"]) bJ:=by
 refine cQ (q:=(aU P).1) hF ?_ ?_ ?_ ?_ (fun ds bs e=>aZ e) ?_
 .exact (fx (aU P).2).2
 .rfl
 .exact @f9 _ P hF
 .exact bo ["self"] (by intro u0; show _=_; rfl)
 .rfl
noncomputable def aV (P:Params):{q:Addr×FuncData // jd (K3 P) ae "is_active" =some q}:=⟨_,rfl⟩
theorem gD (P:Params):fe (K3 P) ae (Str.o "is_active") (aV P).1.1=true:=by rfl
noncomputable def bw:AM aj:=
 (ak (ifA (aJ .Is (fQ ae "_ready_nodes" (ad "self")) (pure (.py .none))) (ak (fW (.type "ValueError") (ao (pure (.py (.str (Str.o "prepare() must be called first")))) (pure [])))
 (pure .next)) (pure .next))
 (ak (ft (orE (tS .Lt (fQ ae "_nfinished" (ad "self")) (fQ ae "_npassedout" (ad "self"))) ((ao (fQ ae "_ready_nodes" (ad "self")) (pure []))>>=Bu)))
 (pure .next)))
noncomputable abbrev cT:=(bI ["self"])
theorem fY {c:Cx} {P:Params} (hF:aS c (K3 P)):cG c 0 (aV P).1.2 (ci (aV P).1.2) bw:=by
 intro x0 hc0 hq0 hr0 hn0 hw0;have hF0:=hF.to hc0
 fail "%7,J#"
 exact cD hF0 (bP P)
 fail "$#_#%g.4h3#*'5)###&&%<"
 refine GN ?_ ?_
 fail "yJ#"
 exact cD hF0 (i6 P)
 fail "$#J#"
 exact cD hF0 (iy P)
 fail "$##"
 refine aK (fv:=.type "bool") ?_ ?_ ?_ ?_
 fail "4"
 exact hF0.built "bool" _ (by rfl) (by rfl) (by decide)
 fail "3#o*'J#"
 exact cD hF0 (bP P)
 fail "$#)##"
 exact xl
 fail "&"
theorem gH {c:Cx} {P:Params} (hF:aS c (K3 P)):eS c 0 (aV P).1.1 (bI ["self"]) bw:=by
 refine cQ (q:=(aV P).1) hF ?_ ?_ ?_ ?_ (fun ds bs e=>aZ e) ?_
 .exact (fx (aV P).2).2
 .rfl
 .exact @fY _ P hF
 .exact bo ["self"] (by intro u0; show _=_; rfl)
 .rfl
noncomputable def cf (P:Params):{q:Addr×FuncData // jd (K3 P) ae "done" =some q}:=⟨_,rfl⟩
noncomputable def bK:Addr:=137
theorem iH (P:Params):jp (K3 P) ae (Str.o "done") bK=true:=by rfl
noncomputable def bR:AM aj:=
 (ak (ifA (aJ .Is (fQ ae "_ready_nodes" (ad "self")) (pure (.py .none))) (ak (fW (.type "ValueError") (ao (pure (.py (.str (Str.o "prepare() must be called first")))) (pure [])))
 (pure .next)) (pure .next))
 (ak (bG "n2i" (fQ ae "_node2info" (ad "self")))
 (ak (ik ((ad "nodes")>>=aM) (fun d=>(aQ "node") d>>=fun _=>(ak (ifA (aJ .Is (Dv (bN "dict" (ad "n2i") (ao (ad "node") (pure [])) CK) (aQ "nodeinfo")) (pure (.py .none))) (ak (fW (.type "ValueError") (ao (jO [(pure (.py (.str (Str.o "node ")))),(mL (ad "node")),(pure (.py (.str (Str.o " was not added using add()"))))] Str.empty) (pure [])))
 (pure .next)) (pure .next))
 (ak (bG "stat" (iM aG 1 (ad "nodeinfo")))
 (ak (ifA (aJ .NotEq (ad "stat") (pure (.py (.int (-1))))) (ak (ifA (aJ .GtE (ad "stat") (pure (.py (.int 0)))) (ak (fW (.type "ValueError") (ao (jO [(pure (.py (.str (Str.o "node ")))),(mL (ad "node")),(pure (.py (.str (Str.o " was not passed out (still not ready)"))))] Str.empty) (pure [])))
 (pure .next)) (ak (ifA (aJ .Eq (ad "stat") (pure (.py (.int (-2))))) (ak (fW (.type "ValueError") (ao (jO [(pure (.py (.str (Str.o "node ")))),(mL (ad "node")),(pure (.py (.str (Str.o " was already marked done"))))] Str.empty) (pure [])))
 (pure .next)) (ak (lb (iz (pure (.py (.bool false)))))
 (pure .next)))
 (pure .next)))
 (pure .next)) (pure .next))
 (ak (bF (pure (.py (.int (-2)))) [(lK aG 1 (ad "nodeinfo"))])
 (ak (ik ((iM aG 2 (ad "nodeinfo"))>>=aM) (fun d=>(aQ "successor") d>>=fun _=>(ak (bG "successor_info" (bu (ad "n2i") (ad "successor")))
 (ak (ko aG 1 .Sub (ad "successor_info") (pure (.py (.int 1))))
 (ak (ifA (aJ .Eq (iM aG 1 (ad "successor_info")) (pure (.py (.int 0)))) (ak (cv (bN "list" (fQ ae "_ready_nodes" (ad "self")) (ao (ad "successor") (pure [])) cN))
 (pure .next)) (pure .next))
 (pure .next))))) (pure .next))
 (ak (ph ae "_nfinished" .Add (ad "self") (pure (.py (.int 1))))
 (pure .next)))))))) (pure .next))
 (pure .next))))
noncomputable abbrev dZ:=(i4 ["self"] "nodes")
theorem hY {c:Cx} {P:Params} (hF:aS c (K3 P)):cG c 0 (cf P).1.2 (ci (cf P).1.2) bR:=by
 intro x0 hc0 hq0 hr0 hn0 hw0;have hF0:=hF.to hc0
 fail "%7,J#"
 exact cD hF0 (bP P)
 fail "$#_#%g.4h3#*'5)###&&%/J#"
 exact cD hF0 (dY P)
 fail "$#+#%K8.$#(#1+%7,"
 refine Ax ?_ ?_;refine cy (id:="dict.get") ?_ ?_ ?_ ?_ ?_ ?_ ?_ ?_ ?_
 fail "###"
 exact PySem.F.plainAttrs_dict;exact PySem.F.slot_dict_get;exact PySem.F.type_dict_get
 fail "$#*'$#)##"
 exact vV
 fail "+_#%g.4h3#*'vO5O"
 refine lJ ?_
 fail "$#O5w)###&&%/k#"
 exact eQ hF0 (cB P)
 fail "$#+#%7,$#"
 refine jJ (K:=K3 P) ?_ ?_ ?_ ?_
 fail "u#3##%7,$#-#%g.4h3#*'vO5O"
 refine lJ ?_
 fail "$#O5w)###&%7,$#"
 refine jJ (K:=K3 P) ?_ ?_ ?_ ?_
 fail "u#3##%g.4h3#*'vO5O"
 refine lJ ?_
 fail "$#O5w)###&%xZ[#&&&&%G"
 refine jJ (K:=K3 P) ?_ ?_ ?_ ?_
 fail "u#3#C#s"
 exact eQ hF0 (cB P)
 fail "$#F#B%K8.k#"
 exact eQ hF0 (gJ P)
 fail "$#(#1+%/2$#$#((#+#%"
 refine oh ?_ ?_ ?_;exact eQ hF0 (cB P)
 fail "$#-%7,k#"
 exact eQ hF0 (cB P)
 fail "$#-#%;U###HVWJ#"
 exact cD hF0 (bP P)
 fail "$#*'$#)##X#&&&&#%"
 refine p5 ?_ ?_ ?_;exact cD hF0 (i6 P)
 fail "$#-&&#&"
theorem iG {c:Cx} {P:Params} (hF:aS c (K3 P)):eS c 0 (cf P).1.1 (i4 ["self"] "nodes") bR:=by
 refine cQ (q:=(cf P).1) hF ?_ ?_ ?_ ?_ (fun ds bs e=>n7 e) ?_
 .exact (fx (cf P).2).2
 .rfl
 .exact @hY _ P hF
 .exact sa (by intro u0 rest; cases rest <;> (show _=_; rfl))
 .rfl
theorem iE {c:Cx} {P:Params} (hF:aS c (K3 P)):eS c 0 bK (i4 ["self"] "nodes") bR:=by
 have h:=@iG c P hF;exact h
noncomputable def fP (P:Params):{q:Addr×FuncData // fnK (K3 P) "escape" =some q}:=⟨_,rfl⟩
noncomputable def mB:AM aj:=
 (ak (ifA (iz ((ao (ad "pattern") (ao (Ej (.type "str")) (pure [])))>>=lU)) (ak (ft (bN "str" (ad "pattern") (ao (Ej (.ref An)) (pure [])) (qK An GM)))
 (pure .next)) AM.fail)
 (pure .next))
noncomputable def Al:List PyData->Option PyData:=kB (bI ["pattern"]) mB
theorem um {c:Cx} {P:Params} (hF:aS c (K3 P)):cG c 0 (fP P).1.2 (ci (fP P).1.2) mB:=by
 intro x0 hc0 hq0 hr0 hn0 hw0;have hF0:=hF.to hc0
 fail "%7Z"
 refine aK (fv:=.builtin "isinstance") ?_ ?_ ?_ ?_
 fail "4"
 exact hF0.built "isinstance" _ (by rfl) (by rfl) (by decide)
 fail "3#L*'$#'"
 refine vw ?_ ?_ ?_;exact hF0.built "str" (.type "str") (by rfl) (by rfl) (by decide)
 fail "3#)###"
 exact o9
 fail "#%<"
 refine cy (id:="str.translate") ?_ ?_ ?_ ?_ ?_ ?_ ?_ ?_ ?_
 fail "###p"
 exact PySem.F.slot_str_translate;exact PySem.F.type_str_translate
 fail "$#*'"
 refine xu (K:=K3 P) ?_ ?_ ?_ ?_
 fail "u#3#)##"
 refine qR ?_;exact FG hF0 (EY P)
 fail "&j&"
theorem zP {c:Cx} {P:Params} (hF:aS c (K3 P)):eS c 0 (fP P).1.1 (bI ["pattern"]) mB:=by
 refine cQ (q:=(fP P).1) hF ?_ ?_ ?_ ?_ (fun ds bs e=>aZ e) ?_
 .exact (dU (fP P).2).2
 .rfl
 .exact @um _ P hF
 .exact bo ["pattern"] (by intro u0; show _=_; rfl)
 .rfl
noncomputable def dx (P:Params):{q:Addr×FuncData // fnK (K3 P) "_translate" =some q}:=⟨_,rfl⟩
noncomputable def j0:AM aj:=
 (ak (bG "res" (eb (pure [])))
 (ak (bG "add" (lM (ad "res")))
 (ak (ql (j9 (ao (pure (.py (.int 0))) (ao ((ao (ad "pat") (pure []))>>=gQ) (pure [])))) ["i", "n"])
 (ak (eW (aJ .Lt (ad "i") (ad "n")) (ak (bG "c" (bu (ad "pat") (ad "i")))
 (ak (bG "i" (bO .Add (ad "i") (pure (.py (.int 1)))))
 (ak (ifA (aJ .Eq (ad "c") (pure (.py (.str (Str.o "*"))))) (ak (ifA (orT (Go (iz (ad "res"))) (orT (aJ .IsNot (bu (ad "res") (pure (.py (.int (-1))))) (ad "STAR")) (pure (.Or==BoolOp.And)))) (ak (cv (fy (ad "add") (ao (ad "STAR") (pure []))))
 (pure .next)) (pure .next))
 (pure .next)) (ak (ifA (aJ .Eq (ad "c") (pure (.py (.str (Str.o "?"))))) (ak (cv (fy (ad "add") (ao (ad "QUESTION_MARK") (pure []))))
 (pure .next)) (ak (ifA (aJ .Eq (ad "c") (pure (.py (.str (Str.o "["))))) (ak (bG "j" (ad "i"))
 (ak (ifA (jV (aJ .Lt (ad "j") (ad "n")) (jV (aJ .Eq (bu (ad "pat") (ad "j")) (pure (.py (.str (Str.o "!"))))) (pure (.And==BoolOp.And)))) (ak (bG "j" (bO .Add (ad "j") (pure (.py (.int 1)))))
 (pure .next)) (pure .next))
 (ak (ifA (jV (aJ .Lt (ad "j") (ad "n")) (jV (aJ .Eq (bu (ad "pat") (ad "j")) (pure (.py (.str (Str.o "]"))))) (pure (.And==BoolOp.And)))) (ak (bG "j" (bO .Add (ad "j") (pure (.py (.int 1)))))
 (pure .next)) (pure .next))
 (ak (eW (jV (aJ .Lt (ad "j") (ad "n")) (jV (aJ .NotEq (bu (ad "pat") (ad "j")) (pure (.py (.str (Str.o "]"))))) (pure (.And==BoolOp.And)))) (ak (bG "j" (bO .Add (ad "j") (pure (.py (.int 1)))))
 (pure .next)) (pure .next) d5)
 (ak (ifA (aJ .GtE (ad "j") (ad "n")) (ak (cv (fy (ad "add") (ao (pure (.py (.str (Str.o "\\[")))) (pure []))))
 (pure .next)) (ak (bG "stuff" (cJ (ad "pat") (ad "i") (ad "j")))
 (ak (ifA (aJ .NotIn (pure (.py (.str (Str.o "-")))) (ad "stuff")) AM.fail (ak (bG "chunks" (eb (pure [])))
 (ak (bG "k" (ifE (aJ .Eq (bu (ad "pat") (ad "i")) (pure (.py (.str (Str.o "!"))))) (bO .Add (ad "i") (pure (.py (.int 2)))) (bO .Add (ad "i") (pure (.py (.int 1))))))
 (ak (eW (iz (pure (.py (.bool true)))) AM.fail (pure .next) d5)
 (ak (bG "chunk" (cJ (ad "pat") (ad "i") (ad "j")))
 (ak (ifA (iz (ad "chunk")) (ak (cv (bN "list" (ad "chunks") (ao (ad "chunk") (pure [])) cN))
 (pure .next)) AM.fail)
 (ak (ik (okA (ao (bO .Sub ((ao (ad "chunks") (pure []))>>=gQ) (pure (.py (.int 1)))) (ao (pure (.py (.int 0))) (ao (pure (.py (.int (-1)))) (pure []))))>>=dw) (fun d=>(aQ "k") d>>=fun _=>(ak (ifA (aJ .Gt (bu (bu (ad "chunks") (bO .Sub (ad "k") (pure (.py (.int 1))))) (pure (.py (.int (-1))))) (bu (bu (ad "chunks") (ad "k")) (pure (.py (.int 0))))) (ak (bF (bO .Add (cJ (bu (ad "chunks") (bO .Sub (ad "k") (pure (.py (.int 1))))) (pure (.py .none)) (pure (.py (.int (-1))))) (cJ (bu (ad "chunks") (ad "k")) (pure (.py (.int 1))) (pure (.py .none)))) [(gR (ad "chunks") (bO .Sub (ad "k") (pure (.py (.int 1)))))])
 (ak (xM (ad "chunks") (ad "k"))
 (pure .next))) (pure .next))
 (pure .next))) (pure .next))
 AM.fail)))))))
 AM.fail)))
 (pure .next)))))) (ak (cv (fy (ad "add") (ao ((ao (ad "c") (pure []))>>=bV Al) (pure []))))
 (pure .next)))
 (pure .next)))
 (pure .next)))
 (pure .next)))) (pure .next) d5)
 (ak (lb (aJ .Eq (ad "i") (ad "n")))
 (ak (ft (ad "res"))
 (pure .next)))))))
noncomputable abbrev tx:=(bI ["pat", "STAR", "QUESTION_MARK"])
theorem pd {c:Cx} {P:Params} (hF:aS c (K3 P)):cG c 1 (dx P).1.2 (ci (dx P).1.2) j0:=by
 intro x0 hc0 hq0 hr0 hn0 hw0;have hF0:=hF.to hc0
 fail "%/T)+#%/"
 refine me ?_ ?_
 fail "#$#+#%"
 refine mo (vs:=["i", "n"]) ?_ ?_ ?_ ?_ ?_
 fail ".b'-'"
 refine aK (fv:=.builtin "len") ?_ ?_ ?_ ?_
 fail "4S3#L*'$#)##Q)##q#B%^,$#$##%/2$#$#((#+#%/6$#-+#%7,$#5#%7e"
 refine AJ ?_ ?_;refine Fy ?_
 fail "Z$##"
 refine AJ ?_ ?_
 fail ",2$#m((#$##f%;`.d$#*'$#)###&&&%7,$#5#%;`.d$#*'$#)###&%7,$#5#%/$#+#%7eN,$#$##N,2$#$#((#5#f%/6$#-+#&&%7eN,$#$##N,2$#$#((#5#f%/6$#-+#&&%^eN,$#$##N,2$#$#((#5#f%/6$#-+#&&%7,$#$##%;`.d$#*'5)###&%/I$#E$#E$#+#%7,5$##j%/T)+#%/r,2$#$#((#5#6$#-6$#-+#%^Z[#j&%/I$#E$#E$#+#%7Z$##%;U###HVW$#*'$#)##X#&j%K].4a3#*'6"
 refine aK (fv:=.builtin "len") ?_ ?_ ?_ ?_
 fail "4S3#L*'$#)##Q-'-'m)####(#1+%7,22$#6$#-((#m((#22$#$#((#-((##%G6I2$#6$#-((#PEmI2$#$#((#E-PC#n$#6$#-F#B%"
 refine Cb ?_ ?_
 fail "$#$#&&&&#jj&%;`.d$#*'"
 refine aK (fv:=.ref (fP P).1.1) (al (ck (q:=(fP P).1) hF0 (fP P).2) (av hn0 (by rfl)) (by rfl)) ?_ ?_ (bX (n:=0) (bind:=bI ["pattern"]) (fb:=mB) hq0 (Nat.le_trans (by decide) hr0) (@zP _ P hF0) (fun _ _ h=>h))
 fail "=*'$#)##)###&&&&&%x,$#$##%<$#&"
theorem rM {c:Cx} {P:Params} (hF:aS c (K3 P)):eS c 1 (dx P).1.1 (bI ["pat", "STAR", "QUESTION_MARK"]) j0:=by
 refine cQ (q:=(dx P).1) hF ?_ ?_ ?_ ?_ (fun ds bs e=>aZ e) ?_
 .exact (dU (dx P).2).2
 .rfl
 .exact @pd _ P hF
 .exact bo ["pat", "STAR", "QUESTION_MARK"] (by intro u0 u1 u2; show _=_; rfl)
 .rfl
noncomputable def bh (P:Params):{q:Addr×FuncData // fnK (K3 P) "_join_translated_parts" =some q}:=⟨_,rfl⟩
noncomputable def dW:AM aj:=
 (ak (bG "res" (eb (pure [])))
 (ak (bG "add" (lM (ad "res")))
 (ak (ql (j9 (ao (pure (.py (.int 0))) (ao ((ao (ad "inp") (pure []))>>=gQ) (pure [])))) ["i", "n"])
 (ak (eW (jV (aJ .Lt (ad "i") (ad "n")) (jV (aJ .IsNot (bu (ad "inp") (ad "i")) (ad "STAR")) (pure (.And==BoolOp.And)))) (ak (cv (fy (ad "add") (ao (bu (ad "inp") (ad "i")) (pure []))))
 (ak (mH "i" .Add (pure (.py (.int 1))))
 (pure .next))) (pure .next) d5)
 (ak (eW (aJ .Lt (ad "i") (ad "n")) (ak (lb (aJ .Is (bu (ad "inp") (ad "i")) (ad "STAR")))
 (ak (mH "i" .Add (pure (.py (.int 1))))
 (ak (ifA (aJ .Eq (ad "i") (ad "n")) (ak (cv (fy (ad "add") (ao (pure (.py (.str (Str.o ".*")))) (pure []))))
 (ak (pure .brk)
 (pure .next))) (pure .next))
 (ak (lb (aJ .IsNot (bu (ad "inp") (ad "i")) (ad "STAR")))
 (ak (bG "fixed" (eb (pure [])))
 (ak (eW (jV (aJ .Lt (ad "i") (ad "n")) (jV (aJ .IsNot (bu (ad "inp") (ad "i")) (ad "STAR")) (pure (.And==BoolOp.And)))) (ak (cv (bN "list" (ad "fixed") (ao (bu (ad "inp") (ad "i")) (pure [])) cN))
 (ak (mH "i" .Add (pure (.py (.int 1))))
 (pure .next))) (pure .next) d5)
 (ak (bG "fixed" (bN "str" (pure (.py (.str (Str.o "")))) (ao (ad "fixed") (pure [])) xT))
 (ak (ifA (aJ .Eq (ad "i") (ad "n")) (ak (cv (fy (ad "add") (ao (pure (.py (.str (Str.o ".*")))) (pure []))))
 (ak (cv (fy (ad "add") (ao (ad "fixed") (pure []))))
 (pure .next))) (ak (cv (fy (ad "add") (ao (jO [(pure (.py (.str (Str.o "(?>.*?")))),(FC (ad "fixed")),(pure (.py (.str (Str.o ")"))))] Str.empty) (pure []))))
 (pure .next)))
 (pure .next))))))))) (pure .next) d5)
 (ak (lb (aJ .Eq (ad "i") (ad "n")))
 (ak (bG "res" (bN "str" (pure (.py (.str (Str.o "")))) (ao (ad "res") (pure [])) xT))
 (ak (ft (jO [(pure (.py (.str (Str.o "(?s:")))),(FC (ad "res")),(pure (.py (.str (Str.o ")\\Z"))))] Str.empty))
 (pure .next)))))))))
noncomputable abbrev jc:=(bI ["inp", "STAR"])
theorem g9 {c:Cx} {P:Params} (hF:aS c (K3 P)):cG c 0 (bh P).1.2 (ci (bh P).1.2) dW:=by
 intro x0 hc0 hq0 hr0 hn0 hw0;have hF0:=hF.to hc0
 fail "%/T)+#%/"
 refine me ?_ ?_
 fail "#$#+#%"
 refine mo (vs:=["i", "n"]) ?_ ?_ ?_ ?_ ?_
 fail ".b'-'"
 refine aK (fv:=.builtin "len") ?_ ?_ ?_ ?_
 fail "4S3#L*'$#)##Q)##q#B%^eN,$#$##N,2$#$#((#$##f%;`.d$#*'2$#$#((#)###%"
 refine kh ?_ ?_
 fail "-+&&%^,$#$##%x,2$#$#((#$##%"
 refine kh ?_ ?_
 fail "-+%7,$#$##%;`.d$#*'5)###%"
 exact qd
 fail "&&%x,2$#$#((#$##%/T)+#%^eN,$#$##N,2$#$#((#$##f%;U###HVW$#*'2$#$#((#)##X#%"
 refine kh ?_ ?_
 fail "-+&&%/~###p"
 exact PySem.F.slot_str_join;exact PySem.F.type_str_join
 fail "5*'$#)##"
 exact nT
 fail "+#%7,$#$##%;`.d$#*'5)###%;`.d$#*'$#)###&%;`.d$#*'vO5O"
 refine Cc ?_
 fail "$#O5w)###&&&%x,$#$##%/~###p"
 exact PySem.F.slot_str_join;exact PySem.F.type_str_join
 fail "5*'$#)##"
 exact nT
 fail "+#%<vO5O"
 refine Cc ?_
 fail "$#O5w&"
theorem iF {c:Cx} {P:Params} (hF:aS c (K3 P)):eS c 0 (bh P).1.1 (bI ["inp", "STAR"]) dW:=by
 refine cQ (q:=(bh P).1) hF ?_ ?_ ?_ ?_ (fun ds bs e=>aZ e) ?_
 .exact (dU (bh P).2).2
 .rfl
 .exact @g9 _ P hF
 .exact bo ["inp", "STAR"] (by intro u0 u1; show _=_; rfl)
 .rfl
noncomputable def dP (P:Params):{q:Addr×FuncData // fnK (K3 P) "translate" =some q}:=⟨_,rfl⟩
noncomputable def iX:AM aj:=
 (ak (bG "STAR" ((pure [])>>=xP))
 (ak (bG "parts" ((ao (ad "pat") (ao (ad "STAR") (ao (pure (.py (.str (Str.o ".")))) (pure []))))>>=dI tx j0))
 (ak (ft ((ao (ad "parts") (ao (ad "STAR") (pure [])))>>=dI jc dW))
 (pure .next))))
noncomputable def i0:List PyData->Option PyData:=kB (bI ["pat"]) iX
theorem p7 {c:Cx} {P:Params} (hF:aS c (K3 P)):cG c 2 (dP P).1.2 (ci (dP P).1.2) iX:=by
 intro x0 hc0 hq0 hr0 hn0 hw0;have hF0:=hF.to hc0
 fail "%/"
 refine aK (fv:=.type "object") ?_ ?_ ?_ ?_
 fail "4"
 exact hF0.built "object" _ (by rfl) (by rfl) (by decide)
 fail "3#oY"
 exact ui
 fail "+#%/"
 refine aK (fv:=.ref (dx P).1.1) (al (ck (q:=(dx P).1) hF0 (dx P).2) (av hn0 (by rfl)) (by rfl)) ?_ ?_ (fj (n:=1) hq0 (Nat.le_trans (by decide) hr0) (@rM _ P hF0))
 fail "=*'$#'$#'5)####+#%<"
 refine aK (fv:=.ref (bh P).1.1) (al (ck (q:=(bh P).1) hF0 (bh P).2) (av hn0 (by rfl)) (by rfl)) ?_ ?_ (fj (n:=0) hq0 (Nat.le_trans (by decide) hr0) (@iF _ P hF0))
 fail "=*'$#'$#)###&"
theorem tF {c:Cx} {P:Params} (hF:aS c (K3 P)):eS c 2 (dP P).1.1 (bI ["pat"]) iX:=by
 refine cQ (q:=(dP P).1) hF ?_ ?_ ?_ ?_ (fun ds bs e=>aZ e) ?_
 .exact (dU (dP P).2).2
 .rfl
 .exact @p7 _ P hF
 .exact bo ["pat"] (by intro u0; show _=_; rfl)
 .rfl
noncomputable def dy (P:Params):{q:Addr×FuncData // fnK (K3 P) "_law_pairs" =some q}:=⟨_,rfl⟩
noncomputable def fk:AM aj:=
 (ak (ql (j9 (ao (uH (.dict 0 [])) (ao (dl (pure [])) (pure [])))) ["above", "paired"])
 (ak (ik (okA (ao ((ao (ad "lower") (pure []))>>=gQ) (pure []))>>=dw) (fun d=>(aQ "t") d>>=fun _=>(ak (bG "wider" ((ao (bu (ad "lower") (ad "t")) (ao (ad "cells") (pure [])))>>=bV fq))
 (ak (bG "pick" (bO .Mod (bO .FloorDiv (ad "x") (bO .Pow (pure (.py (.int 4))) (ad "t"))) (pure (.py (.int 4)))))
 (ak (ifA (jV (aJ .Lt (ad "pick") ((ao (ad "wider") (pure []))>>=gQ)) (jV (aJ .NotIn (bu (ad "lower") (ad "t")) (ad "paired")) (jV (aJ .NotIn (bu (ad "wider") (ad "pick")) (ad "paired")) (pure (.And==BoolOp.And))))) (ak (bF (bu (ad "wider") (ad "pick")) [(gR (ad "above") (bu (ad "lower") (ad "t")))])
 (ak (bG "paired" (bO .Add (ad "paired") (dl (ao (bu (ad "lower") (ad "t")) (ao (bu (ad "wider") (ad "pick")) (pure []))))))
 (pure .next))) (pure .next))
 (pure .next))))) (pure .next))
 (ak (ft (j9 (ao (ad "above") (ao (ad "paired") (pure [])))))
 (pure .next))))
noncomputable abbrev jL:=(bI ["lower", "cells", "x"])
theorem oR {c:Cx} {P:Params} (hF:aS c (K3 P)):cG c 1 (dy P).1.2 (ci (dy P).1.2) fk:=by
 intro x0 hc0 hq0 hr0 hn0 hw0;have hF0:=hF.to hc0
 fail "%"
 refine mo (vs:=["above", "paired"]) ?_ ?_ ?_ ?_ ?_
 fail ".b'z'R))##q#B%K].4a3#*'"
 refine aK (fv:=.builtin "len") ?_ ?_ ?_ ?_
 fail "4S3#L*'$#)##Q)##(#1+%/"
 refine aK (fv:=.ref (cq P).1.1) (al (ck (q:=(cq P).1) hF0 (cq P).2) (av hn0 (by rfl)) (by rfl)) ?_ ?_ (bX (n:=0) (bind:=bI ["cell", "cells"]) (fb:=f7) hq0 (Nat.le_trans (by decide) hr0) (@ly _ P hF0) (fun _ _ h=>h))
 fail "=*'2$#$#((#'$#)###+#%/66$#6-$#-+#%7eN,$#"
 refine aK (fv:=.builtin "len") ?_ ?_ ?_ ?_
 fail "4S3#L*'$#)##Q#N,2$#$#((#$##N,2$#$#((#$##f%G2$#$#((#C#n$#2$#$#((#F#B%/6$#R'2$#$#((#'2$#$#((#)##+#&&&&#%<b'$#'$#)##&"
theorem rD {c:Cx} {P:Params} (hF:aS c (K3 P)):eS c 1 (dy P).1.1 (bI ["lower", "cells", "x"]) fk:=by
 refine cQ (q:=(dy P).1) hF ?_ ?_ ?_ ?_ (fun ds bs e=>aZ e) ?_
 .exact (dU (dy P).2).2
 .rfl
 .exact @oR _ P hF
 .exact bo ["lower", "cells", "x"] (by intro u0 u1 u2; show _=_; rfl)
 .rfl
noncomputable def cZ (P:Params):{q:Addr×FuncData // fnK (K3 P) "_law_sorter" =some q}:=⟨_,rfl⟩
noncomputable def eI:AM aj:=
 (ak (bG "sorter" ((pure [])>>=jg (.inst ae []) eE cz))
 (ak (ik ((ad "lower")>>=aM) (fun d=>(aQ "cell") d>>=fun _=>(ak (bG "faces" (ifE (aJ .In (ad "cell") (ad "above")) ((ao (bu (ad "above") (ad "cell")) (pure []))>>=bV cr) (dl (pure []))))
 (ak (cv (nR ae "add" aW (ad "sorter") (ao (ad "cell") (Gc (bf false ["cell"] ⟨((ad "faces")>>=aM),(aQ "face"),[(aJ .NotEq (ad "face") (ad "cell"))]⟩ [] (ad "face")) (pure []))) (dI d8 bT)))
 (pure .next)))) (pure .next))
 (ak (ft (ad "sorter"))
 (pure .next))))
noncomputable abbrev i8:=(bI ["lower", "above"])
theorem nQ {c:Cx} {P:Params} (hF:aS c (K3 P)):cG c 4 (cZ P).1.2 (ci (cZ P).1.2) eI:=by
 intro x0 hc0 hq0 hr0 hn0 hw0;have hF0:=hF.to hc0
 fail "%/"
 refine aK (fv:=.ref ae) ?_ ?_ ?_ (ux (n:=0) (fI:=(ba P).1.1) hq0 (Nat.le_trans (by decide) hr0) (yJ hF0 (kC P)) sA.inst (@gT _ P hF0))
 fail "4"
 exact hF0.glob "TopologicalSorter" (.ref ae) (by rfl)
 fail "3#=Y+#%K8.$#(#1+%/r,$#$##"
 refine aK (fv:=.ref (bz P).1.1) (al (ck (q:=(bz P).1) hF0 (bz P).2) (av hn0 (by rfl)) (by rfl)) ?_ ?_ (bX (n:=0) (bind:=bI ["cell"]) (fb:=eJ) hq0 (Nat.le_trans (by decide) hr0) (@iC _ P hF0) (fun _ _ h=>h))
 fail "=*'2$#$#((#)##R)+#%;"
 refine u4 ?_ ?_ ?_ ?_ ?_ ?_ ?_ (tf (n:=3) hq0 (Nat.le_trans (by decide) hr0) (@iI _ P hF0))
 fail "###"
 exact AA hF0 (ja P);exact EK hF0 (by rfl)
 fail "$#*'$#"
 refine arS ?_ ?_;refine bq (keep:=false) (fs:=["cell"]) ?_ ?_
 fail "0D?8.$#(#"
 intro x1 hc1 hq1a hr1a hn1 hw1;have hq1:=hq1a.trans hq0;have hr1:=leq hr0 hr1a;have hF1:=hF0.to hc1
 fail ":$#0##1@M,$#$##9A>)###&&#%<$#&"
theorem p0 {c:Cx} {P:Params} (hF:aS c (K3 P)):eS c 4 (cZ P).1.1 (bI ["lower", "above"]) eI:=by
 refine cQ (q:=(cZ P).1) hF ?_ ?_ ?_ ?_ (fun ds bs e=>aZ e) ?_
 .exact (dU (cZ P).2).2
 .rfl
 .exact @nQ _ P hF
 .exact bo ["lower", "above"] (by intro u0 u1; show _=_; rfl)
 .rfl
noncomputable def dA (P:Params):{q:Addr×FuncData // fnK (K3 P) "_law_leads" =some q}:=⟨_,rfl⟩
noncomputable def fZ:AM aj:=
 (ak (bG "leads" (uH (.dict 0 [])))
 (ak (eW (iz (il ae "is_active" (ad "sorter") (pure []) (dI cT bw))) (ak (bG "group" (il ae "get_ready" (ad "sorter") (pure []) (dI eo bJ)))
 (ak (ik ((ad "group")>>=aM) (fun d=>(aQ "cell") d>>=fun _=>(ak (bF (ifE (aJ .In (ad "cell") (ad "left")) (bO .Pow (pure (.py (.int 2))) (bN "list" (ad "left") (ao (ad "cell") (pure [])) gZ)) (pure (.py (.int 0)))) [(gR (ad "leads") (ad "cell"))])
 (ak (ifA (aJ .In (ad "cell") (ad "above")) (ak (bF ((ao (bf false ["cell", "leads"] ⟨(((ao (bu (ad "above") (ad "cell")) (pure []))>>=bV cr)>>=aM),(aQ "face"),[(aJ .NotEq (ad "face") (ad "cell"))]⟩ [] (bu (ad "leads") (ad "face"))) (pure []))>>=bV eY) [(gR (ad "leads") (ad "cell"))])
 (pure .next)) (pure .next))
 (pure .next)))) (pure .next))
 (ak (cv (nR ae "done" bK (ad "sorter") (F9 (ad "group")) (dI dZ bR)))
 (pure .next)))) (pure .next) d5)
 (ak (ft (ad "leads"))
 (pure .next))))
noncomputable abbrev mF:=(bI ["sorter", "above", "left"])
theorem o4 {c:Cx} {P:Params} (hF:aS c (K3 P)):cG c 4 (dA P).1.2 (ci (dA P).1.2) fZ:=by
 intro x0 hc0 hq0 hr0 hn0 hw0;have hF0:=hF.to hc0
 fail "%/z+#%^Z"
 refine jv (fa:=(aV P).1.1) ?_ ?_ ?_ ?_ ?_ ?_ ?_ (fj (n:=0) hq0 (Nat.le_trans (by decide) hr0) (@gH _ P hF0))
 fail "###"
 exact lc hF0 (gD P)
 fail "=$#Y#%/"
 refine jv (fa:=(aU P).1.1) ?_ ?_ ?_ ?_ ?_ ?_ ?_ (fj (n:=0) hq0 (Nat.le_trans (by decide) hr0) (@gF _ P hF0))
 fail "###"
 exact lc hF0 (gC P)
 fail "=$#Y+#%K8.$#(#1+%Gr,$#$##6-"
 refine cy (id:="list.index") ?_ ?_ ?_ ?_ ?_ ?_ ?_ ?_ ?_
 fail "###H"
 exact PySem.F.slot_list_index;exact PySem.F.type_list_index
 fail "$#*'$#)##"
 exact pC
 fail "-C#n$#$#F#B%7,$#$##%G"
 refine aK (fv:=.ref (cU P).1.1) (al (ck (q:=(cU P).1) hF0 (cU P).2) (av hn0 (by rfl)) (by rfl)) ?_ ?_ (bX (n:=0) (bind:=bI ["masks"]) (fb:=ix) hq0 (Nat.le_trans (by decide) hr0) (@oM _ P hF0) (fun _ _ h=>h))
 fail "=*'"
 refine bq (keep:=false) (fs:=["cell", "leads"]) ?_ ?_
 fail "0D?8."
 refine aK (fv:=.ref (bz P).1.1) (al (ck (q:=(bz P).1) hF0 (bz P).2) (av hn0 (by rfl)) (by rfl)) ?_ ?_ (bX (n:=0) (bind:=bI ["cell"]) (fb:=eJ) hq0 (Nat.le_trans (by decide) hr0) (@iC _ P hF0) (fun _ _ h=>h))
 fail "=*'2$#$#((#)##(#"
 intro x1 hc1 hq1a hr1a hn1 hw1;have hq1:=hq1a.trans hq0;have hr1:=leq hr0 hr1a;have hF1:=hF0.to hc1
 fail ":2$#$#((#0##1@M,$#$##9A>)##C#n$#$#F#B&&&&#%;"
 refine u4 ?_ ?_ ?_ ?_ ?_ ?_ ?_ (tf (n:=0) hq0 (Nat.le_trans (by decide) hr0) (@iE _ P hF0))
 fail "###"
 exact AA hF0 (iH P);exact EK hF0 (by rfl)
 fail "$#"
 refine Gu ?_
 fail "$##&&%<$#&"
theorem rq {c:Cx} {P:Params} (hF:aS c (K3 P)):eS c 4 (dA P).1.1 (bI ["sorter", "above", "left"]) fZ:=by
 refine cQ (q:=(dA P).1) hF ?_ ?_ ?_ ?_ (fun ds bs e=>aZ e) ?_
 .exact (dU (dA P).2).2
 .rfl
 .exact @o4 _ P hF
 .exact bo ["sorter", "above", "left"] (by intro u0 u1 u2; show _=_; rfl)
 .rfl
noncomputable def cx (P:Params):{q:Addr×FuncData // fnK (K3 P) "_law_holes" =some q}:=⟨_,rfl⟩
noncomputable def dq:AM aj:=
 (ak (bG "ranks" (eb (ao (pure (.py (.int 0))) (pure []))))
 (ak (ik ((cJ (ad "rows") (pure (.py (.int 1))) (pure (.py .none)))>>=aM) (fun d=>(aQ "row") d>>=fun _=>(ak (cv (bN "list" (ad "ranks") (ao ((ao (bf false ["leads"] ⟨((ad "row")>>=aM),(aQ "cell"),[]⟩ [] ((ao (bf false ["leads"] ⟨(((ao (ad "cell") (pure []))>>=bV cr)>>=aM),(aQ "face"),[]⟩ [] (bu (ad "leads") (ad "face"))) (pure []))>>=bV eY)) (pure []))>>=bV kI) (pure [])) cN))
 (pure .next))) (pure .next))
 (ak (cv (bN "list" (ad "ranks") (ao (pure (.py (.int 0))) (pure [])) cN))
 (ak (ft (bf false ["rows", "ranks"] ⟨(okA (ao (pure (.py (.int 3))) (pure []))>>=dw),(aQ "n"),[]⟩ [] (bO .Sub (bO .Sub ((ao (bu (ad "rows") (ad "n")) (pure []))>>=gQ) (bu (ad "ranks") (ad "n"))) (bu (ad "ranks") (bO .Add (ad "n") (pure (.py (.int 1))))))))
 (pure .next)))))
noncomputable abbrev fw:=(bI ["rows", "leads"])
theorem pe {c:Cx} {P:Params} (hF:aS c (K3 P)):cG c 1 (cx P).1.2 (ci (cx P).1.2) dq:=by
 intro x0 hc0 hq0 hr0 hn0 hw0;have hF0:=hF.to hc0
 fail "%/T'-)#+#%K8.I$#E-P(#1+%;U###HVW$#*'"
 refine aK (fv:=.ref (dN P).1.1) (al (ck (q:=(dN P).1) hF0 (dN P).2) (av hn0 (by rfl)) (by rfl)) ?_ ?_ (bX (n:=0) (bind:=bI ["masks"]) (fb:=iV) hq0 (Nat.le_trans (by decide) hr0) (@ty _ P hF0) (fun _ _ h=>h))
 fail "=*'"
 refine bq (keep:=false) (fs:=["leads"]) ?_ ?_
 fail "0D?8.$#(#"
 intro x1 hc1 hq1a hr1a hn1 hw1;have hq1:=hq1a.trans hq0;have hr1:=leq hr0 hr1a;have hF1:=hF0.to hc1
 fail ":"
 refine aK (fv:=.ref (cU P).1.1) (al (ck (q:=(cU P).1) hF1 (cU P).2) (av hn1 (by rfl)) (by rfl)) ?_ ?_ (bX (n:=0) (bind:=bI ["masks"]) (fb:=ix) hq1 (Nat.le_trans (by decide) hr1) (@oM _ P hF1) (fun _ _ h=>h))
 fail "l*'"
 refine bq (keep:=false) (fs:=["leads"]) ?_ ?_
 fail "0{?8i"
 refine aK (fv:=.ref (bz P).1.1) (al (ck (q:=(bz P).1) hF1 (bz P).2) (av hn1 (by rfl)) (by rfl)) ?_ ?_ (bX (n:=0) (bind:=bI ["cell"]) (fb:=eJ) hq1 (Nat.le_trans (by decide) hr1) (@iC _ P hF1) (fun _ _ h=>h))
 fail "l*'$#)##(#"
 intro x2 hc2 hq2a hr2a hn2 hw2;have hq2:=hq2a.trans hq1;have hr2:=leq hr1 hr2a;have hF2:=hF1.to hc2
 fail ":2$#$#((#0##1|9A>)##0##1@9A>)##)##X#&&#%;U###HVW$#*'-)##X#%<"
 refine bq (keep:=false) (fs:=["rows", "ranks"]) ?_ ?_
 fail "0D?].4a3#*'-)##(#"
 intro x1 hc1 hq1a hr1a hn1 hw1;have hq1:=hq1a.trans hq0;have hr1:=leq hr0 hr1a;have hF1:=hF0.to hc1
 fail ":66"
 refine aK (fv:=.builtin "len") ?_ ?_ ?_ ?_
 fail "4"
 exact hF1.built "len" _ (by rfl) (by rfl) (by decide);exact av hn1 (by rfl)
 fail "#L*'2$#$#((#)##Q2$#$#((#2$#6$#-((#0##1@9A>&"
theorem lu {c:Cx} {P:Params} (hF:aS c (K3 P)):eS c 1 (cx P).1.1 (bI ["rows", "leads"]) dq:=by
 refine cQ (q:=(cx P).1) hF ?_ ?_ ?_ ?_ (fun ds bs e=>aZ e) ?_
 .exact (dU (cx P).2).2
 .rfl
 .exact @pe _ P hF
 .exact bo ["rows", "leads"] (by intro u0 u1; show _=_; rfl)
 .rfl
noncomputable def nL (P:Params):{q:Addr×FuncData // fnK (K3 P) "law" =some q}:=⟨_,rfl⟩
noncomputable def Cz:AM aj:=
 (ak (bG "numbers" (bO .Add (cJ (ad "script") (pure (.py .none)) (pure (.py (.int 5)))) (cJ (dl (ao (pure (.py (.int 24))) (ao (pure (.py (.int 2))) (ao (pure (.py (.int 19))) (ao (pure (.py (.int 11))) (ao (pure (.py (.int 115))) (pure []))))))) ((ao (cJ (ad "script") (pure (.py .none)) (pure (.py (.int 5)))) (pure []))>>=gQ) (pure (.py .none)))))
 (ak (bG "drawn" (bf false [] ⟨((cJ (ad "numbers") (pure (.py .none)) (pure (.py (.int 4))))>>=aM),(aQ "x"),[]⟩ [] ((ao (bO .Mod (ad "x") (pure (.py (.int 27)))) (pure []))>>=bV fc)))
 (ak (bG "texts" (bf false [] ⟨(okA (ao (pure (.py (.int 26))) (pure []))>>=dw),(aQ "x"),[]⟩ [] ((ao (ad "x") (pure []))>>=bV fc)))
 (ak (bG "told" (bf false [] ⟨((ad "drawn")>>=aM),(aQ "one"),[]⟩ [] ((ao ((ao (ad "one") (pure []))>>=bV i0) (pure []))>>=bV gN)))
 (ak (bG "cells" ((ao (bf false ["texts"] ⟨((ad "told")>>=aM),(aQ "pieces"),[]⟩ [⟨((ad "texts")>>=aM),(aQ "text"),[(iz ((ao (ad "pieces") (ao (ad "text") (pure [])))>>=bV f8))]⟩] (ad "text")) (pure []))>>=bV cb))
 (ak (bG "due" (bf false ["drawn"] ⟨((ad "texts")>>=aM),(aQ "text"),[(aJ .NotEq (bf false ["text"] ⟨((ad "drawn")>>=aM),(aQ "one"),[(aJ .Eq (bf false ["one", "text"] ⟨(okA (ao (pure (.py (.int 3))) (pure []))>>=dw),(aQ "k"),[(aJ .NotIn (bu (ad "one") (ad "k")) (j9 (ao (pure (.py (.str (Str.o "?")))) (ao (bu (ad "text") (ad "k")) (pure [])))))]⟩ [] (ad "k")) (dl (pure [])))]⟩ [] (ad "one")) (dl (pure [])))]⟩ [] (ad "text")))
 (ak (ifA (aJ .IsNot ((ao (ad "cells") (ao (ad "due") (pure [])))>>=bV cc) (pure (.py (.bool true)))) (ak (ft (pure (.py (.bool false))))
 (pure .next)) (pure .next))
 (ak (bG "rows" (bf false ["cells"] ⟨(okA (ao (pure (.py (.int 3))) (pure []))>>=dw),(aQ "n"),[]⟩ [] (bf false ["n"] ⟨((ad "cells")>>=aM),(aQ "cell"),[(aJ .Eq (bN "str" (ad "cell") (ao (pure (.py (.str (Str.o "?")))) (pure [])) ue) (ad "n"))]⟩ [] (ad "cell"))))
 (ak (bG "lower" (bO .Add (bu (ad "rows") (pure (.py (.int 0)))) (bu (ad "rows") (pure (.py (.int 1))))))
 (ak (bF ((ao (ad "lower") (ao (ad "cells") (ao (bO .Mod (bu (ad "numbers") (pure (.py (.int 4)))) (bO .Pow (pure (.py (.int 4))) (pure (.py (.int 20))))) (pure []))))>>=dI jL fk) [(qq [(aQ "above"),(aQ "paired")])])
 (ak (ql (j9 (ao ((ao (ad "lower") (ao (ad "above") (pure [])))>>=dI i8 eI) (ao (pure (.py (.bool false))) (pure [])))) ["sorter", "ring"])
 (ak (p9 (ak (cv (il ae "prepare" (ad "sorter") (pure []) (dI hH cE)))
 (pure .next)) (.ref fm) (ak (bG "ring" (pure (.py (.bool true))))
 (pure .next)))
 (ak (bF (j9 (ao (bf false ["above"] ⟨((ad "above")>>=aM),(aQ "cell"),[]⟩ [] (bu (ad "above") (ad "cell"))) (ao (dl (ao (dl (pure [])) (pure []))) (pure [])))) [(qq [(aQ "taken"),(aQ "ways")])])
 (ak (ik ((ad "above")>>=aM) (fun d=>(aQ "cell") d>>=fun _=>(ak (bG "fits" (bf false ["taken"] ⟨(((ao (ad "cell") (ao (ad "cells") (pure [])))>>=bV fq)>>=aM),(aQ "other"),[(aJ .In (ad "other") (ad "taken"))]⟩ [] (ad "other")))
 (ak (bG "ways" (bf false ["fits"] ⟨((ad "ways")>>=aM),(aQ "way"),[]⟩ [⟨((ad "fits")>>=aM),(aQ "other"),[(aJ .NotIn (ad "other") (ad "way"))]⟩] (bO .Add (ad "way") (dl (ao (ad "other") (pure []))))))
 (pure .next)))) (pure .next))
 (ak (ifA (aJ .Is ((ao (ad "ways") (ao (dl (ao (ad "taken") (pure []))) (pure [])))>>=bV cc) (ad "ring")) (ak (ft (pure (.py (.bool false))))
 (pure .next)) (pure .next))
 (ak (ifA (iz (ad "ring")) (ak (ft (pure (.py (.bool true))))
 (pure .next)) (pure .next))
 (ak (bG "left" (bf false ["paired"] ⟨((ad "cells")>>=aM),(aQ "cell"),[(aJ .NotIn (ad "cell") (ad "paired"))]⟩ [] (ad "cell")))
 (ak (bG "leads" ((ao (ad "sorter") (ao (ad "above") (ao (ad "left") (pure []))))>>=dI mF fZ))
 (ak (bG "holes" ((ao (bf false ["left"] ⟨((ad "rows")>>=aM),(aQ "row"),[]⟩ [] (bf false ["left"] ⟨((ad "row")>>=aM),(aQ "cell"),[(aJ .In (ad "cell") (ad "left"))]⟩ [] (ad "cell"))) (ao (ad "leads") (pure [])))>>=dI fw dq))
 (ak (ft (tS .Eq (ad "holes") ((ao (ad "rows") (ao (tH ["cells"] ((ad "cells")>>=aM) (aQ "cell") (ad "cell") (bO .Pow (pure (.py (.int 2))) (bN "list" (ad "cells") (ao (ad "cell") (pure [])) gZ))) (pure [])))>>=dI fw dq)))
 (pure .next)))))))))))))))))))))
noncomputable def EB:List PyData->Option PyData:=kB (bI ["script"]) Cz
theorem B9 {c:Cx} {P:Params} (hF:aS c (K3 P)):cG c 14 (nL P).1.2 (ci (nL P).1.2) Cz:=by
 intro x0 hc0 hq0 hr0 hn0 hw0;have hF0:=hF.to hc0
 fail "%/6I$#PE-IR'-'-'-'-'-)#####E"
 refine aK (fv:=.builtin "len") ?_ ?_ ?_ ?_
 fail "4S3#L*'I$#PE-)##QP+#%/"
 refine bq (keep:=false) (fs:=[]) ?_ ?_
 fail "0D?8.I$#PE-(#"
 intro x1 hc1 hq1a hr1a hn1 hw1;have hq1:=hq1a.trans hq0;have hr1:=leq hr0 hr1a;have hF1:=hF0.to hc1
 fail ":"
 refine aK (fv:=.ref (cI P).1.1) (al (ck (q:=(cI P).1) hF1 (cI P).2) (av hn1 (by rfl)) (by rfl)) ?_ ?_ (bX (n:=0) (bind:=bI ["x"]) (fb:=gP) hq1 (Nat.le_trans (by decide) hr1) (@mV _ P hF1) (fun _ _ h=>h))
 fail "l*'6$#-)##0##1@9A>+c%/"
 refine bq (keep:=false) (fs:=[]) ?_ ?_
 fail "0D?].4a3#*'-)##(#"
 intro x1 hc1 hq1a hr1a hn1 hw1;have hq1:=hq1a.trans hq0;have hr1:=leq hr0 hr1a;have hF1:=hF0.to hc1
 fail ":"
 refine aK (fv:=.ref (cI P).1.1) (al (ck (q:=(cI P).1) hF1 (cI P).2) (av hn1 (by rfl)) (by rfl)) ?_ ?_ (bX (n:=0) (bind:=bI ["x"]) (fb:=gP) hq1 (Nat.le_trans (by decide) hr1) (@mV _ P hF1) (fun _ _ h=>h))
 fail "l*'$#)##0##1@9A>+c%"
 refine gV (keep:=false) (fs:=[]) ?_ ?_ ?_ ?_
 fail "0D?8.$#(#"
 intro x1 hc1 hq1a hr1a hn1 hw1;have hq1:=hq1a.trans hq0;have hr1:=leq hr0 hr1a;have hF1:=hF0.to hc1
 fail ":"
 refine aK (fv:=.ref (cX P).1.1) (al (ck (q:=(cX P).1) hF1 (cX P).2) (av hn1 (by rfl)) (by rfl)) ?_ ?_ (bX (n:=0) (bind:=bI ["text"]) (fb:=gM) hq1 (Nat.le_trans (by decide) hr1) (@qu _ P hF1) (fun _ _ h=>h))
 fail "l*'"
 refine aK (fv:=.ref (dP P).1.1) (al (ck (q:=(dP P).1) hF1 (dP P).2) (av hn1 (by rfl)) (by rfl)) ?_ ?_ (bX (n:=2) (bind:=bI ["pat"]) (fb:=iX) hq1 (Nat.le_trans (by decide) hr1) (@tF _ P hF1) (fun _ _ h=>h))
 fail "l*'$#)##)##0##1@9A>+c%/"
 refine aK (fv:=.ref (ay P).1.1) (al (ck (q:=(ay P).1) hF0 (ay P).2) (av hn0 (by rfl)) (by rfl)) ?_ ?_ (bX (n:=0) (bind:=bI ["unhashable_params"]) (fb:=bL) hq0 (Nat.le_trans (by decide) hr0) (@dC _ P hF0) (fun _ _ h=>h))
 fail "=*'"
 refine bq (keep:=false) (fs:=["texts"]) ?_ ?_
 fail "0D?8.$#(#"
 intro x1 hc1 hq1a hr1a hn1 hw1;have hq1:=hq1a.trans hq0;have hr1:=leq hr0 hr1a;have hF1:=hF0.to hc1
 fail ":$#0##1@9"
 refine ca.cons ?_ ?_ ?_
 fail "0##1@MZ"
 refine aK (fv:=.ref (dz P).1.1) (al (ck (q:=(dz P).1) hF1 (dz P).2) (av hn1 (by rfl)) (by rfl)) ?_ ?_ (bX (n:=0) (bind:=bI ["pieces", "text"]) (fb:=hV) hq1 (Nat.le_trans (by decide) hr1) (@rn _ P hF1) (fun _ _ h=>h))
 fail "l*'$#'$#)####98i$#(#A>)##+#%"
 refine gV (keep:=false) (fs:=["drawn"]) ?_ ?_ ?_ ?_
 fail "0D?8.$#(#"
 intro x1 hc1 hq1a hr1a hn1 hw1;have hq1:=hq1a.trans hq0;have hr1:=leq hr0 hr1a;have hF1:=hF0.to hc1
 fail ":$#0##1@M,"
 refine bq (keep:=false) (fs:=["text"]) ?_ ?_
 fail "0{?8i$#(#"
 intro x2 hc2 hq2a hr2a hn2 hw2;have hq2:=hq2a.trans hq1;have hr2:=leq hr1 hr2a;have hF2:=hF1.to hc2
 fail ":$#0##1|M,"
 refine bq (keep:=false) (fs:=["one", "text"]) ?_ ?_
 fail "0"
 exact bH hn2 (by rfl)
 fail "?]"
 exact hq2
 fail "4"
 exact hF2.built "range" _ (by rfl) (by rfl) (by decide);exact av hn2 (by rfl)
 fail "#*'-)##(#"
 intro x3 hc3 hq3a hr3a hn3 hw3;have hq3:=hq3a.trans hq2;have hr3:=leq hr2 hr3a;have hF3:=hF2.to hc3
 fail ":$#0##1"
 exact ax hw3 (by rfl)
 fail "M,2$#$#((#b'5'2$#$#((#)###9A>R)#9A>R)#9A>+c%7,"
 refine aK (fv:=.ref (aB P).1.1) (al (ck (q:=(aB P).1) hF0 (aB P).2) (av hn0 (by rfl)) (by rfl)) ?_ ?_ (bX (n:=1) (bind:=bI ["first_args", "second_args"]) (fb:=ch) hq0 (Nat.le_trans (by decide) hr0) (@fg _ P hF0) (fun _ _ h=>h))
 fail "=*'$#'$#)###[#%<[&&%"
 refine gV (keep:=false) (fs:=["cells"]) ?_ ?_ ?_ ?_
 fail "0D?].4a3#*'-)##(#"
 intro x1 hc1 hq1a hr1a hn1 hw1;have hq1:=hq1a.trans hq0;have hr1:=leq hr0 hr1a;have hF1:=hF0.to hc1
 fail ":"
 refine bq (keep:=false) (fs:=["n"]) ?_ ?_
 fail "0{?8i$#(#"
 intro x2 hc2 hq2a hr2a hn2 hw2;have hq2:=hq2a.trans hq1;have hr2:=leq hr1 hr2a;have hF2:=hF1.to hc2
 fail ":$#0##1|M,"
 refine cy (id:="str.count") ?_ ?_ ?_ ?_ ?_ ?_ ?_ ?_ ?_
 fail "###p"
 exact PySem.F.slot_str_count;exact PySem.F.type_str_count
 fail "$#*'5)##"
 exact ww
 fail "$##9A>0##1@9A>+c%/62$#-((#2$#-((#+#%G"
 refine aK (fv:=.ref (dy P).1.1) (al (ck (q:=(dy P).1) hF0 (dy P).2) (av hn0 (by rfl)) (by rfl)) ?_ ?_ (fj (n:=1) hq0 (Nat.le_trans (by decide) hr0) (@rD _ P hF0))
 fail "=*'$#'$#'62$#-((#6--)####C#"
 refine sd ?_ ?_
 fail ".C#1+C#1+FF#B%"
 refine mo (vs:=["sorter", "ring"]) ?_ ?_ ?_ ?_ ?_
 fail ".b'"
 refine aK (fv:=.ref (cZ P).1.1) (al (ck (q:=(cZ P).1) hF0 (cZ P).2) (av hn0 (by rfl)) (by rfl)) ?_ ?_ (fj (n:=4) hq0 (Nat.le_trans (by decide) hr0) (@p0 _ P hF0))
 fail "=*'$#'$#)###'[)##q#B%}%;"
 refine jv (fa:=(bg P).1.1) ?_ ?_ ?_ ?_ ?_ ?_ ?_ (fj (n:=1) hq0 (Nat.le_trans (by decide) hr0) (@g6 _ P hF0))
 fail "###"
 exact lc hF0 (g8 P)
 fail "=$#Y#&"
 refine zq ?_ ?_;exact Az hF0 (lx P);intro y hc he
 fail "4"
 exact (hF0.to hc).glob "CycleError" (.ref fm) (by rfl);exact av ((congrArg (fun e:Env=>e.scope.names) he).trans hn0) (by rfl)
 fail "#"
 intro x1 hc1 hr1a he1 hw1a;have hn1:=(congrArg (fun e:Env=>e.scope.names) he1).trans hn0;have hw1:=hw1a.trans hw0;have hF1:=hF0.to hc1;have hr1:=leq hr0 hr1a
 fail "%/[@#&%Gb'"
 refine bq (keep:=false) (fs:=["above"]) ?_ ?_
 fail "0D?8.$#(#"
 intro x1 hc1 hq1a hr1a hn1 hw1;have hq1:=hq1a.trans hq0;have hr1:=leq hr0 hr1a;have hF1:=hF0.to hc1
 fail ":2$#$#((#0##1@9A>'R'R))#)##C#"
 refine sd ?_ ?_
 fail ".C#1+C#1+FF#B%K8.$#(#1+%/"
 refine bq (keep:=false) (fs:=["taken"]) ?_ ?_
 fail "0D?8."
 refine aK (fv:=.ref (cq P).1.1) (al (ck (q:=(cq P).1) hF0 (cq P).2) (av hn0 (by rfl)) (by rfl)) ?_ ?_ (bX (n:=0) (bind:=bI ["cell", "cells"]) (fb:=f7) hq0 (Nat.le_trans (by decide) hr0) (@ly _ P hF0) (fun _ _ h=>h))
 fail "=*'$#'$#)###(#"
 intro x1 hc1 hq1a hr1a hn1 hw1;have hq1:=hq1a.trans hq0;have hr1:=leq hr0 hr1a;have hF1:=hF0.to hc1
 fail ":$#0##1@M,$#$##9A>+c%"
 refine gV (keep:=false) (fs:=["fits"]) ?_ ?_ ?_ ?_
 fail "0D?8.$#(#"
 intro x1 hc1 hq1a hr1a hn1 hw1;have hq1:=hq1a.trans hq0;have hr1:=leq hr0 hr1a;have hF1:=hF0.to hc1
 fail ":6$#R'$#)#0##1@9"
 refine ca.cons ?_ ?_ ?_
 fail "0##1@M,$#$##98i$#(#A>+c&&#%7,"
 refine aK (fv:=.ref (aB P).1.1) (al (ck (q:=(aB P).1) hF0 (aB P).2) (av hn0 (by rfl)) (by rfl)) ?_ ?_ (bX (n:=1) (bind:=bI ["first_args", "second_args"]) (fb:=ch) hq0 (Nat.le_trans (by decide) hr0) (@fg _ P hF0) (fun _ _ h=>h))
 fail "=*'$#'R'$#)#)###$##%<[&&%7Z$##%<[&&%/"
 refine bq (keep:=false) (fs:=["paired"]) ?_ ?_
 fail "0D?8.$#(#"
 intro x1 hc1 hq1a hr1a hn1 hw1;have hq1:=hq1a.trans hq0;have hr1:=leq hr0 hr1a;have hF1:=hF0.to hc1
 fail ":$#0##1@M,$#$##9A>+c%/"
 refine aK (fv:=.ref (dA P).1.1) (al (ck (q:=(dA P).1) hF0 (dA P).2) (av hn0 (by rfl)) (by rfl)) ?_ ?_ (fj (n:=4) hq0 (Nat.le_trans (by decide) hr0) (@rq _ P hF0))
 fail "=*'$#'$#'$#)####+#%/"
 refine aK (fv:=.ref (cx P).1.1) (al (ck (q:=(cx P).1) hF0 (cx P).2) (av hn0 (by rfl)) (by rfl)) ?_ ?_ (fj (n:=1) hq0 (Nat.le_trans (by decide) hr0) (@lu _ P hF0))
 fail "=*'"
 refine bq (keep:=false) (fs:=["left"]) ?_ ?_
 fail "0D?8.$#(#"
 intro x1 hc1 hq1a hr1a hn1 hw1;have hq1:=hq1a.trans hq0;have hr1:=leq hr0 hr1a;have hF1:=hF0.to hc1
 fail ":"
 refine bq (keep:=false) (fs:=["left"]) ?_ ?_
 fail "0{?8i$#(#"
 intro x2 hc2 hq2a hr2a hn2 hw2;have hq2:=hq2a.trans hq1;have hr2:=leq hr1 hr2a;have hF2:=hF1.to hc2
 fail ":$#0##1|M,$#$##9A>0##1@9A>'$#)###+#%<y$#"
 refine aK (fv:=.ref (cx P).1.1) (al (ck (q:=(cx P).1) hF0 (cx P).2) (av hn0 (by rfl)) (by rfl)) ?_ ?_ (fj (n:=1) hq0 (Nat.le_trans (by decide) hr0) (@lu _ P hF0))
 fail "=*'$#'"
 refine uT (fs:=["cells"]) ?_ ?_
 fail ":D8.$#(#"
 intro x1 hc1 hq1a hr1a hn1 hw1;have hq1:=hq1a.trans hq0;have hr1:=leq hr0 hr1a;have hF1:=hF0.to hc1
 fail ":$#6-"
 refine cy (id:="list.index") ?_ ?_ ?_ ?_ ?_ ?_ ?_ ?_ ?_
 fail "###H"
 exact PySem.F.slot_list_index;exact PySem.F.type_list_index
 fail "$#*'$#)##"
 exact pC
 fail "1@>)####&"
theorem Fj {c:Cx} {P:Params} (hF:aS c (K3 P)):eS c 14 (nL P).1.1 (bI ["script"]) Cz:=by
 refine cQ (q:=(nL P).1) hF ?_ ?_ ?_ ?_ (fun ds bs e=>aZ e) ?_
 .exact (dU (nL P).2).2
 .rfl
 .exact @B9 _ P hF
 .exact bo ["script"] (by intro u0; show _=_; rfl)
 .rfl
end Mine
end S7392
section S12609
open PySem PySem.W PySem.Calls PyProof.Rows
namespace Mine
theorem tN {β δ:Type} {f:AM β} {g:β->AM δ} {st:ASt}:(f>>=g) st=(match f st with | some (.ok b,st')=>g b st' | some (.error x,st')=>some (.error x,st') | none=>none):=rfl
theorem bnd {β δ:Type} {f:AM β} {g:β->AM δ} {b:β} {st st1:ASt} {r:Option (Except Value δ×ASt)} (hf:f st=some (.ok b,st1)) (h:g b st1=r):(f>>=g) st=r:=by rw [tN,hf]; exact h
theorem cM {β:Type} {f:List O->Option β} {b:β} {st:ASt} (h:f st.σ=some b):eA f st=some (.ok b,st):=congrArg (Option.map fun b=>(Except.ok b,st)) h
theorem pJ {f g:AM D} {a b d:D} {st st1 st2:ASt} (hf:f st=some (.ok a,st1)) (hg:g st1=some (.ok b,st2)) (h:uA st2.σ a b=some d):bu f g st=some (.ok d,st2):=bnd hf (bnd hg (cM h))
theorem gW {op:CmpOp} {f g:AM D} {a b:D} {t:Bool} {st st1 st2:ASt} (hf:f st=some (.ok a,st1)) (hg:g st1=some (.ok b,st2)) (h:F6 op st2.σ a b=some t):aJ op f g st=some (.ok t,st2):=bnd hf (bnd hg (cM h))
theorem pF {f ga gb:AM D} {d a b e:D} {st st1 st2 st3:ASt} (hf:f st=some (.ok d,st1)) (ha:ga st1=some (.ok a,st2)) (hb:gb st2=some (.ok b,st3)) (h:nU st3.σ d a b=some e):cJ f ga gb st=some (.ok e,st3):=bnd hf (bnd (bnd ha (bnd hb rfl)) (cM h))
theorem sU {f:AM D} {d:D} {b:Bool} {st st1:ASt} (hf:f st=some (.ok d,st1)) (h:m8 st1.σ d=some b):iz f st=some (.ok b,st1):=bnd hf (cM h)
theorem jI {op:Operator} {f g:AM D} {a b d:D} {st st1 st2:ASt} (hf:f st=some (.ok a,st1)) (hg:g st1=some (.ok b,st2)) (h:Dz op a b st2=some (.ok d,st2)):bO op f g st=some (.ok d,st2):=bnd hf (bnd hg h)
theorem ah {v:String} {ρ:aq} {σ:List O} {d:D} (h:ρ.lookup v=some d):ad v ⟨ρ,σ⟩=some (.ok d,⟨ρ,σ⟩):=congrArg (Option.map fun d=>(Except.ok d,ASt.mk ρ σ)) h
theorem FL {T:String} {d:D} {st:ASt} (h:isT T st.σ d=true):DL T d st=some (.ok (),st):=if_pos h
theorem dR {T:String} {f:AM D} {g:AM (List D)} {k:D->List D->AM D} {d:D} {ds:List D} {st st1 st2:ASt} {r:Option (Except Value D×ASt)} (hf:f st=some (.ok d,st1)) (ht:isT T st1.σ d=true) (hg:g st1=some (.ok ds,st2)) (hk:k d ds st2=r):bN T f g k st=r:=
 bnd hf (bnd (FL ht) (bnd hg hk))
theorem dL {f:AM D} {d:D} {st st1:ASt} (h:f st=some (.ok d,st1)):ao f (pure []) st=some (.ok [d],st1):=bnd h rfl
theorem lG {f g:AM D} {d e:D} {st st1 st2:ASt} (h:f st=some (.ok d,st1)) (h2:g st1=some (.ok e,st2)):ao f (ao g (pure [])) st=some (.ok [d,e],st2):=bnd h (bnd (dL h2) rfl)
theorem eX {σ:List O} {n:Nat} {es:List D} (h:σ[n]?=some (.list es)):isT "list" σ (.obj n)=true:=tV h rfl
theorem ud {n:Nat} {es es':List D} {v:D} {f:List D->Option (List D×D)} {ρ:aq} {σ:List O} (h:σ[n]?=some (.list es)) (hf:f es=some (es',v)):se (.obj n) f ⟨ρ,σ⟩=some (.ok v,⟨ρ,σ.set n (.list es')⟩):=jR (q:=(.list es',v)) h (show (f es).map _=_ by rw [hf]; rfl)
theorem fT {n:Nat} {es:List D} {d:D} {ρ:aq} {σ:List O} (h:σ[n]?=some (.list es)) (hl:es.length<=ar):cN (.obj n) [d] ⟨ρ,σ⟩=some (.ok (.py .none),⟨ρ,σ.set n (.list (es++[d]))⟩):=ud h (if_pos hl)
theorem wc {n:Nat} {es:List D} {ps:List PyData} {σ:List O} (h:σ[n]?=some (.list es)) (e:dk es=some ps):jG σ (.obj n)=some (.list ps,σ.set n (.froz (.list ps))):=by
 show (vb σ[n]?).map _=_;rw [h];show ((dk es).map PyData.list).map _=_;rw [e];rfl
theorem zZ {n:Nat} {es:List D} {ps:List PyData} {ρ:aq} {σ:List O} (h:σ[n]?=some (.list es)) (e:dk es=some ps):ib (.obj n) ⟨ρ,σ⟩=some (.ok (.py (.list ps)),⟨ρ,σ.set n (.froz (.list ps))⟩):=by
 unfold ib;rw [show jG (ASt.mk ρ σ).σ (.obj n)=_ from wc h e]
theorem iS {d:D} {st:ASt} (h:jG st.σ d=none):ib d st=some (.ok d,st):=by
 unfold ib;rw [h]
theorem sS (v:String) (ρ:aq) (fs:List String) (h:v∈fs):(restr fs ρ).lookup v=ρ.lookup v:=by
 induction fs with
 | nil=>cases h
 | cons f fs ih=>
  have hcons:restr (f::fs) ρ=(match ρ.lookup f with | some d=>(f,d)::restr fs ρ | none=>restr fs ρ):=by
   unfold restr;rw [List.filterMap_cons];cases ρ.lookup f <;> rfl
  rw [hcons];by_cases hv:v=f
  .subst hv;cases hl:ρ.lookup v with
   | some d=>simp
   | none=>
    dsimp only;cases hm:(restr fs ρ).lookup v with
    | none=>rfl
    | some d=>exact absurd ((kX hm).2) (by rw [hl]; intro h; cases h)
  .have hm:v∈fs:=by
    rcases List.mem_cons.mp h with h | h
    .exact absurd h hv
    .exact h
   have hvf:(v==f)=false:=by simpa using hv
   cases ρ.lookup f with
   | none=>exact ih hm
   | some d=>
    dsimp only;rw [List.lookup_cons,hvf];exact ih hm
theorem fM {α:Type} (e:α->PyData) (xs:List α):dk (xs.map fun a=>.py (e a))=some (xs.map e):=by
 induction xs with
 | nil=>rfl
 | cons a xs ih=>exact congrArg (Option.map (e a::·)) ih
noncomputable def Ag (fs:List String) (ρ ρ':aq):Prop:=∀ v∈fs,ρ'.lookup v=ρ.lookup v
theorem Ag.get {fs:List String} {ρ ρ':aq} (h:Ag fs ρ ρ') {v:String} {d:D} (hv:ρ.lookup v=some d) (hm:v∈fs):ρ'.lookup v=some d:=(h v hm).trans hv
theorem Ag.restr (fs:List String) (ρ:aq):Ag fs ρ (Mine.restr fs ρ):=fun v hv=>sS v ρ fs hv
theorem Ag.put {fs:List String} {ρ ρ':aq} (h:Ag fs ρ ρ') {v:String} (d:D) (hv:v∉fs):Ag fs ρ (put v d ρ'):=fun u hu=>by
 rw [dX,if_neg (fun e:u=v=>hv (e▸hu))];exact h u hu
theorem d6 {σ:List O} {o:O}:(σ++[o])[σ.length]?=some o:=List.getElem?_concat_length
theorem lZ {σ:List O} {o o':O}:(σ++[o]).set σ.length o'=σ++[o']:=by rw [List.set_append_right _ _ (Nat.le_refl _),Nat.sub_self]; rfl
theorem bM {α:Type} {σ:List α} {n:Nat} {o:α} (h:σ[n]?=some o):n < σ.length:=(List.getElem?_eq_some_iff.mp h).1
noncomputable def Sm (vs:List String) (ρ1 ρ:aq):Prop:=∀ v,v∉vs->ρ.lookup v=ρ1.lookup v
theorem Sm.refl (vs:List String) (ρ:aq):Sm vs ρ ρ:=fun _ _=>rfl
theorem Sm.put {vs:List String} {ρ1 ρ:aq} (h:Sm vs ρ1 ρ) {v:String} {d:D} (hv:v∈vs):Sm vs ρ1 (put v d ρ):=fun u hu=>by
 rw [dX,if_neg fun e:u=v=>hu (e▸hv)];exact h u hu
theorem Sm.get {vs:List String} {ρ1 ρ:aq} (h:Sm vs ρ1 ρ) {v:String} {d:D} (e:ρ1.lookup v=some d) (hv:v∉vs):ρ.lookup v=some d:=(h v hv).trans e
theorem Cj {α:Type} {chk:Chk} {body:D->List D->AM (List D)} {enc:α->D} {L:α->List D} {R:ASt->Prop} (N:Nat) (hchk:∀ k st,R st->chk k st=some (.ok (),st)) (xs:List α):
  (∀ a∈xs,∀ acc st,R st->(acc++L a).length<=N->∃ st',body (enc a) acc st=some (.ok (acc++L a),st')/\R st')->∀ (k:Nat) (acc:List D) (st:ASt),R st->(acc++xs.flatMap L).length<=N->
   ∃ st',pH chk body k (xs.map enc) acc st=some (.ok (acc++xs.flatMap L),st')/\R st':=by
 induction xs with
 | nil=>exact fun _ k acc st h _=>⟨st,bnd (hchk k st h) (by rw [List.flatMap_nil,List.append_nil]; rfl),h⟩
 | cons a xs ih=>
  intro hb k acc st h hN;rw [List.flatMap_cons,← List.append_assoc] at hN ⊢;obtain ⟨st1,e1,h1⟩:=hb a (.head _) acc st h (by rw [List.length_append] at hN; exact Nat.le_trans (Nat.le_add_right ..) hN);obtain ⟨st2,e2,h2⟩:=ih (fun b hb'=>hb b (.tail _ hb')) (k+1) (acc++L a) st1 h1 hN;exact ⟨st2,bnd (hchk k st h) (bnd e1 e2),h2⟩
theorem nJ {α:Type} {chk:Chk} {body:D->List D->AM (List D)} {σ:List O} {enc:α->D} {L:α->List D} {R:aq->Prop} (N:Nat) (hchk:∀ k ρ,chk k ⟨ρ,σ⟩=some (.ok (),⟨ρ,σ⟩)) (xs:List α) (k:Nat) (acc:List D) (ρ:aq) (h:R ρ) (hN:(acc++xs.flatMap L).length<=N)
  (hb:∀ a∈xs,∀ acc ρ,R ρ->(acc++L a).length<=N->∃ ρ',body (enc a) acc ⟨ρ,σ⟩=some (.ok (acc++L a),⟨ρ',σ⟩)/\R ρ'):
  ∃ ρ',pH chk body k (xs.map enc) acc ⟨ρ,σ⟩=some (.ok (acc++xs.flatMap L),⟨ρ',σ⟩)/\R ρ':=
 let ⟨⟨ρ',_⟩,e,rfl,h⟩:=Cj (R:=fun st=>st.σ=σ/\R st.ρ) N (fun k ⟨ρ,σ'⟩ q=>by obtain ⟨rfl,_⟩:σ'=σ/\R ρ:=q; exact hchk k ρ) xs (fun a ha acc ⟨ρ,σ'⟩ q hN=>by obtain ⟨rfl,q⟩:σ'=σ/\R ρ:=q; exact let ⟨ρ',e,h⟩:=hb a ha acc ρ q hN; ⟨⟨ρ',_⟩,e,rfl,h⟩) k acc ⟨ρ,σ⟩ ⟨rfl,h⟩ hN
 ⟨ρ',e,h⟩
theorem t7 {keep:Bool} {fs:List String} {g:Gen} {gs:List Gen} {el:AM D} {p:List D×Chk} {ds:List D} {st st1 st2:ASt} {q:Except Value D×ASt} (h1:g.iter st=some (.ok p,st1)) (h2:rY g gs el p ⟨restr fs st1.ρ,st1.σ⟩=some (.ok ds,st2)) (h3:Ab keep ds ⟨st1.ρ,st2.σ⟩=some q):bf keep fs g gs el st=some q:=
 bnd h1 (bnd (show (rY g gs el p ⟨restr fs st1.ρ,st1.σ⟩).bind _=_ by rw [h2]; rfl) h3)
theorem BH {ds:List D} {ps:List PyData} {st:ASt} (h:dk ds=some ps):Ab false ds st=some (.ok (.py (.list ps)),st):=by
 unfold Ab;rw [if_neg Bool.false_ne_true,h]
theorem qU {α:Type} (L:α->List PyData) (xs:List α):(xs.flatMap fun a=>(L a).map D.py)=(xs.flatMap L).map D.py:=by
 rw [List.map_flatMap]
theorem zp {α:Type} {fs:List String} {g:Gen} {gs:List Gen} {el:AM D} {st:ASt} {ρ:aq} {σ:List O} (xs:List α) (enc:α->D) (L:α->List PyData) {chk:Chk}
  (hit:g.iter st=some (.ok (xs.map enc,chk),⟨ρ,σ⟩)) (hlen:(xs.flatMap L).length<=ar) (hchk:∀ k ρ,chk k ⟨ρ,σ⟩=some (.ok (),⟨ρ,σ⟩))
  (hbody:∀ a∈xs,∀ acc:List D,acc.length+(L a).length<=ar->∀ ρ',Ag fs ρ ρ'->∃ ρ'',(g.tgt (enc a)>>=fun _=>ey g.tests>>=fun b=>if b=true then qr el gs acc else pure acc) ⟨ρ',σ⟩=some (.ok (acc++(L a).map .py),⟨ρ'',σ⟩)/\Ag fs ρ ρ''):
  bf false fs g gs el st=some (.ok (.py (.list (xs.flatMap L))),⟨ρ,σ⟩):=by
 obtain ⟨ρ2,e2,_⟩:=nJ (body:=fun d acc=>g.tgt d>>=fun _=>ey g.tests>>=fun b=>if b=true then qr el gs acc else pure acc) (enc:=enc) (L:=fun a=>(L a).map D.py) (R:=Ag fs ρ) ar hchk xs 0 [] (restr fs ρ) (Ag.restr fs ρ)
  (by rw [qU,List.nil_append,List.length_map]; exact hlen) (fun a ha acc ρ' hR hN=>hbody a ha acc (by rw [List.length_append,List.length_map] at hN; exact hN) ρ' hR)
 exact t7 hit e2 (BH (by rw [qU]; exact lh _))
theorem km {α β:Type} (t:α->Bool) (f:α->β) (xs:List α):(xs.flatMap fun a=>if t a=true then [f a] else [])=(xs.filter t).map f:=by
 induction xs with
 | nil=>rfl
 | cons a xs ih=>
  rw [List.flatMap_cons,ih,List.filter_cons];by_cases h:t a=true
  .rw [if_pos h,if_pos h]; rfl
  .rw [if_neg h,if_neg h]; rfl
theorem yZ {m:AM Unit} {ts:List (AM Bool)} {el:AM D} {acc:List D} {st st1 st2 st3:ASt} {t:Bool} {d:D} (h0:m st=some (.ok (),st1)) (h1:ey ts st1=some (.ok t,st2)) (h2:t=true->el st2=some (.ok d,st3)) (h3:t=false->st3=st2) (hN:(acc++if t=true then [d] else []).length<=ar):
  (m>>=fun _=>ey ts>>=fun b=>if b=true then qr el [] acc else pure acc) st=some (.ok (acc++if t=true then [d] else []),st3):=bnd h0 (bnd h1 (by
 cases t with
 | true=>
  refine bnd (h2 rfl) ?_;rw [if_pos (Nat.le_trans (by rw [List.length_append]; exact Nat.le_add_right ..) hN)];rfl
 | false=>
  rw [h3 rfl,if_neg Bool.false_ne_true,if_neg Bool.false_ne_true,List.append_nil];rfl))
theorem Cv {α:Type} {t:α->Bool} {xs:List α} (h:xs.length<=ar):(xs.filter t).length<=ar:=Nat.le_trans (List.length_filter_le _ _) h
theorem vB {α:Type} {fs:List String} {tgt:D->AM Unit} {ts:List (AM Bool)} {el:AM D} {ρ:aq} {σ:List O} (xs:List α) (enc:α->D) (t:α->Bool) (e:α->D) {chk:Chk} (hlen:xs.length<=ar) (hchk:∀ k ρ,chk k ⟨ρ,σ⟩=some (.ok (),⟨ρ,σ⟩))
  (hbody:∀ a∈xs,∀ ρ',Ag fs ρ ρ'->∃ ρ'',tgt (enc a) ⟨ρ',σ⟩=some (.ok (),⟨ρ'',σ⟩)/\Ag fs ρ ρ''/\ey ts ⟨ρ'',σ⟩=some (.ok (t a),⟨ρ'',σ⟩)/\(t a=true->el ⟨ρ'',σ⟩=some (.ok (e a),⟨ρ'',σ⟩))) {f:AM (List D×Chk)}:
  ∃ ρ',rY ⟨f,tgt,ts⟩ [] el (xs.map enc,chk) ⟨restr fs ρ,σ⟩=some (.ok ((xs.filter t).map e),⟨ρ',σ⟩):=by
 obtain ⟨ρ',e2,_⟩:=nJ (body:=fun d acc=>tgt d>>=fun _=>ey ts>>=fun b=>if b=true then qr el [] acc else pure acc) (enc:=enc) (L:=fun a=>if t a=true then [e a] else []) (R:=Ag fs ρ) ar hchk xs 0 [] (restr fs ρ) (Ag.restr fs ρ)
  (by rw [km,List.nil_append,List.length_map]; exact Cv hlen) fun a ha acc ρ' hR hN=>let ⟨ρ'',h0,h1,h2,h3⟩:=hbody a ha ρ' hR; ⟨ρ'',yZ h0 h2 h3 (fun _=>rfl) hN,h1⟩
 rw [km] at e2;exact ⟨ρ',e2⟩
theorem BC {α:Type} {fs:List String} {tgt:D->AM Unit} {f:AM (List D×Chk)} {ts:List (AM Bool)} {el:AM D} {st:ASt} {ρ:aq} {σ:List O} (xs:List α) (enc:α->D) (t:α->Bool) (e:α->PyData) {chk:Chk}
  (hit:f st=some (.ok (xs.map enc,chk),⟨ρ,σ⟩)) (hlen:xs.length<=ar) (hchk:∀ k ρ,chk k ⟨ρ,σ⟩=some (.ok (),⟨ρ,σ⟩))
  (hbody:∀ a∈xs,∀ ρ',Ag fs ρ ρ'->∃ ρ'',tgt (enc a) ⟨ρ',σ⟩=some (.ok (),⟨ρ'',σ⟩)/\Ag fs ρ ρ''/\ey ts ⟨ρ'',σ⟩=some (.ok (t a),⟨ρ'',σ⟩)/\(t a=true->el ⟨ρ'',σ⟩=some (.ok (.py (e a)),⟨ρ'',σ⟩))):
  bf false fs ⟨f,tgt,ts⟩ [] el st=some (.ok (.py (.list ((xs.filter t).map e))),⟨ρ,σ⟩):=
 let ⟨_,e2⟩:=vB xs enc t (fun a=>D.py (e a)) hlen hchk hbody (f:=f)
 t7 hit e2 (BH (fM e _))
theorem uU {α:Type} {fs:List String} {v:String} {f:AM (List D×Chk)} {ts:List (AM Bool)} {el:AM D} {st:ASt} {ρ:aq} {σ:List O} (xs:List α) (enc:α->D) (t:α->Bool) (e:α->PyData) {chk:Chk}
  (hit:f st=some (.ok (xs.map enc,chk),⟨ρ,σ⟩)) (hv:v∉fs) (hlen:xs.length<=ar) (hchk:∀ k ρ,chk k ⟨ρ,σ⟩=some (.ok (),⟨ρ,σ⟩))
  (hbody:∀ a∈xs,∀ ρ',Ag fs ρ ρ'->ρ'.lookup v=some (enc a)->ey ts ⟨ρ',σ⟩=some (.ok (t a),⟨ρ',σ⟩)/\(t a=true->el ⟨ρ',σ⟩=some (.ok (.py (e a)),⟨ρ',σ⟩))):
  bf false fs ⟨f,aQ v,ts⟩ [] el st=some (.ok (.py (.list ((xs.filter t).map e))),⟨ρ,σ⟩):=
 BC xs enc t e hit hlen hchk fun a ha ρ' hR=>⟨put v (enc a) ρ',rfl,hR.put _ hv,hbody a ha _ (hR.put _ hv) (aD)⟩
theorem FX {β δ:Type} {f:AM β} {g:β->AM δ} {X:Value} {st st1:ASt} (h:f st=some (.error X,st1)):(f>>=g) st=some (.error X,st1):=by
 show AM.andThen f g st=_;unfold AM.andThen;rw [h]
inductive Out {β:Type} (o:Option (Except Value β×ASt)) (P:Except Value β->ASt->Prop):Prop
 | mk (r:Except Value β) (st':ASt):o=some (r,st')->P r st'->Out o P
theorem Out.of {β:Type} {o:Option (Except Value β×ASt)} {r:Except Value β} {st:ASt} {P:Except Value β->ASt->Prop} (e:o=some (r,st)) (h:P r st):Out o P:=⟨_,_,e,h⟩
theorem Out.mono {β:Type} {o:Option (Except Value β×ASt)} {P Q:Except Value β->ASt->Prop} (h:Out o P) (hq:∀ r st,P r st->Q r st):Out o Q:=let ⟨r,st,e,h⟩:=h; ⟨r,st,e,hq r st h⟩
noncomputable def Bd {β δ:Type} (k:β->AM δ) (P:Except Value δ->ASt->Prop):Except Value β->ASt->Prop
 | .ok b,st=>Out (k b st) P
 | .error X,st=>P (.error X) st
theorem kM {β δ:Type} {m:AM β} {k:β->AM δ} {st:ASt} {P:Except Value δ->ASt->Prop} (h:Out (m st) (Bd k P)):Out ((m>>=k) st) P:=by
 obtain ⟨r,st1,e,h⟩:=h;show Out (AM.andThen m k st) P;unfold AM.andThen;rw [e];cases r with
 | ok b=>exact h
 | error X=>exact ⟨_,_,rfl,h⟩
noncomputable def Lp (I:ASt->Prop) (P:Except Value aj->ASt->Prop):Except Value aj->ASt->Prop
 | .ok .next,st=>I st
 | .ok .cont,st=>I st
 | .ok .brk,st=>P (.ok .next) st
 | .ok (.ret d),st=>P (.ok (.ret d)) st
 | .error X,st=>P (.error X) st
theorem cS {I:ASt->Prop} {P:Except Value aj->ASt->Prop} {st:ASt}:Lp I P (.ok .next) st↔I st:=Iff.rfl
theorem Dc {I:ASt->Prop} {P:Except Value aj->ASt->Prop} {st:ASt}:Lp I P (.ok .cont) st↔I st:=Iff.rfl
theorem BM {I:ASt->Prop} {P:Except Value aj->ASt->Prop} {st:ASt}:Lp I P (.ok .brk) st↔P (.ok .next) st:=Iff.rfl
theorem A6 {I:ASt->Prop} {P:Except Value aj->ASt->Prop} {st:ASt} {d:D}:Lp I P (.ok (.ret d)) st↔P (.ok (.ret d)) st:=Iff.rfl
theorem FM {I:ASt->Prop} {P:Except Value aj->ASt->Prop} {st:ASt} {X:Value}:Lp I P (.error X) st↔P (.error X) st:=Iff.rfl
theorem sb {I:ASt->Prop} {P:Except Value aj->ASt->Prop} {rest:AM aj} {body:AM aj} {st:ASt} (h:Out (body st) (Lp I P)) (hr:∀ st',I st'->Out (rest st') P):Out ((body>>=sL rest) st) P:=
 kM (h.mono fun r st' q=>match r,q with
  | .ok .next,q=>hr st' q
  | .ok .cont,q=>hr st' q
  | .ok .brk,q=>⟨_,_,rfl,q⟩
  | .ok (.ret _),q=>⟨_,_,rfl,q⟩
  | .error _,q=>q)
theorem dH {β δ:Type} {m:AM β} {k:β->AM δ} {b:β} {st st1:ASt} {P:Except Value δ->ASt->Prop} (e:m st=some (.ok b,st1)) (h:Out (k b st1) P):Out ((m>>=k) st) P:=kM ⟨_,_,e,h⟩
theorem CX {chk:Chk} {body:D->AM aj} {els:AM aj} {P:Except Value aj->ASt->Prop} {α:Type} {enc:α->D} {I:List α->ASt->Prop} (hchk:∀ ys st,I ys st->∀ k,chk k st=some (.ok (),st)) (xs:List α)
  (hstep:∀ ys a zs st,xs=ys++a::zs->I ys st->Out (body (enc a) st) (Lp (I (ys++[a])) P)) (hend:∀ st',I xs st'->Out (els st') P) (zs:List α):∀ (ys:List α) (k:Nat) (st:ASt),xs=ys++zs->I ys st->Out (yT chk k (zs.map enc) body els st) P:=by
 induction zs with
 | nil=>intro ys k st e h; rw [List.append_nil] at e; subst e; exact dH (hchk _ _ h k) (hend st h)
 | cons a zs ih=>intro ys k st e h; exact dH (hchk _ _ h k) (sb (hstep ys a zs st e h) fun st' h'=>ih (ys++[a]) (k+1) st' (by rw [e,List.append_assoc]; rfl) h')
theorem D5 {α:Type} {f:AM (List D×Chk)} {body:D->AM aj} {els:AM aj} {P:Except Value aj->ASt->Prop} {st st0:ASt} {chk:Chk} (xs:List α) (enc:α->D) (I:List α->ASt->Prop)
  (hit:f st=some (.ok (xs.map enc,chk),st0)) (hchk:∀ ys st,I ys st->∀ k,chk k st=some (.ok (),st)) (h0:I [] st0)
  (hstep:∀ ys a zs st,xs=ys++a::zs->I ys st->Out (body (enc a) st) (Lp (I (ys++[a])) P)) (hend:∀ st',I xs st'->Out (els st') P):
  Out (ik f body els st) P:=dH hit (CX hchk xs hstep hend xs [] 0 st0 rfl h0)
noncomputable def Sq (g:AM aj) (P:Except Value aj->ASt->Prop):Except Value aj->ASt->Prop
 | .ok .next,st=>Out (g st) P
 | r,st=>P r st
theorem aO {g:AM aj} {P:Except Value aj->ASt->Prop} {st:ASt}:Sq g P (.ok .next) st↔Out (g st) P:=Iff.rfl
theorem m4 {g:AM aj} {P:Except Value aj->ASt->Prop} {st:ASt} {d:D}:Sq g P (.ok (.ret d)) st↔P (.ok (.ret d)) st:=Iff.rfl
theorem tU {g:AM aj} {P:Except Value aj->ASt->Prop} {st:ASt}:Sq g P (.ok .brk) st↔P (.ok .brk) st:=Iff.rfl
theorem yN {g:AM aj} {P:Except Value aj->ASt->Prop} {st:ASt}:Sq g P (.ok .cont) st↔P (.ok .cont) st:=Iff.rfl
theorem sI {g:AM aj} {P:Except Value aj->ASt->Prop} {st:ASt} {X:Value}:Sq g P (.error X) st↔P (.error X) st:=Iff.rfl
theorem aH {f g:AM aj} {st:ASt} {P:Except Value aj->ASt->Prop} (h:Out (f st) (Sq g P)):Out (ak f g st) P:=
 kM (h.mono fun r st' q=>match r,q with
  | .ok .next,q=>q
  | .ok .cont,q=>⟨_,_,rfl,q⟩
  | .ok .brk,q=>⟨_,_,rfl,q⟩
  | .ok (.ret _),q=>⟨_,_,rfl,q⟩
  | .error _,q=>q)
theorem bk {v:String} {f:AM D} {g:AM aj} {d:D} {st st1:ASt} {P:Except Value aj->ASt->Prop} (h:f st=some (.ok d,st1)) (hg:Out (g ⟨put v d st1.ρ,st1.σ⟩) P):Out (ak (bG v f) g st) P:=
 aH (Out.of (r:=Except.ok aj.next) (st:=⟨put v d st1.ρ,st1.σ⟩) (bnd h rfl) (aO.mpr hg))
theorem dF {α:Type} {f:AM (List D×Chk)} {body:D->AM aj} {g:AM aj} {P:Except Value aj->ASt->Prop} {st st0:ASt} {chk:Chk} (xs:List α) (enc:α->D) (I:List α->ASt->Prop)
  (hit:f st=some (.ok (xs.map enc,chk),st0)) (hchk:∀ ys st,I ys st->∀ k,chk k st=some (.ok (),st)) (h0:I [] st0)
  (hstep:∀ ys a zs st,xs=ys++a::zs->I ys st->Out (body (enc a) st) (Lp (I (ys++[a])) (Sq g P))) (hend:∀ st',I xs st'->Out (g st') P):
  Out (ak (ik f body (pure .next)) g st) P:=
 aH (D5 xs enc I hit hchk h0 hstep fun st' h=>⟨_,_,rfl,hend st' h⟩)
theorem jD {f:AM D} {d d':D} {g:AM aj} {st st1 st2:ASt} {P:Except Value aj->ASt->Prop} (h:f st=some (.ok d,st1)) (h2:ib d st1=some (.ok d',st2)) (hp:P (.ok (.ret d')) st2):Out (ak (ft f) g st) P:=
 aH (Out.of (r:=Except.ok (aj.ret d')) (st:=st2) (bnd (bnd h h2) rfl) (m4.mpr hp))
theorem eF {f:AM D} {p:PyData} {g:AM aj} {st st1:ASt} {P:Except Value aj->ASt->Prop} (h:f st=some (.ok (.py p),st1)) (hp:P (.ok (.ret (.py p))) st1):Out (ak (ft f) g st) P:=jD h rfl hp
theorem du {b:AM Bool} {f g:AM aj} {t:Bool} {st st1:ASt} {P:Except Value aj->ASt->Prop} (h:b st=some (.ok t,st1)) (h1:t=true->Out (f st1) P) (h2:t=false->Out (g st1) P):Out (ifA b f g st) P:=dH h (by
 cases t with
 | true=>exact h1 rfl
 | false=>exact h2 rfl)
theorem aw {st:ASt} {P:Except Value aj->ASt->Prop} (h:P (.ok .next) st):Out ((pure .next:AM aj) st) P:=⟨_,_,rfl,h⟩
theorem eG {f:AM D} {g:AM aj} {d:D} {st st1:ASt} {P:Except Value aj->ASt->Prop} (h:f st=some (.ok d,st1)) (hg:Out (g st1) P):Out (ak (cv f) g st) P:=
 aH (Out.of (r:=Except.ok aj.next) (st:=st1) (bnd h rfl) (aO.mpr hg))
theorem tW {f g:AM aj} {X:Value} {st:ASt} {P:Except Value aj->ASt->Prop} (h:Out (f st) fun r st'=>match r with
  | .ok fl=>P (.ok fl) st'
  | .error X'=>X'=X/\Out (g st') fun r st''=>(∃ fl,r=.ok fl)/\P r st''):Out (p9 f X g st) P:=by
 obtain ⟨r,st1,e,h⟩:=h;unfold p9;rw [e]
 match r,h with
 | .ok fl,h=>exact ⟨_,_,rfl,h⟩
 | .error X',h=>
  obtain ⟨rfl,r2,st2,e2,⟨fl,rfl⟩,h2⟩:=h;dsimp only;rw [if_pos rfl];exact ⟨_,_,te e2,h2⟩
theorem k9 {bind:List D->Option aq} {fb:AM aj} {ps:List PyData} {bs:aq} {p:PyData} (hb:bind (ps.map .py)=some bs) (he:Out (fb ⟨bs,[]⟩) fun r _=>r=.ok (.ret (.py p))):kB bind fb ps=some p:=by
 obtain ⟨r,st',he,rfl⟩:=he;unfold kB;rw [hb,Option.bind_some,he];rfl
theorem nz {b:AM Bool} {body els:AM aj} {P:Except Value aj->ASt->Prop} (I:Nat->ASt->Prop)
  (hb:∀ m st,I m st->∃ t st1,b st=some (.ok t,st1)/\(t=true->Out (body st1) (Lp (fun st'=>∃ m',m' < m/\I m' st') P))/\(t=false->Out (els st1) P))
  (n:Nat):∀ (m:Nat) (st:ASt),I m st->m < n->Out (eW b body els n st) P:=by
 induction n with
 | zero=>exact fun _ _ _ h=>absurd h (Nat.not_lt_zero _)
 | succ n ih=>
  intro m st hI hm;obtain ⟨t,st1,e1,h1,h2⟩:=hb m st hI;refine dH e1 ?_;cases t with
  | false=>exact h2 rfl
  | true=>exact sb (h1 rfl) fun st' ⟨m',hm',hI'⟩=>ih m' st' hI' (Nat.lt_of_lt_of_le hm' (Nat.le_of_lt_succ hm))
noncomputable def Ex1 (b ρ:aq):Prop:=∀ v d,b.lookup v=some d->ρ.lookup v=some d
theorem Ex1.nil (ρ:aq):Ex1 [] ρ:=fun _ _ h=>nomatch h
theorem Ex1.put {b ρ:aq} (h:Ex1 b ρ) {v:String} {d:D}:Ex1 (Mine.put v d b) (Mine.put v d ρ):=fun u e q=>by
 rw [dX] at q ⊢;by_cases hu:u=v
 .rw [if_pos hu] at q ⊢; exact q
 .rw [if_neg hu] at q ⊢; exact h u e q
theorem Ex1.skip {b ρ:aq} (h:Ex1 b ρ) {v:String} {d:D} (hv:b.lookup v=none):Ex1 b (Mine.put v d ρ):=fun u e q=>aY (h u e q) fun hu=>by
 rw [hu,hv] at q;cases q
theorem ExB {b b' ρ:aq} (h:Ex1 b ρ) (hb:Ex1 b' b):Ex1 b' ρ:=fun v d e=>h v d (hb v d e)
structure Enc (α:Type) [DecidableEq α] where
 e:α->PyData
 n:Nat
 eqv:∀ a b,PyData.eqv (e a) (e b)=decide (a=b)
 lay:∀ a,(e a).canLay0=true
 dep:∀ a,(e a).depth<=n
noncomputable def Gf:Enc Int:=⟨.int,0,fun a b=>by simp only [PyData.eqv]; rfl,fun _=>rfl,fun _=>Nat.le_refl 0⟩
noncomputable def zl:Enc Nat:=⟨fun n=>.int (n:Int),0,fun a b=>by
 simp only [PyData.eqv];by_cases h:a=b
 .simp [h]
 .have:((a:Int)==(b:Int))=false:=by
   refine beq_eq_false_iff_ne.mpr fun e=>h ?_;omega
  rw [this,decide_eq_false h],fun _=>rfl,fun _=>Nat.le_refl 0⟩
theorem Enc.layAll {α:Type} [DecidableEq α] (E:Enc α):∀ xs:List α,PyData.canLayAll0 (xs.map E.e)=true
 | []=>rfl
 | a::xs=>by simp [PyData.canLayAll0,E.lay,E.layAll xs]
theorem Enc.depAll {α:Type} [DecidableEq α] (E:Enc α):∀ xs:List α,PyData.depthAll (xs.map E.e)<=E.n
 | []=>by simp [PyData.depthAll]
 | a::xs=>by
  have h1:=E.dep a;have h2:=E.depAll xs;simp only [List.map_cons,PyData.depthAll];omega
theorem Enc.eqvAll {α:Type} [DecidableEq α] (E:Enc α):∀ xs ys:List α,PyData.eqvAll (xs.map E.e) (ys.map E.e)=decide (xs=ys)
 | [],[]=>by simp [PyData.eqvAll]
 | [],_::_=>by simp [PyData.eqvAll]
 | _::_,[]=>by simp [PyData.eqvAll]
 | a::xs,b::ys=>by
  simp only [List.map_cons,PyData.eqvAll,E.eqv,E.eqvAll xs ys];by_cases h1:a=b <;> by_cases h2:xs=ys <;> simp [h1,h2]
noncomputable def Enc.list {α:Type} [DecidableEq α] (E:Enc α):Enc (List α):=⟨fun xs=>.list (xs.map E.e),E.n+1,fun xs ys=>by simp only [PyData.eqv]; exact E.eqvAll xs ys,fun xs=>by simp only [PyData.canLay0]; exact E.layAll xs,fun xs=>by
 have:=E.depAll xs;simp only [PyData.depth]; omega⟩
theorem Enc.ok {α:Type} [DecidableEq α] (E:Enc α) (h:E.n<=64) (a:α):okP (E.e a)=true:=by
 have:=E.dep a;unfold okP SeqAt.shaped;rw [E.lay a,Bool.true_and];exact decide_eq_true (by omega)
theorem Enc.okL {α:Type} [DecidableEq α] (E:Enc α) (h:E.n+1<=64) (xs:List α):okP (.list (xs.map E.e))=true:=E.list.ok h xs
theorem Enc.any {α:Type} [DecidableEq α] (E:Enc α) (a:α):∀ xs:List α,((xs.map E.e).any fun y=>PyData.eqv y (E.e a))=decide (a∈xs)
 | []=>rfl
 | b::xs=>by
  simp only [List.map_cons,List.any_cons,E.eqv,E.any a xs,List.mem_cons];by_cases h1:b=a
  .subst h1; simp
  .have h2:¬ a=b:=fun e=>h1 e.symm;simp [h1,h2]
theorem Enc.findIdx {α:Type} [DecidableEq α] (E:Enc α) (a:α):∀ xs:List α,((xs.map E.e).findIdx? fun y=>PyData.eqv y (E.e a))=xs.idxOf? a
 | []=>rfl
 | b::xs=>by
  rw [List.map_cons,List.findIdx?_cons,List.idxOf?_cons,E.eqv,E.findIdx a xs];by_cases h:b=a
  .subst h; simp
  .have h2:(b==a)=false:=by simpa using h
   simp [h,h2]
theorem vQ (ps:List PyData) (st:ASt):aM (.py (.list ps)) st=some (.ok (ps.map .py,fun _=>pure ()),st):=rfl
theorem di {α:Type} {e:α->PyData} {xs:List α} {v:String} {ρ:aq} {σ:List O} (h:ρ.lookup v=some (.py (.list (xs.map e)))):((ad v)>>=aM) ⟨ρ,σ⟩=some (.ok (xs.map fun a=>.py (e a),fun _=>pure ()),⟨ρ,σ⟩):=bnd (ah h) (by rw [vQ,List.map_map]; rfl)
noncomputable def dd {α:Type} [DecidableEq α] (xs:List α):List α:=xs.foldl (fun acc x=>if x∈acc then acc else acc++[x]) []
theorem xS {α:Type} [DecidableEq α] (xs:List α) (x:α):dd (xs++[x])=if x∈dd xs then dd xs else dd xs++[x]:=by
 unfold dd;rw [List.foldl_append];rfl
theorem xr {α:Type} [DecidableEq α] (xs:List α):(dd xs).length<=xs.length:=by
 have main:∀ (xs acc:List α),(xs.foldl (fun acc x=>if x∈acc then acc else acc++[x]) acc).length<=acc.length+xs.length:=by
  intro xs
  induction xs with
  | nil=>intro acc; simp
  | cons x xs ih=>
   intro acc;rw [List.foldl_cons];refine Nat.le_trans (ih _) ?_;by_cases h:x∈acc <;> simp [h] <;> omega
 have:=main xs [];simp only [List.length_nil,Nat.zero_add] at this;exact this
theorem xc {α:Type} [DecidableEq α]:∀ (xs acc:List α) (y:α),y∈xs.foldl (fun acc x=>if x∈acc then acc else acc++[x]) acc↔y∈acc\/y∈xs:=by
 intro xs
 induction xs with
 | nil=>intro acc y; simp
 | cons x xs ih=>
  intro acc y;rw [List.foldl_cons,ih];by_cases h:x∈acc
  .rw [if_pos h];simp only [List.mem_cons];constructor
   .rintro (h1 | h1)
    .exact .inl h1
    .exact .inr (.inr h1)
   .rintro (h1 | rfl | h1)
    .exact .inl h1
    .exact .inl h
    .exact .inr h1
  .rw [if_neg h];simp only [List.mem_append,List.mem_cons,List.not_mem_nil,or_false];constructor
   .rintro ((h1 | h1) | h1)
    .exact .inl h1
    .exact .inr (.inl h1)
    .exact .inr (.inr h1)
   .rintro (h1 | h1 | h1)
    .exact .inl (.inl h1)
    .exact .inl (.inr h1)
    .exact .inr h1
theorem nD {α:Type} [DecidableEq α] {xs:List α} {y:α}:y∈dd xs↔y∈xs:=by
 unfold dd;rw [xc];simp
theorem ub {α:Type} [DecidableEq α]:∀ (xs acc:List α),acc.Nodup->(xs.foldl (fun acc x=>if x∈acc then acc else acc++[x]) acc).Nodup:=by
 intro xs
 induction xs with
 | nil=>intro acc h; exact h
 | cons x xs ih=>
  intro acc h;rw [List.foldl_cons];refine ih _ ?_;by_cases hx:x∈acc
  .rw [if_pos hx]; exact h
  .rw [if_neg hx];refine List.nodup_append.mpr ⟨h,by simp,?_⟩;intro a ha b hb;have:b=x:=by simpa using hb
   subst this;intro e; subst e; exact hx ha
theorem q6 {α:Type} [DecidableEq α] (xs:List α):(dd xs).Nodup:=ub xs [] .nil
theorem sO {α:Type} {xs:List α} {k:Nat} {x:α} (h:xs[k]?=some x):xs.take (k+1)=xs.take k++[x]:=by
 rw [List.take_add_one,h]; rfl
structure DdI {α:Type} [DecidableEq α] (E:Enc α) (ys:List α) (st:ASt):Prop where
 σ:st.σ=[.list ((dd ys).map fun a=>.py (E.e a))]
 l:st.ρ.lookup "new_unhashable" =some (.obj 0)
theorem Dx {α:Type} [DecidableEq α] (E:Enc α) (hn:E.n+1<=64) {us:List α} {a:α}:inS (us.map E.e) .list (E.e a)=some (decide (a∈us)):=by
 unfold inS;rw [E.ok (Nat.le_of_succ_le hn),E.okL hn,E.any];rfl
theorem FD {α:Type} [DecidableEq α] (E:Enc α) (hn:E.n+1<=64) {us:List α} {a:α}:inA [.list (us.map fun a=>.py (E.e a))] (.py (E.e a)) (.obj 0)=some (decide (a∈us)):=by
 show ((some (E.e a)).bind fun p=>(Option.map PyData.list (dk (us.map fun a=>D.py (E.e a)))).map fun q=>(p,q)).bind _=_;rw [fM];show orO (inS (us.map E.e) .list (E.e a)) _=_;rw [Dx E hn];rfl
theorem uj {α:Type} [DecidableEq α] (E:Enc α) (hn:E.n+1<=64) (xs:List α) (hl:xs.length<=ar):cb [.list (xs.map E.e)]=some (.list ((dd xs).map E.e)):=by
 refine k9 (bs:=[("unhashable_params",.py (.list (xs.map E.e)))]) rfl ?_;refine bk (d:=.obj 0) (st1:=⟨_,[.list []]⟩) rfl ?_;refine dF xs (fun a=>.py (E.e a)) (DdI E) (di rfl) (fun _ _ _ _=>rfl) ⟨rfl,rfl⟩ ?_ fun st hI=>?_
 .rintro ys a zs ⟨ρ,_⟩ hx ⟨rfl,h2⟩
  refine aH (du (gW (ah aD) (ah (aY h2 (by decide))) (congrArg (Option.map (!·)) (FD E hn))) (fun q=>?_) fun q=>?_)
  .refine eG (dR (ah (aY h2 (by decide))) (tV rfl rfl) (dL (ah aD)) (fT rfl ?_)) (aw (aO.mpr (aw (cS.mpr (DdI.mk ?_ (aY h2 (by decide)))))))
   .rw [List.length_map]; exact Nat.le_trans (xr _) (Nat.le_trans (by rw [hx,List.length_append]; exact Nat.le_add_right ..) hl)
   .rw [xS,if_neg (by simpa using q),List.map_append]; rfl
  .exact aw (aO.mpr (aw (cS.mpr (DdI.mk (by rw [xS,if_pos (by simpa using q)]) (aY h2 (by decide))))))
 .obtain ⟨h1,h2⟩:=hI;obtain ⟨ρ,_⟩:=st;cases h1;exact jD (ah h2) (zZ rfl (fM _ _)) rfl
noncomputable def lC {α:Type} [DecidableEq α] (a b:List α):Bool:=a.all (fun x=>decide (x∈b))&&b.all (fun x=>decide (x∈a))
theorem jh {α:Type} [DecidableEq α] {a b:List α}:lC a b=true↔∀ x,x∈a↔x∈b:=by
 unfold lC;simp only [Bool.and_eq_true,List.all_eq_true,decide_eq_true_eq];exact ⟨fun h x=>⟨h.1 x,h.2 x⟩,fun h=>⟨fun x=>(h x).mp,fun x=>(h x).mpr⟩⟩
theorem vG {α:Type} [DecidableEq α] (a:α):∀ (ts:List α) (j:Nat),ts.idxOf? a=some j->ts.eraseIdx j=ts.erase a
 | [],j,h=>by simp at h
 | b::ts,j,h=>by
  rw [List.idxOf?_cons] at h;rw [List.erase_cons];by_cases hb:(b==a)=true
  .rw [if_pos hb] at h ⊢;cases h;rfl
  .rw [if_neg hb] at h ⊢;cases hq:ts.idxOf? a with
   | none=>rw [hq] at h; cases h
   | some i=>
    rw [hq] at h;cases h;rw [List.eraseIdx_cons_succ,vG a ts i hq]
theorem mn {α β:Type} (f:α->β):∀ (ts:List α) (j:Nat),(ts.map f).eraseIdx j=(ts.eraseIdx j).map f
 | [],j=>by simp
 | b::ts,0=>rfl
 | b::ts,j+1=>by simp [mn f ts j]
theorem uQ {φ:List PyData->Option PyData} {ps:List PyData} {p:PyData} (h:φ ps=some p) (st:ASt):bV φ (ps.map .py) st=some (.ok (.py p),st):=by
 show ((dk (ps.map .py)).bind φ).map _=_;rw [lh,Option.bind_some,h];rfl
theorem jj {φ:List PyData->Option PyData} {f:AM D} {p q:PyData} {st st1:ASt} (hf:f st=some (.ok (.py q),st1)) (h:φ [q]=some p):((ao f (pure []))>>=bV φ) st=some (.ok (.py p),st1):=bnd (dL hf) (uQ (ps:=[q]) h st1)
theorem uq {φ:List PyData->Option PyData} {f g:AM D} {p q r:PyData} {st st1 st2:ASt} (hf:f st=some (.ok (.py q),st1)) (hg:g st1=some (.ok (.py r),st2)) (h:φ [q,r]=some p):((ao f (ao g (pure [])))>>=bV φ) st=some (.ok (.py p),st2):=bnd (lG hf hg) (uQ (ps:=[q,r]) h st2)
theorem qA {e:List PyData} {σ:List O} (hl:e.length<=ar):gO σ (.py (.list e))=some (e.map .py):=by
 have h1:gO σ (.py (.list e))=if (e.map D.py).length<=ar then some (e.map D.py) else none:=rfl
 rw [h1,if_pos (by simpa using hl)]
theorem zu {α:Type} {e:α->PyData} {xs:List α} {f:AM D} {st:ASt} {ρ:aq} {σ:List O} (h:f st=some (.ok (.py (.list (xs.map e))),⟨ρ,σ⟩)) (hl:xs.length<=ar):((ao f (pure []))>>=t9) st=some (.ok (.obj σ.length),⟨ρ,σ++[.list (xs.map fun a=>.py (e a))]⟩):=bnd (dL h) (by
 have h1:gO σ (.py (.list (xs.map e)))=some (xs.map fun a=>D.py (e a)):=by
  rw [qA (by rw [List.length_map]; exact hl),List.map_map];rfl
 show (gO σ _).map _=_;rw [h1];rfl)
theorem vR {n:Nat} {u:D} {ρ:aq} {σ:List O} {es:List D} {ps:List PyData} {p:PyData} (h1:σ[n]?=some (.list es)) (h2:dk es=some ps) (h3:viewP σ u=some p) (h4:okP p=true) (h5:okP (.list ps)=true) (h6:ps.length<=ar):
  mQ (.obj n) [u] ⟨ρ,σ⟩=some (match ps.findIdx? fun y=>PyData.eqv y p with
     | some j=>(.ok (.py .none),⟨ρ,σ.set n (.list (es.eraseIdx j))⟩)
     | none=>(.error (.type "ValueError"),⟨ρ,σ⟩)):=by
 show (σ[n]?.bind O.list?).bind _=_;rw [h1];show (dk es).bind _=_;rw [h2,Option.bind_some,h3];exact if_pos ⟨h4,h5,h6⟩
theorem zC {f:AM D} {g:AM aj} {X:Value} {st st1:ASt} {P:Except Value aj->ASt->Prop} (h:f st=some (.error X,st1)) (hp:P (.error X) st1):Out (ak (cv f) g st) P:=⟨_,_,FX (FX h),hp⟩
noncomputable def iQ {α:Type} [DecidableEq α] (ys us:List α):List α:=(dd ys).filter fun y=>decide (y∉us)
theorem za {α:Type} [DecidableEq α] (ys:List α):iQ ys []=dd ys:=List.filter_eq_self.mpr fun _ _=>rfl
theorem rS {α:Type} [DecidableEq α] (ys us:List α):(iQ ys us).length<=ys.length:=Nat.le_trans (List.length_filter_le _ _) (xr _)
theorem jt {α:Type} [DecidableEq α] {ys us:List α} {a:α}:a∈iQ ys us↔a∈ys/\a∉us:=by
 rw [iQ,List.mem_filter,nD,decide_eq_true_eq]
theorem vr {α:Type} [DecidableEq α] (ys us:List α) (a:α):(iQ ys us).erase a=iQ ys (us++[a]):=by
 unfold iQ;rw [List.Nodup.erase_eq_filter ((q6 ys).filter _),List.filter_filter];refine List.filter_congr fun y _=>?_;rw [Bool.eq_iff_iff];simp [and_comm]
structure Hf {α:Type} [DecidableEq α] (E:Enc α) (ys us:List α) (st:ASt):Prop where
 σ:st.σ=[.list ((iQ ys us).map fun a=>.py (E.e a))]
 t:st.ρ.lookup "t" =some (.obj 0)
 sub:∀ x∈us,x∈ys
theorem pK {es:List D} {σ:List O} {n:Nat} (h:σ[n]?=some (.list es)) (hl:es.length<=ar):m8 σ (.obj n)=some (!es.isEmpty):=by
 have e:viewL σ (.obj n)=some es:=by show sG σ[n]?=_; rw [h]; rfl
 unfold m8;dsimp only;rw [e];exact if_pos hl
theorem D8 {f:AM D} {d:D} {b:Bool} {st st1:ASt} (hf:f st=some (.ok d,st1)) (h:m8 st1.σ d=some b):Fn f st=some (.ok (.py (.bool !b)),st1):=bnd hf (bnd (cM h) rfl)
theorem sx {α:Type} [DecidableEq α] (E:Enc α) (hn:E.n+1<=64) (xs ys:List α) (hl:xs.length<=ar) (hl2:ys.length<=ar):cc [.list (xs.map E.e),.list (ys.map E.e)]=some (.bool (lC xs ys)):=by
 refine k9 (bs:=[("first_args",.py (.list (xs.map E.e))),("second_args",.py (.list (ys.map E.e)))]) rfl ?_;refine bk (jj (ah rfl) (uj E hn xs hl)) ?_;refine bk (jj (ah rfl) (uj E hn ys hl2)) ?_;refine bk (zu (e:=E.e) (xs:=dd ys) (ah rfl) (Nat.le_trans (xr _) hl2)) ?_;refine aH (tW (dF (dd xs) (fun a=>.py (E.e a)) (Hf E ys) (di rfl) (fun _ _ _ _=>rfl) ⟨by rw [za]; rfl,rfl,fun _ h=>nomatch h⟩ ?_ ?_))
 .rintro us a zs ⟨ρ,_⟩ hx ⟨rfl,h2,h3⟩
  have hau:a∉us:=fun h=>(List.nodup_append.mp (hx▸q6 xs)).2.2 a h a (.head _) rfl;have hr:=vR (n:=0) (u:=.py (E.e a)) (ρ:=put "elem" (.py (E.e a)) ρ) (σ:=[.list ((iQ ys us).map fun a=>D.py (E.e a))]) rfl (fM E.e _) rfl (E.ok (Nat.le_of_succ_le hn) a) (E.okL hn _) (by rw [List.length_map]; exact Nat.le_trans (rS ys us) hl2);rw [E.findIdx] at hr
  have go:∀ {r st'},mQ (.obj 0) [.py (E.e a)] ⟨put "elem" (.py (E.e a)) ρ,[.list ((iQ ys us).map fun a=>D.py (E.e a))]⟩=some (r,st')->bN "list" (ad "t") (ao (ad "elem") (pure [])) mQ ⟨put "elem" (.py (E.e a)) ρ,[.list ((iQ ys us).map fun a=>D.py (E.e a))]⟩=some (r,st'):=
   fun h=>dR (ah (aY h2 (by decide))) (eX rfl) (dL (ah aD)) h
  cases hj:(iQ ys us).idxOf? a with
  | some j=>
   rw [hj] at hr
   have hay:a∈ys:=(jt.mp (by
    refine Decidable.byContradiction fun h=>?_;rw [List.idxOf?_eq_none_iff.mpr h] at hj; cases hj)).1
   refine eG (go hr) (aw ⟨?_,aY h2 (by decide),fun x hx=>?_⟩)
   .show [O.list _]=_;rw [← vr,← vG a _ j hj,← mn]
   .rcases List.mem_append.mp hx with h | h
    .exact h3 x h
    .exact List.mem_singleton.mp h▸hay
  | none=>
   rw [hj] at hr;refine zC (go hr) (FM.mpr (sI.mpr ⟨rfl,eF rfl ⟨⟨_,rfl⟩,?_⟩⟩));rw [show lC xs ys=false from Bool.eq_false_iff.mpr fun h=>List.idxOf?_eq_none_iff.mp hj (jt.mpr ⟨(jh.mp h a).mp (nD.mp (by rw [hx]; simp)),hau⟩)];rfl
 .intro st hI;obtain ⟨ρ,_⟩:=st;obtain ⟨rfl,h2,h3⟩:=hI;refine aw (aO.mpr ?_)
  have hb:lC xs ys=(iQ ys (dd xs)).isEmpty:=by
   rw [Bool.eq_iff_iff,jh,List.isEmpty_iff];constructor
   .exact fun h=>List.eq_nil_iff_forall_not_mem.mpr fun a ha=>(jt.mp ha).2 (nD.mpr ((h a).mpr (jt.mp ha).1))
   .intro h x;refine ⟨fun hx=>h3 x (nD.mpr hx),fun hy=>nD.mp ?_⟩;exact Decidable.byContradiction fun hn=>List.eq_nil_iff_forall_not_mem.mp h x (jt.mpr ⟨hy,hn⟩)
  refine eF (p:=.bool (lC xs ys)) (st1:=⟨ρ,[.list ((iQ ys (dd xs)).map fun a=>D.py (E.e a))]⟩) ?_ rfl;rw [D8 (ah h2) (pK rfl (by rw [List.length_map]; exact Nat.le_trans (rS _ _) hl2)),hb,Bool.not_not,List.isEmpty_map]
theorem kz {f g:AM D} {a b:List PyData} {st st1 st2:ASt} (hf:f st=some (.ok (.py (.list a)),st1)) (hg:g st1=some (.ok (.py (.list b)),st2)) (hl:a.length+b.length<=ar):bO .Add f g st=some (.ok (.py (.list (a++b))),st2):=jI hf hg (by
 show (if a.length+b.length<=ar then some (PyData.list (a++b)) else none).map _=_;rw [if_pos hl];rfl)
theorem jE {f:AM D} {ga gb:AM D} {ps:List PyData} {a b:D} {lo hi:Option Int} {st st1 st2 st3:ASt} (hf:f st=some (.ok (.py (.list ps)),st1)) (ha:ga st1=some (.ok a,st2)) (hb:gb st2=some (.ok b,st3)) (h1:qZ a=some lo) (h2:qZ b=some hi) (hl:ps.length<=ar):
  cJ f ga gb st=some (.ok (.py (.list (lz ps lo hi))),st3):=by
 refine pF hf ha hb ?_;unfold nU;rw [h1,h2];exact if_pos hl
theorem vI (n k:Nat):clipAt n (k:Int)=min k n:=by
 unfold clipAt;rw [if_neg (Int.not_lt.mpr (Int.natCast_nonneg k))];by_cases h:k<=n
 .rw [Int.min_eq_left (Int.ofNat_le.mpr h),Nat.min_eq_left h]; exact congrArg Int.toNat (Int.max_eq_right (Int.natCast_nonneg _))
 .have h:=Nat.le_of_lt (Nat.lt_of_not_le h);rw [Int.min_eq_right (Int.ofNat_le.mpr h),Nat.min_eq_right h]; exact congrArg Int.toNat (Int.max_eq_right (Int.natCast_nonneg _))
theorem nc {α:Type} (ps:List α) (k:Nat):lz ps (some (k:Int)) none=ps.drop k:=by
 show (ps.drop (clipAt ps.length k)).take (ps.length - clipAt ps.length k)=_;rw [vI,← List.length_drop,List.take_length];by_cases h:k<=ps.length
 .rw [Nat.min_eq_left h]
 .have h:=Nat.le_of_lt (Nat.lt_of_not_le h);rw [Nat.min_eq_right h,List.drop_length,List.drop_eq_nil_of_le h]
theorem y1 {α:Type} (ps:List α) (k:Nat):lz ps none (some (k:Int))=ps.take k:=by
 show ps.take (clipAt ps.length k - 0)=_;rw [vI,Nat.sub_zero];by_cases h:k<=ps.length
 .rw [Nat.min_eq_left h]
 .have h:=Nat.le_of_lt (Nat.lt_of_not_le h);rw [Nat.min_eq_right h,List.take_length,List.take_of_length_le h]
theorem qt (st:ASt):dl (pure []) st=some (.ok (.py (.list [])),st):=rfl
theorem ll {g:AM (List D)} {ps:List PyData} {st st1:ASt} (h:g st=some (.ok (ps.map .py),st1)) (hl:ps.length<=ar):dl g st=some (.ok (.py (.list ps)),st1):=bnd h (by
 show (dk (ps.map .py)).bind _=_;rw [lh,Option.bind_some,if_pos hl])
theorem BV {f g:AM D} {p q:PyData} {b:Bool} {st st1 st2:ASt} (hf:f st=some (.ok (.py p),st1)) (hg:g st1=some (.ok (.py q),st2)) (h1:okP p=true) (h2:okP q=true) (h3:PyData.eqv p q=b):aJ .Eq f g st=some (.ok b,st2):=gW hf hg (by
 show (if (okP p&&okP q)=true then some (PyData.eqv p q) else none)=_;rw [h1,h2,h3];rfl)
theorem yt {f g:AM D} {p q:PyData} {b:Bool} {st st1 st2:ASt} (hf:f st=some (.ok (.py p),st1)) (hg:g st1=some (.ok (.py q),st2)) (h1:okP p=true) (h2:okP q=true) (h3:PyData.eqv p q=b):aJ .NotEq f g st=some (.ok (!b),st2):=gW hf hg (by
 show (if (okP p&&okP q)=true then some (PyData.eqv p q) else none).map (!·)=_;rw [h1,h2,h3];rfl)
theorem mC {α:Type} {e:α->PyData} {xs:List α} {f:AM D} {st st1:ASt} (h:f st=some (.ok (.py (.list (xs.map e))),st1)):(f>>=aM) st=some (.ok (xs.map fun a=>.py (e a),fun _=>pure ()),st1):=bnd h (by rw [vQ,List.map_map]; rfl)
noncomputable abbrev kn:Enc (List Nat):=zl.list
theorem sq {f g:AM Bool} {a b:Bool} {st:ASt} (hf:f st=some (.ok a,st)) (hg:g st=some (.ok b,st)):jV f g st=some (.ok (a&&b),st):=bnd hf (by
 cases a
 .rfl
 .exact hg)
theorem Ft {st:ASt}:(pure (BoolOp.And==BoolOp.And):AM Bool) st=some (.ok true,st):=rfl
theorem d9 {α:Type} {fs:List String} {v:String} {f:AM (List D×Chk)} {ts:List (AM Bool)} {el:AM D} {st:ASt} {ρ:aq} {σ:List O} (xs:List α) (enc:α->PyData) (t:α->Bool) (e:α->PyData)
  (hit:f st=some (.ok (xs.map fun a=>.py (enc a),fun _=>pure ()),⟨ρ,σ⟩)) (hv:v∉fs) (hlen:xs.length<=ar)
  (hbody:∀ a∈xs,∀ ρ',Ag fs ρ ρ'->ρ'.lookup v=some (.py (enc a))->ey ts ⟨ρ',σ⟩=some (.ok (t a),⟨ρ',σ⟩)/\(t a=true->el ⟨ρ',σ⟩=some (.ok (.py (e a)),⟨ρ',σ⟩))):
  bf false fs ⟨f,aQ v,ts⟩ [] el st=some (.ok (.py (.list ((xs.filter t).map e))),⟨ρ,σ⟩):=
 uU xs (fun a=>.py (enc a)) t e hit hv hlen (fun _ _=>rfl) hbody
theorem fh {α:Type} {fs:List String} {v:String} {f:AM (List D×Chk)} {el:AM D} {st:ASt} {ρ:aq} {σ:List O} (xs:List α) (enc:α->PyData) (e:α->PyData)
  (hit:f st=some (.ok (xs.map fun a=>.py (enc a),fun _=>pure ()),⟨ρ,σ⟩)) (hv:v∉fs) (hlen:xs.length<=ar)
  (hbody:∀ a∈xs,∀ ρ',Ag fs ρ ρ'->ρ'.lookup v=some (.py (enc a))->el ⟨ρ',σ⟩=some (.ok (.py (e a)),⟨ρ',σ⟩)):
  bf false fs ⟨f,aQ v,[]⟩ [] el st=some (.ok (.py (.list (xs.map e))),⟨ρ,σ⟩):=by
 have:=d9 (ts:=[]) xs enc (fun _=>true) e hit hv hlen fun a ha ρ' h1 h2=>⟨rfl,fun _=>hbody a ha ρ' h1 h2⟩
 rwa [List.filter_eq_self.mpr (fun _ _=>rfl)] at this
theorem nx (st:ASt):(okA (ao (pure (.py (.int 3))) (pure []))>>=dw) st=some (.ok ((List.range 3).map fun (i:Nat)=>.py (.int (i:Int)),fun _=>pure ()),st):=rfl
theorem sW {k n:Nat} (h:k < n):seqIndex? (k:Int) n=some k:=by
 show (if (decide ((0:Int)<=(if (k:Int) < 0 then (k:Int)+n else k))&&decide ((if (k:Int) < 0 then (k:Int)+n else k) < (n:Int)))=true then some (if (k:Int) < 0 then (k:Int)+n else k).toNat else none)=_;rw [if_neg (Int.not_lt.mpr (Int.natCast_nonneg k)),decide_eq_true (Int.natCast_nonneg k),decide_eq_true (Int.ofNat_lt.mpr h)];rfl
theorem rX {α:Type} {k:Nat} {ds:List α} {d:α} (h:ds[k]?=some d) (hs:ds.length<=ar):on (k:Int) ds=some d:=by
 have hk:=(List.getElem?_eq_some_iff.mp h).1;unfold on;rw [if_pos (by rw [Int.natAbs_natCast]; exact Nat.le_of_lt (Nat.lt_of_lt_of_le hk hs)),sW hk];exact h
theorem ji {f g:AM D} {ps:List PyData} {p:PyData} {k:Nat} {st st1 st2:ASt} (hf:f st=some (.ok (.py (.list ps)),st1)) (hg:g st1=some (.ok (.py (.int (k:Int))),st2)) (hk:ps[k]?=some p) (hs:ps.length<=ar):bu f g st=some (.ok (.py p),st2):=
 pJ hf hg (rX (ds:=ps.map D.py) (by rw [List.getElem?_map,hk]; rfl) (by rw [List.length_map]; exact hs))
theorem add_int {f g:AM D} {a b:Int} {st st1 st2:ASt} (hf:f st=some (.ok (.py (.int a)),st1)) (hg:g st1=some (.ok (.py (.int b)),st2)):bO .Add f g st=some (.ok (.py (.int (a+b))),st2):=jI hf hg rfl
theorem po {f:AM D} {a b:Nat} {st st1:ASt} (hf:f st=some (.ok (.py (.int (a:Int))),st1)):bO .Add f (pure (.py (.int (b:Int)))) st=some (.ok (.py (.int ((a+b:Nat):Int))),st1):=add_int (b:=(b:Int)) hf rfl
theorem qT {f:AM D} {b:Bool} {st st1:ASt} (hf:f st=some (.ok (.py (.bool b)),st1)):iz f st=some (.ok b,st1):=sU hf rfl
theorem Fe {f:AM D} {d:D} {n:Nat} {st st1:ASt} (hf:f st=some (.ok d,st1)) (h:vS st1.σ d=some n):((ao f (pure []))>>=gQ) st=some (.ok (.py (.int (n:Int))),st1):=
 bnd (dL hf) (cM (f:=fun σ=>(vS σ d).map fun (n:Nat)=>D.py (.int (n:Int))) (congrArg (Option.map _) h))
theorem mO {f:AM D} {ds:List D} {d:D} {st st1:ASt} (hf:f st=some (.ok d,st1)) (hl:ds.length<=ar) (h:vS st1.σ d=lenS ds.length):((ao f (pure []))>>=gQ) st=some (.ok (.py (.int (ds.length:Int))),st1):=
 Fe hf (h.trans (if_pos hl))
theorem mq {f:AM D} {ps:List PyData} {st st1:ASt} (hf:f st=some (.ok (.py (.list ps)),st1)) (hl:ps.length<=ar):((ao f (pure []))>>=gQ) st=some (.ok (.py (.int (ps.length:Int))),st1):=by
 have:=mO (ds:=ps.map .py) hf (by rw [List.length_map]; exact hl) rfl
 rwa [List.length_map] at this
theorem lt_int {f g:AM D} {a b:Int} {st st1 st2:ASt} (hf:f st=some (.ok (.py (.int a)),st1)) (hg:g st1=some (.ok (.py (.int b)),st2)):aJ .Lt f g st=some (.ok (decide (a < b)),st2):=gW hf hg rfl
theorem xC {ds:List D}:∀ {ps:List PyData},dk ds=some ps->ps.map D.py=ds:=by
 induction ds with
 | nil=>intro ps h; cases h; rfl
 | cons d ds ih=>
  intro ps h;obtain ⟨p,qs,rfl,h2,rfl⟩:=qI h;exact congrArg (D.py p::·) (ih h2)
theorem qY (ds:List D):oj (Bi ds)=some ds:=by
 unfold Bi;cases h:dk ds with
 | none=>rfl
 | some ps=>exact congrArg some (xC h)
theorem Fx {f g:AM D} {d e:D} {st st1 st2:ASt} (hf:f st=some (.ok d,st1)) (hg:g st1=some (.ok e,st2)):j9 (ao f (ao g (pure []))) st=some (.ok (Bi [d,e]),st2):=bnd (lG hf hg) (if_pos (show 2<=ar by decide))
theorem nY {t:D} {ds:List D} {n:Nat} {st:ASt} (h:oj t=some ds) (hn:ds.length=n):ma n t st=some (.ok ds,st):=by
 unfold ma;refine cM ?_;unfold x7 nA;rw [h];exact if_pos hn
theorem sy {f f2:AM D} {g:AM aj} {a b:String} {d e:D} {st st1 st2:ASt} {P:Except Value aj->ASt->Prop} (h1:f st=some (.ok d,st1)) (h2:f2 st1=some (.ok e,st2)) (hg:Out (g ⟨put a d (put b e st2.ρ),st2.σ⟩) P):
  Out (ak (ql (j9 (ao f (ao f2 (pure [])))) [a,b]) g st) P:=aH (Out.of (r:=Except.ok aj.next) (st:=⟨put a d (put b e st2.ρ),st2.σ⟩) (bnd (Fx h1 h2) (bnd (nY (qY _) rfl) rfl)) (aO.mpr hg))
theorem A2 {f f2:AM D} {g:AM aj} {a b:String} {d e:D} {st st1 st2:ASt} {P:Except Value aj->ASt->Prop} (h1:f st=some (.ok d,st1)) (h2:f2 st1=some (.ok e,st2)) (hg:Out (g ⟨put b e (put a d st2.ρ),st2.σ⟩) P):
  Out (ak (bF (j9 (ao f (ao f2 (pure [])))) [qq [aQ a,aQ b]]) g st) P:=aH (Out.of (r:=Except.ok aj.next) (st:=⟨put b e (put a d st2.ρ),st2.σ⟩) (bnd (Fx h1 h2) (bnd (bnd (nY (qY _) rfl) rfl) rfl)) (aO.mpr hg))
noncomputable def eh (kvs:List (KK×D)) (k:KK):Option D:=(kvs.find? fun kv=>decide (kv.1=k)).map (·.2)
theorem gG (kv:KK×D) (kvs:List (KK×D)) (k:KK):eh (kv::kvs) k=if kv.1=k then some kv.2 else eh kvs k:=by
 unfold eh;rw [List.find?_cons];by_cases h:kv.1=k
 .rw [decide_eq_true h,if_pos h]; rfl
 .rw [decide_eq_false h,if_neg h]
theorem BI (d:D) (k:KK) (kvs:List (KK×D)) (k':KK):eh (kvs.map fun kv=>if kv.1=k then (kv.1,d) else kv) k'=if k'=k then (if kvs.any (fun kv=>decide (kv.1=k)) then some d else none) else eh kvs k':=by
 induction kvs with
 | nil=>
  by_cases h:k'=k
  .rw [if_pos h]; rfl
  .rw [if_neg h]; rfl
 | cons kv kvs ih=>
  rw [List.map_cons,List.any_cons,gG,gG,ih];by_cases h0:kv.1=k
  .rw [if_pos h0,decide_eq_true h0];by_cases h:k'=k
   .rw [if_pos (show kv.1=k' from h0.trans h.symm),if_pos h]; rfl
   .rw [if_neg h,if_neg h,if_neg (show ¬ kv.1=k' from fun e=>h (e.symm.trans h0)),if_neg (show ¬ kv.1=k' from fun e=>h (e.symm.trans h0))]
  .rw [if_neg h0,decide_eq_false h0];by_cases h1:kv.1=k'
   .rw [if_pos h1,if_pos h1,if_neg fun e=>h0 (h1.trans e)]
   .rw [if_neg h1,if_neg h1]; rfl
theorem uM (kvs:List (KK×D)) (k k':KK) (d:D):eh (kvs++[(k,d)]) k'=(eh kvs k').or (if k'=k then some d else none):=by
 induction kvs with
 | nil=>
  rw [List.nil_append,gG];by_cases h:k'=k
  .rw [if_pos h,if_pos h.symm]; rfl
  .rw [if_neg h,if_neg fun e=>h e.symm]; rfl
 | cons kv kvs ih=>
  rw [List.cons_append,gG,gG,ih];by_cases h:kv.1=k'
  .rw [if_pos h,if_pos h]; rfl
  .rw [if_neg h,if_neg h]
theorem y9 {kvs:List (KK×D)} {k:KK} (h:¬ kvs.any (fun kv=>decide (kv.1=k))=true):eh kvs k=none:=by
 unfold eh
 have:kvs.find? (fun kv=>decide (kv.1=k))=none:=by
  rw [List.find?_eq_none];intro x hx e;exact h (List.any_eq_true.mpr ⟨x,hx,e⟩)
 rw [this];rfl
theorem lO (kvs:List (KK×D)) (k:KK) (d:D) (k':KK):eh (eg kvs k d) k'=if k'=k then some d else eh kvs k':=by
 unfold eg;by_cases h:kvs.any (fun kv=>decide (kv.1=k))=true
 .rw [if_pos h,BI];rw [if_pos h]
 .rw [if_neg h,uM];by_cases hk:k'=k
  .subst hk;rw [y9 h,if_pos rfl];rfl
  .rw [if_neg hk,if_neg hk];cases eh kvs k' <;> rfl
theorem lQ (kvs:List (KK×D)) (k:KK) (d:D):(eg kvs k d).length<=kvs.length+1:=by
 unfold eg;by_cases h:kvs.any (fun kv=>decide (kv.1=k))=true
 .rw [if_pos h,List.length_map]; exact Nat.le_succ _
 .rw [if_neg h,List.length_append]; exact Nat.le_refl _
theorem vn {σ:List O} {n:Nat} {ep:Nat} {kvs:List (KK×D)} (h:σ[n]?=some (.dict ep kvs)):isT "dict" σ (.obj n)=true:=tV h rfl
theorem Da {σ:List O} {n:Nat} {ep:Nat} {kvs:List (KK×D)} {k:KK} {i e:D} (h:σ[n]?=some (.dict ep kvs)) (hk:ic i=some k):wX σ (.obj n) i e=some ((eh kvs k).getD e):=by
 show (lr σ[n]?).bind _=_;rw [h];show (ic i).map _=_;rw [hk];rfl
theorem gh {σ:List O} {ρ:aq} {n:Nat} {ep:Nat} {kvs:List (KK×D)} {i:D} {k:KK} {v:D} (h:σ[n]?=some (.dict ep kvs)) (hk:ic i=some k) (hl:kvs.length<=ar):kN (.obj n) i v ⟨ρ,σ⟩=some (.ok (),⟨ρ,σ.set n (.dict (epK kvs k ep) (eg kvs k v))⟩):=jR (q:=(.dict (epK kvs k ep) (eg kvs k v),())) h (by
 show ((ic i).bind fun k=>ir ep kvs k v).map _=_;rw [hk,Option.bind_some];unfold ir;rw [if_pos hl];rfl)
theorem iT {f o i:AM D} {g:AM aj} {v a b:D} {st st1 st2 st3 st4:ASt} {P:Except Value aj->ASt->Prop} (hf:f st=some (.ok v,st1)) (ho:o st1=some (.ok a,st2)) (hi:i st2=some (.ok b,st3)) (hs:kN a b v st3=some (.ok (),st4)) (hg:Out (g st4) P):
  Out (ak (bF f [gR o i]) g st) P:=
 aH (Out.of (r:=Except.ok aj.next) (st:=st4) (bnd hf (bnd (bnd ho (bnd hi hs)) rfl)) (aO.mpr hg))
theorem xt {f g:AM D} {a b:Int} {st st1 st2:ASt} (hf:f st=some (.ok (.py (.int a)),st1)) (hg:g st1=some (.ok (.py (.int b)),st2)):aJ .Eq f g st=some (.ok (decide (a=b)),st2):=
 BV hf hg rfl rfl rfl
theorem Fb {f g:AM D} {a b:Int} {st st1 st2:ASt} (hf:f st=some (.ok (.py (.int a)),st1)) (hg:g st1=some (.ok (.py (.int b)),st2)):aJ .NotEq f g st=some (.ok (!decide (a=b)),st2):=
 yt hf hg rfl rfl rfl
noncomputable def dg (t k:Nat):Nat:=t / 3 ^ k % 3
noncomputable def sgC:Nat->Nat
 | 0=>45
 | 1=>43
 | _=>63
noncomputable def fK (t:Nat):Str:=⟨⟨if t < 27 then (List.range 3).map fun k=>sgC (dg t k) else List.replicate (t+1) 97⟩⟩
noncomputable def unC:Nat->Nat
 | 45=>0
 | 43=>1
 | _=>2
noncomputable def unT:List Nat->Nat
 | [a,b,c]=>unC a+3 * unC b+9 * unC c
 | l=>l.length - 1
theorem ER:((List.range 27).all fun t=>unT (fK t).cps.toList==t)=true:=by kernel_rfl
theorem yi (t:Nat):unT (fK t).cps.toList=t:=by
 by_cases h:t < 27
 .exact eq_of_beq (List.all_eq_true.mp ER t (List.mem_range.mpr h))
 .unfold fK;rw [if_neg h]
  have:∀ l:List Nat,3 < l.length->unT l=l.length - 1:=fun l q=>by
   match l,q with
   | a::b::c::d::l,_=>rfl
  rw [this _ (by rw [List.length_replicate]; omega),List.length_replicate];rfl
theorem uf {a b:Nat} (h:fK a=fK b):a=b:=by rw [← yi a,h,yi]
noncomputable def nE (t:Nat):PyData:=.str (fK t)
noncomputable def kE (t:Nat):KK:=.s (fK t)
theorem jQ {a b:Nat} (h:kE a=kE b):a=b:=uf (by injection h)
noncomputable def xm (d:Nat) (r:D) (a b:Int):List (String×D):=[("_node2info",.obj d),("_ready_nodes",r),("_npassedout",.py (.int a)),("_nfinished",.py (.int b))]
noncomputable def niO (h:Nat) (p:Int) (l:Nat):O:=.slots aG [some (.py (nE h)),some (.py (.int p)),some (.obj l)]
noncomputable def fB (l:List Nat):O:=.list (l.map fun (n:Nat)=>.py (nE n))
noncomputable def Old (σ σ':List O):Prop:=∀ (a:Nat) (o:O),σ[a]?=some o->σ'[a]?=some o
theorem Old.app (σ τ:List O):Old σ (σ++τ):=fun a o e=>by rw [List.getElem?_append_left (bM e)]; exact e
theorem aE {σ:List O} {a b:Nat} {o o':O} (h:σ[b]?=some o) (hne:a≠b):(σ.set a o')[b]?=some o:=by rw [List.getElem?_set_ne hne]; exact h
theorem eC {σ:List O} {a:Nat} {o o':O} (h:σ[a]?=some o):(σ.set a o')[a]?=some o':=List.getElem?_set_self (bM h)
theorem cL {σ:List O} {a b:Nat} {o o':O} (h:σ[a]?=some o) (h':σ[b]?=some o') (hn:o≠o'):a≠b:=fun e=>hn (Option.some.inj (h.symm.trans (e▸h')))
theorem bC {σ τ:List O} {i:Nat} {o:O} (h:τ[i]?=some o):(σ++τ)[σ.length+i]?=some o:=by
 rw [List.getElem?_append_right (Nat.le_add_right ..),Nat.add_sub_cancel_left];exact h
theorem gy {α:Type} {l:List α} {v:α} (h:l.Nodup) (hv:v∉l):(l++[v]).Nodup:=
 List.nodup_append.mpr ⟨h,List.nodup_cons.mpr ⟨List.not_mem_nil,.nil⟩,fun _ hc _ he e=>hv (List.mem_singleton.mp he▸e▸hc)⟩
noncomputable def Fr (σ:List O) (a:Nat):Prop:=∀ o,σ[a]?=some o->o=.dead
theorem Fr.of {σ:List O} {a:Nat} (h:σ.length<=a):Fr σ a:=fun o e=>absurd (bM e) (Nat.not_lt.mpr h)
noncomputable def nO (σ σ':List O):Prop:=∀ (a:Nat) (o:O),σ[a]?=some o->o≠.dead->σ'[a]?=some o
theorem nO.of {σ σ':List O} (h:Old σ σ'):nO σ σ':=fun a o e _=>h a o e
theorem nO.trans {σ σ' σ'':List O} (h:nO σ σ') (h':Old σ' σ''):nO σ σ'':=fun a o e q=>h' a o (h a o e q)
theorem nO.set {σ σ':List O} (h:nO σ σ') {a:Nat} (o:O) (ha:Fr σ a):nO σ (σ'.set a o):=fun b p e q=>aE (h b p e q) fun z=>q (ha p (z▸e))
theorem nO.fresh {σ σ':List O} (h:nO σ σ') {a:Nat} (ha:σ'.length<=a):Fr σ a:=fun o e=>Classical.byContradiction fun q=>Nat.not_lt.mpr ha (bM (h a o e q))
structure bQ (σ0 σ:List O) (s d:Nat) (ni li:Nat->Nat) (keys:List Nat) (np:Nat->Int) (sc:Nat->List Nat) (r:D) (ab:Int×Int):Prop where
 old:nO σ0 σ
 inst:σ[s]?=some (.inst ae (xm d r ab.1 ab.2))
 dict:∃ ep,σ[d]?=some (.dict ep (keys.map fun (h:Nat)=>(kE h,D.obj (ni h))))
 nd:keys.Nodup
 info:∀ h∈keys,σ[ni h]?=some (niO h (np h) (li h))
 succ:∀ h∈keys,σ[li h]?=some (fB (sc h))
 inj:∀ h∈keys,∀ k∈keys,li h=li k->h=k
 lo:Fr σ0 s/\Fr σ0 d/\∀ h∈keys,Fr σ0 (ni h)/\Fr σ0 (li h)
variable {ab:Int×Int}
theorem bQ.later {σ0 σ σ':List O} {s d:Nat} {ni li:Nat->Nat} {keys:List Nat} {np:Nat->Int} {sc:Nat->List Nat} {r:D} (t:bQ σ0 σ s d ni li keys np sc r ab) (h:Old σ σ'):bQ σ0 σ' s d ni li keys np sc r ab:=
 ⟨t.old.trans h,h _ _ t.inst,let ⟨ep,e⟩:=t.dict; ⟨ep,h _ _ e⟩,t.nd,fun k hk=>h _ _ (t.info k hk),fun k hk=>h _ _ (t.succ k hk),t.inj,t.lo⟩
theorem vc {C:Addr} {nm:String} {n:Nat} {fs:List (String×D)} {d:D} {σ:List O} (h:σ[n]?=some (.inst C fs)) (hd:fs.lookup nm=some d) (hh:sD d=true):y3 C nm σ (.obj n)=some d:=by
 show ((σ[n]?.bind O.inst?).bind _)=_;rw [h];show (if C=C then (fs.lookup nm).bind yg else none)=_;rw [if_pos rfl,hd];exact if_pos hh
theorem uK {C:Addr} {i n:Nat} {fs:List (Option D)} {d:D} {σ:List O} (h:σ[n]?=some (.slots C fs)) (hd:fs[i]?.join=some d) (hh:sD d=true):x6 C i σ (.obj n)=some d:=by
 show ((σ[n]?.bind O.slots?).bind _)=_;rw [h];show (if C=C then (fs[i]?.join).bind yg else none)=_;rw [if_pos rfl,hd];exact if_pos hh
theorem dS {C:Addr} {nm:String} {n:Nat} {fs:List (String×D)} {d:D} {f:AM D} {st st1:ASt} (hf:f st=some (.ok (.obj n),st1)) (h:st1.σ[n]?=some (.inst C fs)) (hd:fs.lookup nm=some d) (hh:sD d=true):fQ C nm f st=some (.ok d,st1):=bnd hf (cM (vc h hd hh))
theorem slot_of {C:Addr} {i n:Nat} {fs:List (Option D)} {d:D} {f:AM D} {st st1:ASt} (hf:f st=some (.ok (.obj n),st1)) (h:st1.σ[n]?=some (.slots C fs)) (hd:fs[i]?.join=some d) (hh:sD d=true):iM C i f st=some (.ok d,st1):=bnd hf (cM (uK h hd hh))
theorem qG {C:Addr} {i n:Nat} {fs:List (Option D)} {v:D} {ρ:aq} {σ:List O} (h:σ[n]?=some (.slots C fs)):kJ C i (.obj n) v ⟨ρ,σ⟩=some (.ok (),⟨ρ,σ.set n (.slots C (As i v fs))⟩):=jR (q:=(.slots C (As i v fs),())) h (if_pos rfl)
theorem qS {C:Addr} {nm:String} {n:Nat} {fs:List (String×D)} {v:D} {ρ:aq} {σ:List O} (h:σ[n]?=some (.inst C fs)) (hl:fs.length<=ar):kS C nm (.obj n) v ⟨ρ,σ⟩=some (.ok (),⟨ρ,σ.set n (.inst C (put nm v fs))⟩):=jR (q:=(.inst C (put nm v fs),())) h (if_pos ⟨rfl,hl⟩)
theorem yY {op:Operator} {a b c:Int} {st:ASt} (h:B5 op a b=some c):vD op (.py (.int a)) (.py (.int b)) st=some (.ok (.py (.int c)),st):=cM (by
 show (B5 op a b).map _=_;rw [h];rfl)
theorem u9 {C:Addr} {i n:Nat} {fs:List (Option D)} {op:Operator} {a b c:Int} {f g:AM D} {st:ASt} {ρ:aq} {σ:List O} (hf:f st=some (.ok (.obj n),⟨ρ,σ⟩)) (h:σ[n]?=some (.slots C fs)) (hd:fs[i]?.join=some (.py (.int a))) (hg:g ⟨ρ,σ⟩=some (.ok (.py (.int b)),⟨ρ,σ⟩)) (ho:B5 op a b=some c):
  ko C i op f g st=some (.ok .next,⟨ρ,σ.set n (.slots C (As i (.py (.int c)) fs))⟩):=bnd hf (bnd (cM (uK h hd rfl)) (bnd hg (bnd (yY ho) (bnd (qG h) rfl))))
theorem vZ {C:Addr} {nm:String} {n:Nat} {fs:List (String×D)} {op:Operator} {a b c:Int} {f g:AM D} {st:ASt} {ρ:aq} {σ:List O} (hf:f st=some (.ok (.obj n),⟨ρ,σ⟩)) (h:σ[n]?=some (.inst C fs)) (hd:fs.lookup nm=some (.py (.int a))) (hl:fs.length<=ar) (hg:g ⟨ρ,σ⟩=some (.ok (.py (.int b)),⟨ρ,σ⟩)) (ho:B5 op a b=some c):
  ph C nm op f g st=some (.ok .next,⟨ρ,σ.set n (.inst C (put nm (.py (.int c)) fs))⟩):=bnd hf (bnd (cM (vc h hd rfl)) (bnd hg (bnd (yY ho) (bnd (qS h hl) rfl))))
theorem dc {f:AM D} {s:D->AM Unit} {g:AM aj} {v:D} {st st1 st2:ASt} {P:Except Value aj->ASt->Prop} (hf:f st=some (.ok v,st1)) (hs:s v st1=some (.ok (),st2)) (hg:Out (g st2) P):Out (ak (bF f [s]) g st) P:=aH (Out.of (r:=Except.ok aj.next) (st:=st2) (bnd hf (bnd (f:=s v) hs rfl)) (aO.mpr hg))
theorem jo {C:Addr} {nm:String} {n:Nat} {fs:List (String×D)} {v:D} {f:AM D} {st:ASt} {ρ:aq} {σ:List O} (hf:f st=some (.ok (.obj n),⟨ρ,σ⟩)) (h:σ[n]?=some (.inst C fs)) (hl:fs.length<=ar):lL C nm f v st=some (.ok (),⟨ρ,σ.set n (.inst C (put nm v fs))⟩):=bnd hf (qS h hl)
theorem jA {C:Addr} {i n:Nat} {fs:List (Option D)} {v:D} {f:AM D} {st:ASt} {ρ:aq} {σ:List O} (hf:f st=some (.ok (.obj n),⟨ρ,σ⟩)) (h:σ[n]?=some (.slots C fs)):lK C i f v st=some (.ok (),⟨ρ,σ.set n (.slots C (As i v fs))⟩):=bnd hf (qG h)
theorem qh {f g:AM D} {d e:D} {b:Bool} {st st1 st2:ASt} (hf:f st=some (.ok d,st1)) (hg:g st1=some (.ok e,st2)) (h:isA d e=some b):aJ .Is f g st=some (.ok b,st2):=gW hf hg h
theorem lX {f g:AM D} {d e:D} {b:Bool} {st st1 st2:ASt} (hf:f st=some (.ok d,st1)) (hg:g st1=some (.ok e,st2)) (h:isA d e=some b):aJ .IsNot f g st=some (.ok (!b),st2):=gW hf hg (congrArg (Option.map (!·)) h)
theorem CS {o₀:O} {bind:List D->Option aq} {fb:AM aj} {ds:List D} {bs:aq} {ρ:aq} {σ σ':List O} (hb:bind (.obj σ.length::ds)=some bs) (h:Out (fb ⟨bs,σ++[o₀]⟩) fun r st'=>r=.ok .next/\st'.σ=σ'):jg o₀ bind fb ds ⟨ρ,σ⟩=some (.ok (.obj σ.length),⟨ρ,σ'⟩):=by
 obtain ⟨r,st',e,rfl,rfl⟩:=h;show (bind (.obj σ.length::ds)).bind _=_;rw [hb];show (fb ⟨bs,σ++[o₀]⟩).bind _=_;rw [e];exact if_pos rfl
theorem jk {σ:List O} {o o':O}:((σ++[o])++[o'])[σ.length]?=some o:=by rw [List.getElem?_append_left (by simp)]; exact d6
theorem ku {σ:List O} {o o' o2:O}:((σ++[o])++[o']).set σ.length o2=(σ++[o2])++[o']:=by simp
theorem yW {σ:List O} {o:O} {ρ:aq}:uH o ⟨ρ,σ⟩=some (.ok (.obj σ.length),⟨ρ,σ++[o]⟩):=rfl
theorem Bq (h:Nat) (st:ASt):jg (.slots aG []) gU dO [.py (nE h)] st=some (.ok (.obj st.σ.length),⟨st.ρ,st.σ++[niO h 0 (st.σ.length+1),fB []]⟩):=by
 obtain ⟨ρ,σ⟩:=st;refine CS (bs:=[("self",.obj σ.length),("node",.py (nE h))]) rfl ?_;refine dc (ah rfl) (jA (ah rfl) d6) ?_;rw [lZ];refine dc rfl (jA (ah rfl) d6) ?_;rw [lZ];refine dc (v:=.obj (σ.length+1)) (st1:=⟨_,(σ++[_])++[.list []]⟩) (yW.trans (by rw [List.length_append]; rfl)) (jA (ah rfl) jk) (aw ⟨rfl,?_⟩);rw [ku,List.append_assoc];rfl
theorem wh (st:ASt):jg (.inst ae []) eE cz [] st=some (.ok (.obj st.σ.length),⟨st.ρ,st.σ++[.inst ae (xm (st.σ.length+1) (.py .none) 0 0),.dict 0 []]⟩):=by
 obtain ⟨ρ,σ⟩:=st;refine CS (bs:=[("self",.obj σ.length),("graph",.py .none)]) rfl ?_;refine dc (v:=.obj (σ.length+1)) (st1:=⟨_,(σ++[_])++[.dict 0 []]⟩) (yW.trans (by rw [List.length_append]; rfl)) (jo (ah rfl) jk (show _<=ar from Nat.le_of_ble_eq_true rfl)) ?_;rw [ku];refine dc rfl (jo (ah rfl) jk (show _<=ar from Nat.le_of_ble_eq_true rfl)) ?_;rw [ku];refine dc rfl (jo (ah rfl) jk (show _<=ar from Nat.le_of_ble_eq_true rfl)) ?_;rw [ku];refine dc rfl (jo (ah rfl) jk (show _<=ar from Nat.le_of_ble_eq_true rfl)) ?_;rw [ku,List.append_assoc];exact aH (du (lX (ah rfl) rfl rfl) (fun h=>nomatch h) fun _=>aw (aO.mpr (aw ⟨rfl,rfl⟩)))
theorem F7 (σ:List O):bQ σ (σ++[.inst ae (xm (σ.length+1) (.py .none) 0 0),.dict 0 []]) σ.length (σ.length+1) (fun _=>0) (fun _=>0) [] (fun _=>0) (fun _=>[]) (.py .none) (0,0):=
 ⟨.of (.app _ _),bC (i:=0) rfl,⟨0,bC (i:=1) rfl⟩,.nil,fun _ h=>(nomatch h),fun _ h=>(nomatch h),fun _ h=>(nomatch h),Fr.of (Nat.le_refl _),Fr.of (Nat.le_succ _),fun _ h=>(nomatch h)⟩
noncomputable def Cl (ρ:aq) (P:Except Value D->ASt->Prop):Except Value aj->ASt->Prop
 | .ok fl,st'=>P (.ok (Ew fl)) ⟨ρ,st'.σ⟩
 | .error X,st'=>P (.error X) ⟨ρ,st'.σ⟩
theorem iq {bind:List D->Option aq} {fb:AM aj} {ds:List D} {bs:aq} {st:ASt} {P:Except Value D->ASt->Prop} (hb:bind ds=some bs) (he:Out (fb ⟨bs,st.σ⟩) (Cl st.ρ P)):Out (dI bind fb ds st) P:=by
 obtain ⟨r,st',e,h⟩:=he;refine ⟨rE r,⟨st.ρ,st'.σ⟩,?_,?_⟩
 .show (bind ds).bind _=_;rw [hb];show (fb ⟨bs,st.σ⟩).map _=_;rw [e];rfl
 .cases r with
  | ok fl=>exact h
  | error X=>exact h
theorem yj {C:Addr} {nm:String} {n:Nat} {fs:List (String×D)} {st:ASt} (h:st.σ[n]?=some (.inst C fs)) (hn:nm∉fs.map (·.1)):Eo C nm (.obj n) st=some (.ok (),st):=cM (by
 show ((st.σ[n]?.bind O.inst?).bind _)=_;rw [h];exact if_pos ⟨rfl,hn⟩)
theorem kO {C:Addr} {nm:String} {f:AM D} {g:AM (List D)} {bind:List D->Option aq} {fb:AM aj} {n:Nat} {fs:List (String×D)} {ds:List D} {bs:aq} {st st1 st2:ASt} {P:Except Value D->ASt->Prop}
  (hf:f st=some (.ok (.obj n),st1)) (h:st1.σ[n]?=some (.inst C fs)) (hn:nm∉fs.map (·.1)) (hg:g st1=some (.ok ds,st2)) (hb:bind (.obj n::ds)=some bs) (he:Out (fb ⟨bs,st2.σ⟩) (Cl st2.ρ P)):Out (il C nm f g (dI bind fb) st) P:=
 dH hf (dH (yj h hn) (dH hg (iq hb he)))
noncomputable def Lt (v:String) (g:AM aj) (P:Except Value aj->ASt->Prop):Except Value D->ASt->Prop
 | .ok d,st'=>Out (g ⟨put v d st'.ρ,st'.σ⟩) P
 | .error X,st'=>P (.error X) st'
theorem je {v:String} {f:AM D} {g:AM aj} {st:ASt} {P:Except Value aj->ASt->Prop} (h:Out (f st) (Lt v g P)):Out (ak (bG v f) g st) P:=
 aH (kM (h.mono fun r st' q=>match r,q with
  | .ok _,q=>⟨_,_,rfl,q⟩
  | .error _,q=>q))
noncomputable def Ex (g:AM aj) (P:Except Value aj->ASt->Prop):Except Value D->ASt->Prop
 | .ok _,st'=>Out (g st') P
 | .error X,st'=>P (.error X) st'
theorem m6 {f:AM D} {g:AM aj} {st:ASt} {P:Except Value aj->ASt->Prop} (h:Out (f st) (Ex g P)):Out (ak (cv f) g st) P:=
 aH (kM (h.mono fun r st' q=>match r,q with
  | .ok _,q=>⟨_,_,rfl,q⟩
  | .error _,q=>q))
noncomputable def upd {α:Type} (f:Nat->α) (h:Nat) (a:α):Nat->α:=fun k=>if k=h then a else f k
theorem cC {α:Type} (f:Nat->α) (h:Nat) (a:α):upd f h a h=a:=if_pos rfl
theorem dh {α:Type} (f:Nat->α) {h k:Nat} (a:α) (e:k≠h):upd f h a k=f k:=if_neg e
theorem ig (ni:Nat->Nat) (h:Nat) (keys:List Nat):eh (keys.map fun (h:Nat)=>(kE h,D.obj (ni h))) (kE h)=if h∈keys then some (.obj (ni h)) else none:=by
 induction keys with
 | nil=>rfl
 | cons k keys ih=>
  rw [List.map_cons,gG,ih];by_cases hk:k=h
  .rw [if_pos (congrArg (fun (k:Nat)=>kE k) hk),if_pos (hk▸List.mem_cons_self),hk]
  .rw [if_neg fun (e:kE k=kE h)=>hk (jQ e)];by_cases hm:h∈keys
   .rw [if_pos hm,if_pos (List.mem_cons_of_mem _ hm)]
   .rw [if_neg hm,if_neg fun q=>(List.mem_cons.mp q).elim (fun e=>hk e.symm) hm]
theorem wa {σ:List O} {ρ:aq} {n:Nat} {ep:Nat} {kvs:List (KK×D)} {x:Nat} (h:σ[n]?=some (.dict ep kvs)):CK (.obj n) [.py (nE x)] ⟨ρ,σ⟩=some (.ok ((eh kvs (kE x)).getD (.py .none)),⟨ρ,σ⟩):=cM (f:=fun σ=>wX σ (.obj n) (.py (nE x)) (.py .none)) (Da h rfl)
theorem wO {v:String} {f:AM D} {d:D} {st st1:ASt} (h:f st=some (.ok d,st1)):Dv f (aQ v) st=some (.ok d,⟨put v d st1.ρ,st1.σ⟩):=bnd h rfl
theorem BF {o i:AM D} {v a b:D} {st st1 st2 st3:ASt} (ho:o st=some (.ok a,st1)) (hi:i st1=some (.ok b,st2)) (hs:kN a b v st2=some (.ok (),st3)):gR o i v st=some (.ok (),st3):=bnd ho (bnd hi hs)
theorem vP {f:AM D} {s s':D->AM Unit} {g:AM aj} {v:D} {st st1 st2 st3:ASt} {P:Except Value aj->ASt->Prop} (hf:f st=some (.ok v,st1)) (hs:s v st1=some (.ok (),st2)) (hs':s' v st2=some (.ok (),st3)) (hg:Out (g st3) P):Out (ak (bF f [s,s']) g st) P:=aH (Out.of (r:=Except.ok aj.next) (st:=st3) (bnd hf (bnd (bnd hs hs') rfl)) (aO.mpr hg))
theorem mR {n:Nat} {C:Addr} {fs:List (Option D)} {ρ:aq} {σ:List O} (h:σ[n]?=some (.slots C fs)):ib (.obj n) ⟨ρ,σ⟩=some (.ok (.obj n),⟨ρ,σ⟩):=iS (by
 show (vb σ[n]?).map _=_;rw [h];rfl)
theorem qV {kvs:List (KK×D)} {k:KK} (d:D) (h:eh kvs k=none):eg kvs k d=kvs++[(k,d)]:=if_neg fun q=>by
 obtain ⟨x,hx,e⟩:=List.any_eq_true.mp q;exact List.find?_eq_none.mp (Option.map_eq_none_iff.mp h) x hx e
noncomputable def dp (keys:List Nat) (h:Nat):List Nat:=if h∈keys then keys else keys++[h]
theorem jw {P:Nat->Prop} {keys:List Nat} {h:Nat} (h1:∀ k∈keys,P k) (h2:P h):∀ k∈keys++[h],P k:=fun k hk=>(List.mem_append.mp hk).elim (h1 k) fun q=>List.mem_singleton.mp q▸h2
section
variable {σ0 σ:List O} {s d:Nat} {ni li:Nat->Nat} {keys:List Nat} {np:Nat->Int} {sc:Nat->List Nat} {r:D}
theorem zT {h a:Nat} (hm:h∉keys):eg (keys.map fun (h:Nat)=>(kE h,D.obj (ni h))) (kE h) (.obj a)=(keys++[h]).map fun (k:Nat)=>(kE k,D.obj (upd ni h a k)):=by
 rw [qV _ (by rw [ig,if_neg hm]),List.map_append,List.map_cons,cC,List.map_congr_left fun k hk=>by rw [← dh ni a fun (e:k=h)=>hm (e▸hk)]];rfl
theorem bQ.fresh (t:bQ σ0 σ s d ni li keys np sc r ab) {h:Nat} (hm:h∉keys) (ep:Nat):bQ σ0 ((σ++[niO h 0 (σ.length+1),fB []]).set d (.dict ep ((keys++[h]).map fun (k:Nat)=>(kE k,D.obj (upd ni h σ.length k))))) s d (upd ni h σ.length) (upd li h (σ.length+1)) (keys++[h]) (upd np h 0) (upd sc h []) r ab:=by
 have hi:=t.inst;obtain ⟨ep0,hd⟩:=t.dict;have ho:=Old.app σ [niO h 0 (σ.length+1),fB []];have hdl:=bM hd;have hu:∀ {α:Type} (f:Nat->α) (a:α) {k:Nat},k∈keys->upd f h a k=f k:=fun f a k hk=>dh f a fun e=>hm (e▸hk);have far:∀ k∈keys,li k≠σ.length+1:=fun k hk e=>Nat.not_lt_of_le (Nat.le_succ _) (e▸bM (t.succ k hk));refine ⟨(t.old.trans ho).set _ t.lo.2.1,aE (ho _ _ hi) (cL hd hi fun e=>nomatch e),⟨ep,eC (ho _ _ hd)⟩,gy t.nd hm,jw (fun k hk=>?_) ?_,jw (fun k hk=>?_) ?_,jw (fun k hk=>jw (fun k' hk' e=>?_) fun e=>?_) (jw (fun k' hk' e=>?_) fun _=>rfl),t.lo.1,t.lo.2.1,jw (fun k hk=>?_) ?_⟩
 .rw [hu ni _ hk,hu np _ hk,hu li _ hk];exact aE (ho _ _ (t.info k hk)) (cL hd (t.info k hk) fun e=>nomatch e)
 .rw [cC,cC,cC];exact aE (bC (i:=0) rfl) (Nat.ne_of_lt hdl)
 .rw [hu li _ hk,hu sc _ hk];exact aE (ho _ _ (t.succ k hk)) (cL hd (t.succ k hk) fun e=>nomatch e)
 .rw [cC,cC];exact aE (bC (i:=1) rfl) (Nat.ne_of_lt (Nat.lt_succ_of_lt hdl))
 .rw [hu li _ hk,hu li _ hk'] at e;exact t.inj k hk k' hk' e
 .rw [hu li _ hk,cC] at e;exact absurd e (far k hk)
 .rw [hu li _ hk',cC] at e;exact absurd e.symm (far k' hk')
 .rw [hu ni _ hk,hu li _ hk];exact t.lo.2.2 k hk
 .rw [cC,cC];exact ⟨t.old.fresh (Nat.le_refl _),t.old.fresh (Nat.le_succ _)⟩
theorem AW (t:bQ σ0 σ s d ni li keys np sc r ab) (hl:keys.length<=100) (h:Nat):
  Out (aX ⟨[("self",.obj s),("node",.py (nE h))],σ⟩) fun r' st'=>∃ ni' li',r'=.ok (.ret (.obj (ni' h)))/\
   bQ σ0 st'.σ s d ni' li' (dp keys h) (if h∈keys then np else upd np h 0) (if h∈keys then sc else upd sc h []) r ab:=by
 have hi:=t.inst;obtain ⟨ep,hd⟩:=t.dict;have e1:=dR (dS (nm:= "_node2info") (ah (v:= "self") (ρ:=[("self",.obj s),("node",.py (nE h))]) rfl) hi (d:=.obj d) rfl rfl) (vn hd) (dL (ah (v:= "node") rfl)) (wa hd);rw [ig] at e1;unfold dp;by_cases hm:h∈keys
 .rw [if_pos hm] at e1;rw [if_pos hm,if_pos hm,if_pos hm];exact aH (du (qh (wO e1) rfl (b:=false) rfl) (fun h=>nomatch h) fun _=>aw (aO.mpr (jD (d:=.obj (ni h)) (ah aD) (mR (t.info h hm)) ⟨ni,li,rfl,t⟩)))
 .rw [if_neg hm] at e1;rw [if_neg hm,if_neg hm,if_neg hm];refine aH (du (qh (wO e1) rfl (b:=true) rfl) (fun _=>?_) fun h=>nomatch h);have ho:=Old.app σ [niO h 0 (σ.length+1),fB []];refine vP (bnd (dL (ah rfl)) (Bq h _)) (BF (dS (ah rfl) (ho _ _ hi) (d:=.obj d) rfl rfl) (ah rfl) (gh (ho _ _ hd) (k:=kE h) rfl (by rw [List.length_map]; exact Nat.le_trans hl (by decide)))) rfl (aw (aO.mpr ?_));rw [zT hm];exact jD (d:=.obj σ.length) (ah aD) (mR (aE (bC (i:=0) rfl) (Nat.ne_of_lt (bM hd)))) ⟨upd ni h σ.length,upd li h (σ.length+1),by rw [cC],t.fresh hm _⟩
end
variable {ab:Int×Int}
section
variable {σ0 σ:List O} {s d:Nat} {ni li:Nat->Nat} {keys:List Nat} {np:Nat->Int} {sc:Nat->List Nat} {r:D}
theorem bQ.ni_ne_s (t:bQ σ0 σ s d ni li keys np sc r ab) {h:Nat} (hh:h∈keys):ni h≠s:=have q:=t.inst; cL (t.info h hh) q (fun e=>nomatch e)
theorem bQ.ni_ne_d (t:bQ σ0 σ s d ni li keys np sc r ab) {h:Nat} (hh:h∈keys):ni h≠d:=let ⟨_,q⟩:=t.dict; cL (t.info h hh) q (fun e=>nomatch e)
theorem bQ.li_ne_s (t:bQ σ0 σ s d ni li keys np sc r ab) {h:Nat} (hh:h∈keys):li h≠s:=have q:=t.inst; cL (t.succ h hh) q (fun e=>nomatch e)
theorem bQ.li_ne_d (t:bQ σ0 σ s d ni li keys np sc r ab) {h:Nat} (hh:h∈keys):li h≠d:=let ⟨_,q⟩:=t.dict; cL (t.succ h hh) q (fun e=>nomatch e)
theorem bQ.ni_ne_li (t:bQ σ0 σ s d ni li keys np sc r ab) {h k:Nat} (hh:h∈keys) (hk:k∈keys):ni h≠li k:=cL (t.info h hh) (t.succ k hk) (fun e=>nomatch e)
theorem Gq {h k:Nat} {p q:Int} {l m:Nat} (e:niO h p l=niO k q m):h=k:=by
 unfold niO at e;injection e with _ e
 injection e with e
 injection e with e
 injection e with e
 injection e with e
 exact uf e
theorem bQ.ni_inj (t:bQ σ0 σ s d ni li keys np sc r ab) {h k:Nat} (hh:h∈keys) (hk:k∈keys) (hne:h≠k):ni h≠ni k:=cL (t.info h hh) (t.info k hk) fun e=>hne (Gq e)
theorem bQ.s_ne_d (t:bQ σ0 σ s d ni li keys np sc r ab):s≠d:=have q:=t.inst; let ⟨_,q'⟩:=t.dict; cL q q' (fun e=>nomatch e)
theorem bQ.setnp (t:bQ σ0 σ s d ni li keys np sc r ab) {h:Nat} (hh:h∈keys) (p:Int):bQ σ0 (σ.set (ni h) (niO h p (li h))) s d ni li keys (upd np h p) sc r ab:=by
 have hi:=t.inst;obtain ⟨ep,hd⟩:=t.dict;refine ⟨t.old.set _ (t.lo.2.2 h hh).1,aE hi (t.ni_ne_s hh),⟨ep,aE hd (t.ni_ne_d hh)⟩,t.nd,fun k hk=>?_,fun k hk=>aE (t.succ k hk) (t.ni_ne_li hh hk),t.inj,t.lo⟩;by_cases e:k=h
 .subst e;rw [cC];exact eC (t.info k hk)
 .rw [dh _ _ e];exact aE (t.info k hk) (t.ni_inj hh hk fun q=>e q.symm)
theorem bQ.setsc (t:bQ σ0 σ s d ni li keys np sc r ab) {h:Nat} (hh:h∈keys) (l:List Nat):bQ σ0 (σ.set (li h) (fB l)) s d ni li keys np (upd sc h l) r ab:=by
 have hi:=t.inst;obtain ⟨ep,hd⟩:=t.dict;refine ⟨t.old.set _ (t.lo.2.2 h hh).2,aE hi (t.li_ne_s hh),⟨ep,aE hd (t.li_ne_d hh)⟩,t.nd,fun k hk=>aE (t.info k hk) fun e=>t.ni_ne_li hk hh e.symm,fun k hk=>?_,t.inj,t.lo⟩;by_cases e:k=h
 .subst e;rw [cC];exact eC (t.succ k hk)
 .rw [dh _ _ e];exact aE (t.succ k hk) fun q=>e (t.inj k hk h hh q.symm)
theorem bQ.setr (t:bQ σ0 σ s d ni li keys np sc r ab) (r':D) (a b:Int):bQ σ0 (σ.set s (.inst ae (xm d r' a b))) s d ni li keys np sc r' (a,b):=by
 have hi:=t.inst;obtain ⟨ep,hd⟩:=t.dict;exact ⟨t.old.set _ t.lo.1,eC hi,⟨ep,aE hd t.s_ne_d⟩,t.nd,fun k hk=>aE (t.info k hk) fun e=>t.ni_ne_s hk e.symm,fun k hk=>aE (t.succ k hk) fun e=>t.li_ne_s hk e.symm,t.inj,t.lo⟩
end
structure T3 where
 keys:List Nat
 np:Nat->Int
 sc:Nat->List Nat
noncomputable def T3.node (t:T3) (h:Nat):T3:=⟨dp t.keys h,if h∈t.keys then t.np else upd t.np h 0,if h∈t.keys then t.sc else upd t.sc h []⟩
noncomputable def T3.pred (n:Nat) (t:T3) (p:Nat):T3:=let u:=t.node p; ⟨u.keys,u.np,upd u.sc p (u.sc p++[n])⟩
noncomputable def T3.add (t:T3) (n:Nat) (ps:List Nat):T3:=let u:=t.node n; ps.foldl (T3.pred n) ⟨u.keys,upd u.np n (u.np n+ps.length),u.sc⟩
noncomputable def TSt (σ0 σ:List O) (s d:Nat) (ni li:Nat->Nat) (t:T3) (r:D) (ab:Int×Int):Prop:=bQ σ0 σ s d ni li t.keys t.np t.sc r ab
theorem jC (keys:List Nat) (h:Nat):h∈dp keys h:=by
 unfold dp;by_cases hm:h∈keys
 .rw [if_pos hm]; exact hm
 .rw [if_neg hm]; exact List.mem_append_right _ List.mem_cons_self
theorem pM (keys:List Nat) (h:Nat):(dp keys h).length<=keys.length+1:=by
 unfold dp;by_cases hm:h∈keys
 .rw [if_pos hm]; exact Nat.le_succ _
 .rw [if_neg hm,List.length_append]; exact Nat.le_refl _
theorem mD {t:T3} {L:Nat} (hL:∀ h,(t.sc h).length<=L) (n:Nat):∀ h,((t.node n).sc h).length<=L:=fun h=>by
 unfold T3.node;dsimp only;by_cases hn:n∈t.keys
 .rw [if_pos hn]; exact hL h
 .rw [if_neg hn];by_cases e:h=n
  .subst e; rw [cC]; simp
  .rw [dh _ _ e]; exact hL h
theorem sf {σ0 σ:List O} {s d:Nat} {ni li:Nat->Nat} {t:T3} {r:D} {f:AM D} {g:AM D} {h:Nat} {st:ASt} {ρ:aq} {P:Except Value D->ASt->Prop} (T:TSt σ0 σ s d ni li t r ab) (hl:t.keys.length<=100)
  (hf:f st=some (.ok (.obj s),⟨ρ,σ⟩)) (hg:g ⟨ρ,σ⟩=some (.ok (.py (nE h)),⟨ρ,σ⟩)) (hP:∀ ni' li' σ',TSt σ0 σ' s d ni' li' (t.node h) r ab->P (.ok (.obj (ni' h))) ⟨ρ,σ'⟩):
  Out (il ae "_get_nodeinfo" f (ao g (pure [])) (dI cF aX) st) P:=
 have hi:=bQ.inst T
 kO hf hi (show "_get_nodeinfo" ∉["_node2info", "_ready_nodes", "_npassedout", "_nfinished"] by decide) (dL hg) rfl ((AW T hl h).mono fun r' st' ⟨ni',li',e,q⟩=>by subst e; exact hP ni' li' _ q)
theorem yw {l:List Nat} {f:AM D} {st st1:ASt} (hf:f st=some (.ok (.py (.tuple (l.map fun (n:Nat)=>nE n))),st1)):(f>>=aM) st=some (.ok (l.map fun (n:Nat)=>.py (nE n),fun _=>pure ()),st1):=bnd hf (by
 show some (Except.ok ((l.map fun (n:Nat)=>nE n).map D.py,_),_)=_;rw [List.map_map];rfl)
theorem yO {f:Nat->List Nat} {n:Nat} (hL:∀ h,(f h).length<=n) {k:Nat} {l:List Nat} (hl:l.length<=n) (h:Nat):(upd f k l h).length<=n:=by
 unfold upd;by_cases e:h=k
 .rw [if_pos e]; exact hl
 .rw [if_neg e]; exact hL h
structure G5 (σ0:List O) (s d n L:Nat) (t:T3) (ρ1:aq) (ys:List Nat) (st:ASt) (u:T3):Prop where
 sm:Sm ["pred", "pred_info"] ρ1 st.ρ
 len:u.keys.length<=t.keys.length+1+ys.length
 sc:∀ h,(u.sc h).length<=L+ys.length
 at_:∃ ni li,TSt σ0 st.σ s d ni li u (.py .none) ab
theorem FY {σ0 σ:List O} {s d:Nat} {ni li:Nat->Nat} {t:T3} (T:TSt σ0 σ s d ni li t (.py .none) ab) (n:Nat) (ps:List Nat) (hl:t.keys.length+ps.length < 100) (L:Nat) (hL:∀ h,(t.sc h).length<=L) (hL2:L+ps.length<=1000):
  Out (bT ⟨[("self",.obj s),("node",.py (nE n)),("predecessors",.py (.tuple (ps.map fun (p:Nat)=>nE p)))],σ⟩) fun r st'=>r=.ok .next/\∃ ni' li',TSt σ0 st'.σ s d ni' li' (t.add n ps) (.py .none) ab:=by
 have hi:=bQ.inst T;refine aH (du (lX (dS (ah rfl) hi (d:=.py .none) rfl rfl) rfl (b:=true) rfl) (fun h=>nomatch h) fun _=>aw (aO.mpr ?_));refine je (sf T (Nat.le_of_lt (Nat.lt_of_le_of_lt (Nat.le_add_right ..) hl)) (ah rfl) (ah rfl) fun ni1 li1 σ1 T1=>?_);have hn:n∈(t.node n).keys:=jC _ _
 have e2:∀ {ρ:aq},ρ.lookup "predecessors" =some (.py (.tuple (ps.map fun (p:Nat)=>nE p)))->((ao (ad "predecessors") (pure []))>>=gQ) ⟨ρ,σ1⟩=some (.ok (.py (.int (ps.length:Int))),⟨ρ,σ1⟩):=fun {ρ} hp=>by
  have:=mO (ds:=(ps.map fun (p:Nat)=>nE p).map .py) (st1:=⟨ρ,σ1⟩) (ah hp) (by rw [List.length_map,List.length_map]; exact Nat.le_trans (Nat.le_trans (Nat.le_add_left ..) hL2) (by decide)) rfl
  rwa [List.length_map,List.length_map] at this
 refine aH (Out.of (u9 (ah rfl) (bQ.info T1 n hn) rfl (e2 rfl) rfl) (aO.mpr ?_));have p1:List.lookup "self" (put "nodeinfo" (D.obj (ni1 n)) [("self",D.obj s),("node",.py (nE n)),("predecessors",.py (.tuple (ps.map fun (p:Nat)=>nE p)))])=some (.obj s):=rfl;have p2:List.lookup "node" (put "nodeinfo" (D.obj (ni1 n)) [("self",D.obj s),("node",.py (nE n)),("predecessors",.py (.tuple (ps.map fun (p:Nat)=>nE p)))])=some (.py (nE n)):=rfl;have p3:List.lookup "predecessors" (put "nodeinfo" (D.obj (ni1 n)) [("self",D.obj s),("node",.py (nE n)),("predecessors",.py (.tuple (ps.map fun (p:Nat)=>nE p)))])=some (.py (.tuple (ps.map fun (p:Nat)=>nE p))):=rfl;generalize put "nodeinfo" (D.obj (ni1 n)) [("self",D.obj s),("node",.py (nE n)),("predecessors",.py (.tuple (ps.map fun (p:Nat)=>nE p)))]=ρ1 at p1 p2 p3 ⊢;refine dF ps (fun (p:Nat)=>.py (nE p)) (fun ys st=>G5 σ0 s d n L t ρ1 ys st (ys.foldl (T3.pred n) ⟨(t.node n).keys,upd (t.node n).np n ((t.node n).np n+ps.length),(t.node n).sc⟩)) (yw (ah p3)) (fun _ _ _ _=>rfl) ⟨.refl _ _,pM _ _,mD hL n,ni1,li1,bQ.setnp T1 hn _⟩ ?_ fun st' I=>aw ⟨rfl,I.at_⟩
 rintro ys p zs ⟨ρ,σ2⟩ hx I
 rw [List.foldl_append];generalize ys.foldl (T3.pred n) ⟨(t.node n).keys,upd (t.node n).np n ((t.node n).np n+ps.length),(t.node n).sc⟩=u at I ⊢;obtain ⟨h1,h2,hB,ni2,li2,T3'⟩:=I;have hyl:ys.length+1<=ps.length:=by rw [hx,List.length_append]; exact Nat.add_le_add_left (Nat.succ_le_succ (Nat.zero_le _)) _
 have h1':Sm ["pred", "pred_info"] ρ1 (put "pred" (.py (nE p)) ρ):=h1.put (by decide);refine je (sf T3' (by omega) (ah (h1'.get p1 (by decide))) (ah aD) fun ni3 li3 σ3 T4=>?_);have hp:p∈(u.node p).keys:=jC _ _;have hsu:=bQ.succ T4 p hp;have hB2:=mD hB p;refine eG (dR (slot_of (i:=2) (ah aD) (bQ.info T4 p hp) rfl rfl) (eX hsu) (dL (ah ((h1'.put (by decide)).get p2 (by decide)))) (fT hsu (by rw [List.length_map]; exact Nat.le_trans (hB2 p) (Nat.le_trans (Nat.add_le_add_left (Nat.le_of_succ_le hyl) L) (Nat.le_trans hL2 (by decide)))))) ?_;have T5:=bQ.setsc T4 hp ((u.node p).sc p++[n]);rw [show fB ((u.node p).sc p++[n])=.list (((u.node p).sc p).map (fun (n:Nat)=>D.py (nE n))++[.py (nE n)]) by unfold fB; rw [List.map_append]; rfl] at T5;refine aw (cS.mpr ⟨h1'.put (by decide),?_,fun h=>?_,ni3,li3,T5⟩)
 .rw [List.length_append];exact Nat.le_trans (pM u.keys p) (Nat.succ_le_succ h2)
 .rw [List.length_append];exact yO (fun h=>Nat.le_succ_of_le (hB2 h)) (by rw [List.length_append]; exact Nat.succ_le_succ (hB2 p)) h
variable {ab:Int×Int}
theorem yk {σ:List O} {n:Nat} {f:KK->Bool} {d:D} {k:KK} (h:r8 σ[n]?=some f) (hk:ic d=some k):inA σ d (.obj n)=some (f k):=by
 show orO ((r8 σ[n]?).bind fun f=>(ic d).map f) _=_;rw [h,Option.bind_some,hk];rfl
theorem B7 {σ:List O} {n:Nat} {ks:List KK} {f g:AM D} {d:D} {k:KK} {st st1:ASt} {ρ:aq} (hf:f st=some (.ok d,st1)) (hg:g st1=some (.ok (.obj n),⟨ρ,σ⟩)) (h:σ[n]?=some (.set ks)) (hk:ic d=some k):aJ .In f g st=some (.ok (decide (k∈ks)),⟨ρ,σ⟩):=
 gW hf hg (yk (f:=fun k=>decide (k∈ks)) (congrArg r8 h) hk)
theorem yr {σ:List O} {n ep:Nat} {kvs:List (KK×D)} {f g:AM D} {d:D} {k:KK} {st st1:ASt} {ρ:aq} (hf:f st=some (.ok d,st1)) (hg:g st1=some (.ok (.obj n),⟨ρ,σ⟩)) (h:σ[n]?=some (.dict ep kvs)) (hk:ic d=some k):aJ .In f g st=some (.ok (kvs.any fun kv=>decide (kv.1=k)),⟨ρ,σ⟩):=
 gW hf hg (yk (f:=fun k=>kvs.any fun kv=>decide (kv.1=k)) (congrArg r8 h) hk)
theorem mA {kvs:List (KK×D)} {k:KK}:(kvs.any fun kv=>decide (kv.1=k))=(eh kvs k).isSome:=by
 rw [Bool.eq_iff_iff,List.any_eq_true];unfold eh;rw [Option.isSome_map,List.find?_isSome]
theorem io {σ:List O} {n ep:Nat} {kvs:List (KK×D)} {f g:AM D} {e:D} {x:Nat} {st st1:ASt} {ρ:aq} (hf:f st=some (.ok (.obj n),st1)) (hg:g st1=some (.ok (.py (nE x)),⟨ρ,σ⟩)) (h:σ[n]?=some (.dict ep kvs)) (he:eh kvs (kE x)=some e):bu f g st=some (.ok e,⟨ρ,σ⟩):=pJ hf hg (by
 unfold uA;rw [show ((D.obj n).obj?.bind fun n=>lr σ[n]?)=some kvs by show lr σ[n]?=_; rw [h]; rfl];exact he)
theorem CT {σ:List O} {n:Nat} {ds:List D} {d:D} {f:AM D} {st:ASt} {ρ:aq} (hf:f st=some (.ok (.obj n),⟨ρ,σ⟩)) (h:σ[n]?=some (.list (ds++[d]))) (hl:ds.length+1<=ar):bu f (pure (.py (.int (-1)))) st=some (.ok d,⟨ρ,σ⟩):=by
 refine pJ hf rfl ?_;unfold uA;rw [show ((D.obj n).obj?.bind fun n=>lr σ[n]?)=none by show lr σ[n]?=_; rw [h]; rfl];show (nA σ (.obj n)).bind (on (-1))=_;rw [show nA σ (.obj n)=some (ds++[d]) by show sG σ[n]?=_; rw [h]; rfl,Option.bind_some];unfold on;rw [if_pos (by decide),show seqIndex? (-1) (ds++[d]).length=some ds.length by
  rw [List.length_append];show (if (decide (0<=(-1:Int)+((ds.length+1:Nat):Int))&&decide ((-1:Int)+((ds.length+1:Nat):Int) < ((ds.length+1:Nat):Int)))=true then some ((-1:Int)+((ds.length+1:Nat):Int)).toNat else none)=_;rw [show (-1:Int)+((ds.length+1:Nat):Int)=(ds.length:Int) by omega];rw [if_pos (by rw [decide_eq_true (Int.natCast_nonneg _),decide_eq_true (Int.ofNat_lt.mpr (Nat.lt_succ_self _))]; rfl)];rfl,Option.bind_some]
 exact List.getElem?_concat_length
theorem B2 {n:Nat} {es:List D} {d:D} {ρ:aq} {σ:List O} (h:σ[n]?=some (.list (es++[d]))) (hl:es.length+1<=ar):rt (.obj n) [] ⟨ρ,σ⟩=some (.ok d,⟨ρ,σ.set n (.list es)⟩):=ud h (by rw [if_pos (by rw [List.length_append]; exact hl),List.getLast?_concat,List.dropLast_concat]; rfl)
theorem Aa {n:Nat} {ks:List KK} {u:D} {k:KK} {ρ:aq} {σ:List O} (h:σ[n]?=some (.set ks)) (hk:ic u=some k) (hn:k∉ks) (hl:ks.length<=4000):mJ (.obj n) [u] ⟨ρ,σ⟩=some (.ok (.py .none),⟨ρ,σ.set n (.set (ks++[k]))⟩):=jR (q:=(.set (ks++[k]),(.py .none:D))) h (by
 show (ic u).bind _=_;rw [hk,Option.bind_some,if_pos hl,u7,if_neg hn])
theorem DP {σ:List O} {n:Nat} {ks:List KK} (h:σ[n]?=some (.set ks)):isT "set" σ (.obj n)=true:=tV h rfl
theorem BG {σ:List O} {n:Nat} {ds:List D} {f:AM D} {st:ASt} {ρ:aq} (hf:f st=some (.ok (.obj n),⟨ρ,σ⟩)) (h:σ[n]?=some (.list ds)) (hl:ds.length<=ar):((ao f (pure []))>>=gQ) st=some (.ok (.py (.int (ds.length:Int))),⟨ρ,σ⟩):=
 mO (st1:=⟨ρ,σ⟩) hf hl (by show (match lr σ[n]? with | some kvs=>lenS kvs.length | none=>(sG σ[n]?).bind fun ds=>lenS ds.length)=_; rw [h]; rfl)
theorem Ep {σ:List O} {n:Nat} {ds:List D} {f:AM D} {st:ASt} {ρ:aq} (hf:f st=some (.ok (.obj n),⟨ρ,σ⟩)) (h:σ[n]?=some (.list ds)) (hl:ds.length<=ar):iz f st=some (.ok (!ds.isEmpty),⟨ρ,σ⟩):=sU hf (pK h hl)
theorem Fg {σ:List O} {n ep:Nat} {kvs:List (KK×D)} {i:D} {k:KK} {ρ:aq} (h:σ[n]?=some (.dict ep kvs)) (hk:ic i=some k) (hl:kvs.length<=ar) (ha:(kvs.any fun kv=>decide (kv.1=k))=true):l9 (.obj n) i ⟨ρ,σ⟩=some (.ok (),⟨ρ,σ.set n (.dict (ep+1) (n4 kvs k))⟩):=jR (q:=(.dict (ep+1) (n4 kvs k),())) h (by
 show (ic i).bind _=_;rw [hk,Option.bind_some];exact if_pos ⟨hl,ha⟩)
noncomputable def gv (ps:List Nat):List (KK×D):=ps.zipIdx.map fun q=>(kE q.1,D.py (.int (q.2:Int)))
theorem qD (ps:List Nat) (p:Nat):gv (ps++[p])=gv ps++[(kE p,.py (.int (ps.length:Int)))]:=by
 unfold gv;rw [List.zipIdx_append,List.map_append];simp
theorem sF (ps:List Nat):(gv ps).length=ps.length:=by unfold gv; simp
theorem lR {ps:List Nat} {kv:KK×D} (h:kv∈gv ps):∃ p∈ps,∃ i:Nat,kv=(kE p,.py (.int (i:Int))):=by
 unfold gv at h;obtain ⟨q,hq,rfl⟩:=List.mem_map.mp h;refine ⟨q.1,?_,q.2,rfl⟩;have:=List.mem_zipIdx' hq;exact this.2▸List.getElem_mem _
theorem nf {ps:List Nat} {p:Nat} (h:p∈ps):∃ i:Nat,eh (gv ps) (kE p)=some (.py (.int (i:Int))):=by
 cases hf:(gv ps).find? (fun kv=>decide (kv.1=kE p)) with
 | none=>
  exfalso;rw [List.find?_eq_none] at hf;obtain ⟨i,hi⟩:=List.getElem?_of_mem h
  have hm:((p,i):Nat×Nat)∈ps.zipIdx:=by
   rw [List.mem_zipIdx_iff_getElem?];exact hi
  exact hf _ (List.mem_map.mpr ⟨(p,i),hm,rfl⟩) (by simp)
 | some kv=>
  obtain ⟨q,_,i,rfl⟩:=lR (List.mem_of_find?_eq_some hf);exact ⟨i,by unfold eh; rw [hf]; rfl⟩
theorem qJ {ps:List Nat} {p:Nat} (h:p∉ps):eh (gv ps) (kE p)=none:=by
 unfold eh
 have:(gv ps).find? (fun kv=>decide (kv.1=kE p))=none:=by
  rw [List.find?_eq_none];intro kv hkv e;obtain ⟨q,hq,i,rfl⟩:=lR hkv;have e:kE q=kE p:=of_decide_eq_true e;exact h (jQ e▸hq)
 rw [this];rfl
theorem wf {ps:List Nat} {p:Nat} (h:p∉ps):n4 (gv (ps++[p])) (kE p)=gv ps:=by
 rw [qD];unfold n4;rw [List.filter_append]
 have h1:(gv ps).filter (fun kv=>decide (kv.1≠kE p))=gv ps:=by
  rw [List.filter_eq_self];intro kv hkv;obtain ⟨q,hq,i,rfl⟩:=lR hkv;exact decide_eq_true fun e=>h (jQ e▸hq)
 rw [h1];simp
variable {ab:Int×Int}
structure Fm where
 p:Nat
 j:Nat
 k:Nat
noncomputable def up {α β:Type} (f:α->β):List α->List β
 | []=>[]
 | x::R=>up f R++[f x]
theorem gm {α β:Type} (f:α->β) (R:List α):(up f R).length=R.length:=by
 induction R with
 | nil=>rfl
 | cons x R ih=>exact List.length_append.trans (congrArg (·+1) ih)
theorem Fs {α β γ:Type} (f:α->β) (g:β->γ) (R:List α):(up f R).map g=up (fun x=>g (f x)) R:=by
 induction R with
 | nil=>rfl
 | cons x R ih=>exact List.map_append.trans (congrArg (·++[g (f x)]) ih)
inductive Way (sc:Nat->List Nat):Nat->Nat->Prop
 | one {h c}:c∈sc h->Way sc h c
 | more {h c e}:Way sc h c->e∈sc c->Way sc h e
theorem Way.trans {sc:Nat->List Nat} {a b c:Nat} (h:Way sc a b) (h':Way sc b c):Way sc a c:=by
 induction h' with
 | one e=>exact .more h e
 | more _ e ih=>exact .more ih e
inductive nn (sc:Nat->List Nat):List Nat->Prop
 | nil:nn sc []
 | snoc {blk h}:nn sc blk->(∀ c∈sc h,c∈blk)->nn sc (blk++[h])
inductive pc (sc:Nat->List Nat) (blk:List Nat):List Fm->Nat->Prop
 | nil {v}:pc sc blk [] v
 | cons {p j k R v}:(sc p)[k]?=some v->(∀ c∈(sc p).take k,c∈blk)->pc sc blk R p->pc sc blk (⟨p,j,k+1⟩::R) v
inductive Top (sc:Nat->List Nat) (blk:List Nat):List Fm->Prop
 | nil:Top sc blk []
 | cons {x R}:(∀ c∈(sc x.p).take x.k,c∈blk)->pc sc blk R x.p->Top sc blk (x::R)
theorem pc.mono {sc:Nat->List Nat} {blk blk':List Nat} (hb:∀ c∈blk,c∈blk') {R:List Fm} {v:Nat} (h:pc sc blk R v):pc sc blk' R v:=by
 induction h with
 | nil=>exact .nil
 | cons h1 h2 _ ih=>exact .cons h1 (fun c hc=>hb c (h2 c hc)) ih
theorem pc.top {sc:Nat->List Nat} {blk blk':List Nat} (hb:∀ c∈blk,c∈blk') {R:List Fm} {v:Nat} (h:pc sc blk R v) (hv:v∈blk'):Top sc blk' R:=by
 cases h with
 | nil=>exact .nil
 | cons h1 h2 h3=>exact .cons (fun c hc=>by
   rw [show (sc _).take (_+1)=_ from sO h1] at hc;exact (List.mem_append.mp hc).elim (fun q=>hb c (h2 c q)) (fun q=>List.mem_singleton.mp q▸hv)) (h3.mono hb)
theorem pc.way {sc:Nat->List Nat} {blk:List Nat} {R:List Fm} {v:Nat} (h:pc sc blk R v):∀ c∈up Fm.p R,Way sc c v:=by
 induction h with
 | nil=>exact fun _ hx=>nomatch hx
 | cons h1 _ _ ih=>exact fun y hy=>(List.mem_append.mp hy).elim (fun q=>.more (ih y q) (List.mem_of_getElem? h1)) (fun q=>List.mem_singleton.mp q▸.one (List.mem_of_getElem? h1))
structure Sk (sc:Nat->List Nat) (keys:List Nat) (R:List Fm) (seen blk:List Nat):Prop where
 perm:seen.Perm (blk++up Fm.p R)
 nd:seen.Nodup
 sk:seen ⊆ keys
 topo:nn sc blk
section
variable {sc:Nat->List Nat} {keys:List Nat} {x:Fm} {R:List Fm} {seen blk:List Nat}
theorem Sk.nd2 (h:Sk sc keys R seen blk):(blk++up Fm.p R).Nodup:=h.perm.nodup_iff.mp h.nd
theorem Sk.lenS (h:Sk sc keys R seen blk):seen.length<=keys.length:=List.Nodup.length_le_of_subset h.nd h.sk
theorem Sk.lenR (h:Sk sc keys R seen blk):R.length<=keys.length:=Nat.le_trans (by rw [h.perm.length_eq,List.length_append,gm]; exact Nat.le_add_left ..) h.lenS
theorem Sk.mem (h:Sk sc keys R seen blk) {c:Nat} (hc:c∈up Fm.p R):c∈seen:=h.perm.mem_iff.mpr (List.mem_append_right _ hc)
theorem Cr {y:Fm} (hy:y∈R):y.p∈up Fm.p R:=by
 induction R with
 | nil=>cases hy
 | cons x R ih=>exact List.mem_append.mpr ((List.mem_cons.mp hy).elim (fun e=>.inr (e▸.head _)) fun q=>.inl (ih q))
theorem pA:x.p∈up Fm.p (x::R):=List.mem_append_right _ (.head _)
theorem Sk.not_up (h:Sk sc keys (x::R) seen blk):x.p∉up Fm.p R:=fun q=>(List.nodup_append.mp (List.nodup_append.mp h.nd2).2.1).2.2 _ q _ (.head _) rfl
theorem Sk.pop (h:Sk sc keys (x::R) seen blk) (ht:∀ c∈sc x.p,c∈blk):Sk sc keys R seen (blk++[x.p]):=
 ⟨h.perm.trans (by rw [List.append_assoc]; exact List.Perm.append_left blk List.perm_append_comm),h.nd,h.sk,.snoc h.topo ht⟩
theorem Sk.next (h:Sk sc keys (x::R) seen blk):Sk sc keys ({x with k:=x.k+1}::R) seen blk:=⟨h.perm,h.nd,h.sk,h.topo⟩
theorem Sk.push (h:Sk sc keys R seen blk) {v:Nat} (hv:v∉seen) (hk:v∈keys) (j k:Nat):Sk sc keys (⟨v,j,k⟩::R) (seen++[v]) blk:=
 ⟨(h.perm.append_right [v]).trans (by rw [List.append_assoc]; exact List.Perm.refl _),gy h.nd hv,fun c hc=>(List.mem_append.mp hc).elim (h.sk ·) (fun q=>List.mem_singleton.mp q▸hk),h.topo⟩
end
structure Its (a:Nat) (li:Nat->Nat) (R:List Fm) (tl:List O):Prop where
 it:∀ x∈R,tl[x.j]?=some (.iter (li x.p) x.k)
 bd:∀ x∈R,tl[x.j+1]?=some (.bound "list_iterator.__next__" (a+(x.j+4)))
section
variable {a:Nat} {li:Nat->Nat} {x:Fm} {R:List Fm} {tl:List O}
theorem Its.set (h:Its a li (x::R) tl) (hn:∀ y∈R,li x.p≠li y.p) (o:O):Its a li R (tl.set x.j o):=
 ⟨fun y hy=>aE (h.it y (.tail _ hy)) (cL (h.it x (.head _)) (h.it y (.tail _ hy)) fun e=>hn y hy (O.iter.inj e).1),
  fun y hy=>aE (h.bd y (.tail _ hy)) (cL (h.it x (.head _)) (h.bd y (.tail _ hy)) fun e=>nomatch e)⟩
theorem Its.cons (h:Its a li R tl) (hi:tl[x.j]?=some (.iter (li x.p) x.k)) (hb:tl[x.j+1]?=some (.bound "list_iterator.__next__" (a+(x.j+4)))):Its a li (x::R) tl:=
 ⟨List.forall_mem_cons.mpr ⟨hi,h.it⟩,List.forall_mem_cons.mpr ⟨hb,h.bd⟩⟩
theorem Its.next (h:Its a li (x::R) tl) (hn:∀ y∈R,li x.p≠li y.p):Its a li ({x with k:=x.k+1}::R) (tl.set x.j (.iter (li x.p) (x.k+1))):=
 (h.set hn _).cons (eC (h.it x (.head _))) (aE (h.bd x (.head _)) (cL (h.it x (.head _)) (h.bd x (.head _)) fun e=>nomatch e))
theorem Its.push (h:Its a li R tl) (v:Nat):Its a li (⟨v,tl.length,0⟩::R) (tl++[.iter (li v) 0]++[.bound "list_iterator.__next__" (a+(tl.length+4))]):=
 Its.cons ⟨fun y hy=>Old.app _ _ _ _ (Old.app _ _ _ _ (h.it y hy)),fun y hy=>Old.app _ _ _ _ (Old.app _ _ _ _ (h.bd y hy))⟩ jk
  (have e:(tl++[O.iter (li v) 0]).length=tl.length+1:=List.length_append
  e▸d6)
end
noncomputable def F1 (sc:Nat->List Nat):List Fm->Nat
 | []=>0
 | x::R=>((sc x.p).length - x.k)+F1 sc R
theorem Ca {K s b r:Nat} (h:s+1<=K) (hb:b<=99):(K - (s+1)) * 100+(b+r) < (K - s) * 100+r:=by
 rw [show K - s=K - (s+1)+1 from (Nat.add_sub_add_right K 1 s).symm.trans (Nat.sub_add_comm h),Nat.succ_mul,Nat.add_assoc];exact Nat.add_lt_add_left (Nat.add_lt_add_right (Nat.lt_succ_of_le hb) r) _
theorem AY {K l k r:Nat} (h:k < l):K+(l - (k+1)+r) < K+(l - k+r):=Nat.add_lt_add_left (Nat.add_lt_add_right (Nat.sub_succ_lt_self _ _ h) _) _
noncomputable def cells (a:Nat) (R:List Fm) (seen:List Nat) (ep:Nat) (tl:List O):List O:=
 .list (up (fun x=>.py (nE x.p)) R)::.list (up (fun x=>.obj (a+(x.j+5))) R)::.set (seen.map fun (h:Nat)=>kE h)::.dict ep (gv (up Fm.p R))::tl
theorem BE {σ τ:List O} {i:Nat} {o:O}:(σ++τ).set (σ.length+i) o=σ++τ.set i o:=by rw [List.set_append_right _ _ (Nat.le_add_right ..),Nat.add_sub_cancel_left]
theorem ia {β:Type} {m:Option (Except Value β×ASt)} {r:Except Value β} {ρ:aq} {σ τ:List O} {i:Nat} {o:O} (h:m=some (r,⟨ρ,(σ++τ).set (σ.length+i) o⟩)):m=some (r,⟨ρ,σ++τ.set i o⟩):=BE (i:=i)▸h
variable {ab:Int×Int}
theorem ul (ρ:aq) (σ:List O):eb (pure []) ⟨ρ,σ⟩=some (.ok (.obj σ.length),⟨ρ,σ++[.list []]⟩):=rfl
theorem C6 (ρ:aq) (σ:List O):((pure [])>>=tj) ⟨ρ,σ⟩=some (.ok (.obj σ.length),⟨ρ,σ++[.set []]⟩):=rfl
theorem Di (ρ:aq) (σ:List O):uH (.dict 0 []) ⟨ρ,σ⟩=some (.ok (.obj σ.length),⟨ρ,σ++[.dict 0 []]⟩):=rfl
theorem yL {σ:List O} {n:Nat} {o:O} {ds:List D} {f:AM D} {st:ASt} {ρ:aq} (hf:f st=some (.ok (.obj n),⟨ρ,σ⟩)) (h:σ[n]?=some o) (e:ym o=some ds):(f>>=aM) st=some (.ok (ds,fun _=>gx n o),⟨ρ,σ⟩):=
 bnd hf (cM (by
  have q:Bt σ (.obj n)=some (ds,fun _=>gx n o):=by
   show (σ[n]?.bind fun o=>(ym o).map fun ds=>((ds,fun _=>gx n o):List D×Chk))=_;rw [h,Option.bind_some,e];rfl
  unfold xW;rw [q]))
theorem yP {σ:List O} {n ep:Nat} {kvs:List (KK×D)} {f:AM D} {st:ASt} {ρ:aq} (hf:f st=some (.ok (.obj n),⟨ρ,σ⟩)) (h:σ[n]?=some (.dict ep kvs)):(f>>=aM) st=some (.ok (kvs.map fun (kv:KK×D)=>kv.1.d,fun _=>gx n (.dict ep kvs)),⟨ρ,σ⟩):=yL hf h rfl
theorem kZ {n:Nat} {o:O} {st:ASt} (h:st.σ[n]?=some o):gx n o st=some (.ok (),st):=by
 unfold gx;rw [if_pos h]
theorem wT {n:Nat} {ds:List D} {f:AM D} {st:ASt} {ρ:aq} {σ:List O} (hf:f st=some (.ok (.obj n),⟨ρ,σ⟩)) (h:σ[n]?=some (.list ds)):((ao f (pure []))>>=ki) st=some (.ok (.obj σ.length),⟨ρ,σ++[.iter n 0]⟩):=bnd (dL hf) (uO h rfl)
theorem xA {n:Nat} {q k:Nat} {f:AM D} {st:ASt} {ρ:aq} {σ:List O} (hf:f st=some (.ok (.obj n),⟨ρ,σ⟩)) (h:σ[n]?=some (.iter q k)):kl f st=some (.ok (.obj σ.length),⟨ρ,σ++[.bound "list_iterator.__next__" n]⟩):=bnd hf (uO h rfl)
theorem z5 {b n q k:Nat} {ds:List D} {f:AM D} {st:ASt} {ρ:aq} {σ:List O} {r:Option (Except Value D×ASt)} (hf:f st=some (.ok (.obj b),⟨ρ,σ⟩)) (h:σ[b]?=some (.bound "list_iterator.__next__" n)) (h2:σ[n]?=some (.iter q k)) (h3:σ[q]?=some (.list ds))
  (e:some (match ds[k]? with
   | some d=>(Except.ok d,ASt.mk ρ (σ.set n (.iter q (k+1))))
   | none=>(.error (.type "StopIteration"),⟨ρ,σ.set n .dead⟩))=r):fy f (pure []) st=r:=bnd hf (bnd rfl (by
 show (σ[b]?.bind O.bound?).bind _=_;rw [h];show (if "list_iterator.__next__" = "list.append" then cN (.obj n) [] ⟨ρ,σ⟩ else if "list_iterator.__next__" = "list_iterator.__next__" /\([]:List D)=[] then yA n ⟨ρ,σ⟩ else none)=_;rw [if_neg (by decide),if_pos ⟨rfl,rfl⟩];show (σ[n]?.bind O.iter?).bind _=_;rw [h2];show (σ[q]?.bind O.list?).map _=_;rw [h3];exact e))
theorem Dw {f g:AM D} {g':AM aj} {o i:D} {st st1 st2 st3:ASt} {P:Except Value aj->ASt->Prop} (hf:f st=some (.ok o,st1)) (hg:g st1=some (.ok i,st2)) (hd:l9 o i st2=some (.ok (),st3)) (h:Out (g' st3) P):Out (ak (xM f g) g' st) P:=aH (Out.of (bnd hf (bnd hg (bnd hd rfl))) (aO.mpr h))
noncomputable def Hc (σ0:List O) (sc:Nat->List Nat) (keys:List Nat) (r:Except Value aj) (st':ASt):Prop:=
 Old σ0 st'.σ/\((r=.ok (.ret (.py .none))/\∃ blk,nn sc blk/\blk.Nodup/\∀ h,h∈blk↔h∈keys)\/(∃ p ps,r=.ok (.ret (.py (.list (p::ps))))/\(p::ps).length<=1000/\∃ v∈keys,Way sc v v))
noncomputable def AT (s d a:Nat):aq:=[("self",.obj s),("n2i",.obj d),("stack",.obj (a+0)),("itstack",.obj (a+1)),("seen",.obj (a+2)),("node2stacki",.obj (a+3))]
noncomputable def nN (s d a v:Nat):aq:=put "node" (.py (nE v)) (AT s d a)
inductive StA (σ0:List O) (s d:Nat) (li:Nat->Nat) (sc:Nat->List Nat) (keys hs:List Nat) (m:Nat):ASt->Prop
 | mk {v R seen blk ep tl}:v∈keys->Its σ0.length li R tl->Sk sc keys R seen blk->pc sc blk R v->m=(keys.length - seen.length) * 100+F1 sc R->(∀ h∈hs,h∈seen++[v])->StA σ0 s d li sc keys hs m ⟨nN s d σ0.length v,σ0++cells σ0.length R seen ep tl⟩
inductive StB (σ0:List O) (s d:Nat) (li:Nat->Nat) (sc:Nat->List Nat) (keys hs:List Nat) (m n:Nat):ASt->Prop
 | mk {v R seen blk ep tl}:Its σ0.length li R tl->Sk sc keys R seen blk->Top sc blk R->(keys.length - seen.length) * 100+F1 sc R<=m->(∀ h∈hs,h∈seen)->n=R.length->StB σ0 s d li sc keys hs m n ⟨nN s d σ0.length v,σ0++cells σ0.length R seen ep tl⟩
inductive StO (σ0:List O) (s d:Nat) (sc:Nat->List Nat) (keys hs:List Nat):ASt->Prop
 | mk {ρ seen blk ep tl}:(∀ v:Nat,put "node" (.py (nE v)) ρ=nN s d σ0.length v)->Sk sc keys [] seen blk->(∀ h∈hs,h∈seen)->StO σ0 s d sc keys hs ⟨ρ,σ0++cells σ0.length [] seen ep tl⟩
section
variable {σb σ0:List O} {s d:Nat} {ni li:Nat->Nat} {keys:List Nat} {np:Nat->Int} {sc:Nat->List Nat} {r:D}
theorem Sk.li_ne (T:bQ σb σ0 s d ni li keys np sc r ab) {x:Fm} {R:List Fm} {seen blk:List Nat} (h:Sk sc keys (x::R) seen blk):∀ y∈R,li x.p≠li y.p:=fun _ hy e=>
 h.not_up (T.inj _ (h.sk (h.mem pA)) _ (h.sk (h.mem (Cr (.tail _ hy)))) e▸Cr hy)
theorem DK {α:Type} (l:List α) (a:α):(l++[a]).isEmpty=false:=by cases l <;> rfl
theorem Eg (T:bQ σb σ0 s d ni li keys np sc r ab) (hk:keys.length<=50) {v:Nat} {x:Fm} {R:List Fm} {seen blk:List Nat} {ep:Nat} {tl:List O} (I:Its σ0.length li (x::R) tl) (S:Sk sc keys (x::R) seen blk) {P:Except Value aj->ASt->Prop}
  (h1:∀ c,(sc x.p)[x.k]?=some c->P (.ok .brk) ⟨nN s d σ0.length c,σ0++cells σ0.length ({x with k:=x.k+1}::R) seen ep (tl.set x.j (.iter (li x.p) (x.k+1)))⟩)
  (h2:(sc x.p)[x.k]?=none->P (.ok .next) ⟨nN s d σ0.length v,σ0++cells σ0.length R seen (ep+1) (tl.set x.j .dead)⟩):
  Out (p9 (ak (bG "node" (fy (bu (ad "itstack") (pure (.py (.int (-1))))) (pure [])))
 (ak (pure .brk)
 (pure .next))) (.type "StopIteration") (ak (xM (ad "node2stacki") (bN "list" (ad "stack") (pure []) rt))
 (ak (cv (bN "list" (ad "itstack") (pure []) rt))
 (pure .next))) ⟨nN s d σ0.length v,σ0++cells σ0.length (x::R) seen ep tl⟩) P:=by
 have hl:R.length+1<=ar:=Nat.le_trans S.lenR (Nat.le_trans hk (by decide));have e1:=CT (st:=⟨nN s d σ0.length v,σ0++cells σ0.length (x::R) seen ep tl⟩) (ah (v:= "itstack") rfl) (bC (i:=1) rfl) (by rw [gm]; exact hl);have e2:=fun r=>z5 (r:=r) e1 (bC (i:=x.j+5) (I.bd x (.head _))) (bC (i:=x.j+4) (I.it x (.head _))) (Old.app _ _ _ _ (T.succ x.p (S.sk (S.mem pA))));refine tW ?_;cases hc:(sc x.p)[x.k]? with
 | some c=>
  have e3:fy (bu (ad "itstack") (pure (.py (.int (-1))))) (pure []) _=some (.ok (.py (nE c)),⟨nN s d σ0.length v,σ0++cells σ0.length ({x with k:=x.k+1}::R) seen ep (tl.set x.j (.iter (li x.p) (x.k+1)))⟩):=ia (i:=x.j+4) (e2 _ (by rw [List.getElem?_map,hc]; rfl));refine bk e3 (aH (Out.of (r:=Except.ok aj.brk) rfl (tU.mpr (h1 c hc))))
 | none=>
  refine aH (Out.of (r:=Except.error (.type "StopIteration")) (FX (ia (e2 _ (by rw [List.getElem?_map,hc]; rfl)))) (sI.mpr ⟨rfl,?_⟩));refine Dw (ah rfl) (dR (ah rfl) (eX (bC (i:=0) rfl)) rfl (ia (B2 (bC (i:=0) rfl) (by rw [gm]; exact hl)))) (ia (i:=3) (Fg (bC (i:=3) rfl) (k:=kE x.p) rfl (by rw [sF,gm]; exact hl) (by rw [mA]; obtain ⟨j,hj⟩:=nf (pA (x:=x) (R:=R)); rw [hj]; rfl))) ?_;rw [show n4 (gv (up Fm.p (x::R))) (kE x.p)=gv (up Fm.p R) from wf S.not_up];exact eG (dR (ah rfl) (eX (bC (i:=1) rfl)) rfl (ia (B2 (bC (i:=1) rfl) (by rw [gm]; exact hl)))) (aw ⟨⟨_,rfl⟩,h2 hc⟩)
theorem zb (T:bQ σb σ0 s d ni li keys np sc r ab) (hk:keys.length<=50) (hsc:∀ h∈keys,∀ c∈sc h,c∈keys) {hs:List Nat} {m n:Nat} {P:Except Value aj->ASt->Prop} {st:ASt} (hB:StB σ0 s d li sc keys hs m n st)
  (h1:∀ m' st',m' < m->StA σ0 s d li sc keys hs m' st'->P (.ok .next) st') (h2:∀ st',StO σ0 s d sc keys hs st'->P (.ok .brk) st'):
  Out ((eW (iz (ad "stack")) (ak (p9 (ak (bG "node" (fy (bu (ad "itstack") (pure (.py (.int (-1))))) (pure [])))
 (ak (pure .brk)
 (pure .next))) (.type "StopIteration") (ak (xM (ad "node2stacki") (bN "list" (ad "stack") (pure []) rt))
 (ak (cv (bN "list" (ad "itstack") (pure []) rt))
 (pure .next))))
 (pure .next)) (ak (pure .brk)
 (pure .next)) d5) st) P:=by
 have hn:n < d5:=by
  cases hB with
  | mk _ S _ _ _ e=>exact e▸Nat.lt_of_le_of_lt S.lenR (Nat.lt_of_le_of_lt hk (by decide))
 refine nz (StB σ0 s d li sc keys hs m) (fun n st hB=>?_) d5 n st hB hn;cases hB with
 | @mk v R seen blk ep tl I S hR hm hh e=>
  refine ⟨_,_,Ep (ah rfl) (bC (i:=0) rfl) (by rw [gm]; exact Nat.le_trans S.lenR (Nat.le_trans hk (by decide))),fun ht=>?_,fun ht=>?_⟩
  .cases hR with
   | nil=>cases ht
   | @cons x R hj hp=>
    refine aH (Eg T hk I S (fun c hc=>tU.mpr (BM.mpr (h1 _ _ ?_ (.mk (hsc _ (S.sk (S.mem pA)) _ (List.mem_of_getElem? hc)) (I.next (S.li_ne T)) S.next (.cons hc hj hp) rfl fun h q=>List.mem_append_left _ (hh h q))))) fun hc=>aO.mpr (aw (cS.mpr ⟨R.length,e▸Nat.lt_succ_self _,?_⟩)))
    .exact Nat.lt_of_lt_of_le (AY (List.getElem?_eq_some_iff.mp hc).1) hm
    .have ha:∀ c∈sc x.p,c∈blk:=List.take_of_length_le (List.getElem?_eq_none_iff.mp hc)▸hj;exact .mk (I.set (S.li_ne T) _) (S.pop ha) (hp.top (fun c q=>List.mem_append_left _ q) (List.mem_append_right _ (.head _))) (Nat.le_trans (Nat.add_le_add_left (Nat.le_add_left ..) _) hm) hh rfl
  .cases R with
   | nil=>exact aH (Out.of (r:=Except.ok aj.brk) rfl (tU.mpr (h2 _ (.mk (fun _=>rfl) S hh))))
   | cons x R=>
    rw [show (up (fun x=>D.py (nE x.p)) (x::R)).isEmpty=false from DK _ _] at ht;cases ht
end
variable {ab:Int×Int}
theorem m0 {seen:List Nat} {h:Nat}:(kE h∈seen.map fun (h:Nat)=>kE h)↔h∈seen:=
 ⟨fun q=>let ⟨_,hk,e⟩:=List.mem_map.mp q; jQ e▸hk,fun hh=>List.mem_map.mpr ⟨h,hh,rfl⟩⟩
theorem Cd {σ:List O} {n k:Nat} {R:List Fm} {f ga:AM D} {st:ASt} {ρ:aq} (hf:f st=some (.ok (.obj n),⟨ρ,σ⟩)) (h:σ[n]?=some (.list (up (fun x=>.py (nE x.p)) R))) (hg:ga ⟨ρ,σ⟩=some (.ok (.py (.int (k:Int))),⟨ρ,σ⟩)) (hl:R.length<=ar):cJ f ga (pure (.py .none)) st=some (.ok (.py (.list ((up (fun x=>nE x.p) R).drop k))),⟨ρ,σ⟩):=
 (pF hf hg rfl (e:=.py (.list (lz (up (fun x=>nE x.p) R) (some (k:Int)) none))) (by
  have e:viewP σ (.obj n)=some (.list (up (fun x=>nE x.p) R)):=by
   show vb σ[n]?=_;rw [h];show (dk (up (fun x=>.py (nE x.p)) R)).map _=_;rw [← Fs,lh];rfl
  unfold nU;rw [e];exact if_pos (by rw [gm]; exact hl))).trans (by rw [nc])
theorem mz {m:AM D} {ρ:aq} {σ τ:List O} {o:O} (h:m ⟨ρ,σ++τ⟩=some (.ok (.obj (σ++τ).length),⟨ρ,(σ++τ)++[o]⟩)):m ⟨ρ,σ++τ⟩=some (.ok (.obj (σ.length+τ.length)),⟨ρ,σ++(τ++[o])⟩):=by
 rw [List.length_append,List.append_assoc] at h;exact h
section
variable {σb σ0:List O} {s d:Nat} {ni li:Nat->Nat} {keys:List Nat} {np:Nat->Int} {sc:Nat->List Nat} {r:D}
theorem AO (T:bQ σb σ0 s d ni li keys np sc r ab) (hk:keys.length<=50) {v:Nat} {R:List Fm} {seen blk:List Nat} {ep:Nat} {tl:List O} (S:Sk sc keys R seen blk) (vk:v∈keys) (hs:v∉seen) {P:Except Value aj->ASt->Prop}
  (h:∀ ep',P (.ok .next) ⟨nN s d σ0.length v,σ0++cells σ0.length (⟨v,tl.length,0⟩::R) (seen++[v]) ep' (tl++[.iter (li v) 0]++[.bound "list_iterator.__next__" (σ0.length+(tl.length+4))])⟩):
  Out ((ak (cv (bN "set" (ad "seen") (ao (ad "node") (pure [])) mJ))
 (ak (cv (bN "list" (ad "itstack") (ao (kl ((ao (iM aG 2 (bu (ad "n2i") (ad "node"))) (pure []))>>=ki)) (pure [])) cN))
 (ak (bF ((ao (ad "stack") (pure []))>>=gQ) [(gR (ad "node2stacki") (ad "node"))])
 (ak (cv (bN "list" (ad "stack") (ao (ad "node") (pure [])) cN))
 (pure .next))))) ⟨nN s d σ0.length v,σ0++cells σ0.length R seen ep tl⟩) P:=by
 have hl:∀ n,n<=keys.length->n<=ar:=fun n q=>Nat.le_trans q (Nat.le_trans hk (by decide));obtain ⟨ep0,hd0⟩:=T.dict;refine eG (dR (ah rfl) (DP (bC (i:=2) rfl)) (dL (ah rfl)) (ia (i:=2) (Aa (k:=kE v) (bC (i:=2) rfl) rfl (fun q=>hs (m0.mp q)) (by rw [List.length_map]; exact Nat.le_trans S.lenS (Nat.le_trans hk (by decide)))))) ?_;rw [show (seen.map fun (h:Nat)=>kE h)++[kE v]=(seen++[v]).map fun (h:Nat)=>kE h from (List.map_append (l₂:=[v])).symm];show Out ((ak _ _) ⟨nN s d σ0.length v,σ0++cells σ0.length R (seen++[v]) ep tl⟩) P;have e2:=mz (wT (slot_of (i:=2) (io (st:=⟨nN s d σ0.length v,σ0++cells σ0.length R (seen++[v]) ep tl⟩) (ah (v:= "n2i") rfl) (ah (v:= "node") rfl) (Old.app _ _ _ _ hd0) (e:=.obj (ni v)) (by rw [ig,if_pos vk])) (Old.app _ _ _ _ (T.info v vk)) rfl rfl) (Old.app _ _ _ _ (T.succ v vk)));have e3:=xA e2 (bC d6);rw [List.length_append,List.append_assoc,show (cells σ0.length R (seen++[v]) ep tl++[O.iter (li v) 0]).length=tl.length+5 from List.length_append] at e3;refine eG (dR (ah rfl) (eX (bC (i:=1) rfl)) (dL e3) (ia (i:=1) (fT (bC (i:=1) rfl) (by rw [gm]; exact hl _ S.lenR)))) ?_;refine iT (BG (ah rfl) (bC (i:=0) rfl) (by rw [gm]; exact hl _ S.lenR)) (ah rfl) (ah rfl) (ia (i:=3) (gh (bC (i:=3) rfl) (k:=kE v) rfl (by rw [sF,gm]; exact hl _ S.lenR))) ?_;rw [qV _ (qJ fun q=>hs (S.mem q)),gm,← gm Fm.p R,← qD];exact eG (dR (ah rfl) (eX (bC (i:=0) rfl)) (dL (ah rfl)) (ia (i:=0) (fT (bC (i:=0) rfl) (by rw [gm]; exact hl _ S.lenR)))) (aw (h _))
inductive EN (σ0:List O) (sc:Nat->List Nat) (keys:List Nat) (r:Except Value aj) (st':ASt):Prop
 | mk (p:PyData) (ps:List PyData) (v:Nat):r=.ok (.ret (.py (.list (p::ps))))->(p::ps).length<=1000->v∈keys->Way sc v v->Old σ0 st'.σ->EN σ0 sc keys r st'
theorem t4 {α:Type} (l:List α) (a:α):∃ p ps,l++[a]=p::ps:=by
 cases l with
 | nil=>exact ⟨_,_,rfl⟩
 | cons p ps=>exact ⟨_,_,rfl⟩
theorem BJ (T:bQ σb σ0 s d ni li keys np sc r ab) (hk:keys.length<=50) (hsc:∀ h∈keys,∀ c∈sc h,c∈keys) (hb:∀ h,(sc h).length<=99) {hs:List Nat} {m:Nat} {st:ASt} {P:Except Value aj->ASt->Prop} (hA:StA σ0 s d li sc keys hs m st)
  (h1:∀ m' st',m' < m->StA σ0 s d li sc keys hs m' st'->P (.ok .next) st') (h2:∀ st',StO σ0 s d sc keys hs st'->P (.ok .brk) st') (h3:∀ r st',EN σ0 sc keys r st'->P r st'):
  Out ((ak (ifA (aJ .In (ad "node") (ad "seen")) (ak (ifA (aJ .In (ad "node") (ad "node2stacki")) (ak (ft (bO .Add (cJ (ad "stack") (bu (ad "node2stacki") (ad "node")) (pure (.py .none))) (dl (ao (ad "node") (pure [])))))
 (pure .next)) (pure .next))
 (pure .next)) (ak (cv (bN "set" (ad "seen") (ao (ad "node") (pure [])) mJ))
 (ak (cv (bN "list" (ad "itstack") (ao (kl ((ao (iM aG 2 (bu (ad "n2i") (ad "node"))) (pure []))>>=ki)) (pure [])) cN))
 (ak (bF ((ao (ad "stack") (pure []))>>=gQ) [(gR (ad "node2stacki") (ad "node"))])
 (ak (cv (bN "list" (ad "stack") (ao (ad "node") (pure [])) cN))
 (pure .next))))))
 (ak (eW (iz (ad "stack")) (ak (p9 (ak (bG "node" (fy (bu (ad "itstack") (pure (.py (.int (-1))))) (pure [])))
 (ak (pure .brk)
 (pure .next))) (.type "StopIteration") (ak (xM (ad "node2stacki") (bN "list" (ad "stack") (pure []) rt))
 (ak (cv (bN "list" (ad "itstack") (pure []) rt))
 (pure .next))))
 (pure .next)) (ak (pure .brk)
 (pure .next)) d5)
 (pure .next))) st) P:=by
 have inner:∀ {n st'},StB σ0 s d li sc keys hs m n st'->_:=fun {n st'} hB=>aH (zb (P:=Sq (pure .next) P) T hk hsc hB (fun m' st' hm hA=>aO.mpr (aw (h1 m' st' hm hA))) fun st' hO=>tU.mpr (h2 st' hO));cases hA with
 | @mk v R seen blk ep tl vk I S hp hm hh=>
  refine aH (du (B7 (ah rfl) (ah rfl) (bC (i:=2) rfl) (k:=kE v) rfl) (fun ht=>?_) fun ht=>?_)
  .have hs:v∈seen:=m0.mp (of_decide_eq_true ht);refine aH (du (yr (ah rfl) (ah rfl) (bC (i:=3) rfl) (k:=kE v) rfl) (fun ht=>?_) fun ht=>?_)
   .have hvR:v∈up Fm.p R:=Decidable.byContradiction fun hn=>by
     rw [mA,qJ hn] at ht;cases ht
    obtain ⟨j,hj⟩:=nf hvR;have hl:((up (fun x=>nE x.p) R).drop j).length<=50:=Nat.le_trans (List.length_drop▸Nat.sub_le _ _) (by rw [gm]; exact Nat.le_trans S.lenR hk);have e2:=kz (Cd (st:=⟨nN s d σ0.length v,σ0++cells σ0.length R seen ep tl⟩) (ah (v:= "stack") rfl) (bC (i:=0) rfl) (io (ah (v:= "node2stacki") rfl) (ah (v:= "node") rfl) (bC (i:=3) rfl) hj) (Nat.le_trans S.lenR (Nat.le_trans hk (by decide)))) (ll (ps:=[nE v]) (dL (ah (v:= "node") rfl)) (show 1<=ar by decide)) (Nat.le_trans (Nat.add_le_add_right hl 1) (by decide));obtain ⟨p,ps,e⟩:=t4 ((up (fun x=>nE x.p) R).drop j) (nE v);refine eF e2 (m4.mpr (m4.mpr (h3 _ _ (.mk p ps v (by rw [e]) ?_ vk (hp.way v hvR) (Old.app _ _)))));rw [← e,List.length_append];exact Nat.le_trans (Nat.add_le_add_right hl 1) (by decide)
   .have hvb:v∈blk:=(List.mem_append.mp (S.perm.mem_iff.mp hs)).elim id fun h=>by
     obtain ⟨j,hj⟩:=nf h;rw [mA,hj] at ht;cases ht
    exact aw (aO.mpr (aw (aO.mpr (inner (.mk I S (hp.top (fun _ q=>q) hvb) (Nat.le_of_eq hm.symm) (fun h q=>(List.mem_append.mp (hh h q)).elim id fun q=>List.mem_singleton.mp q▸hs) rfl)))))
  .have hs:v∉seen:=fun q=>of_decide_eq_false ht (m0.mpr q);have S2:=S.push hs vk tl.length 0;refine AO T hk S vk hs fun ep'=>aO.mpr (inner (.mk (I.push v) S2 (.cons (fun _ q=>nomatch q) hp) (Nat.le_of_lt (hm▸?_)) hh rfl));rw [List.length_append];exact Ca (by have:=S2.lenS; rwa [List.length_append] at this) (Nat.le_trans (Nat.sub_le _ _) (hb v))
theorem Ct (T:bQ σb σ0 s d ni li keys np sc r ab) (hk:keys.length<=50) (hsc:∀ h∈keys,∀ c∈sc h,c∈keys) (hb:∀ h,(sc h).length<=99):
  Out (bW ⟨[("self",.obj s)],σ0⟩) (Hc σ0 sc keys):=by
 have hi:=T.inst;obtain ⟨ep0,hd0⟩:=T.dict;refine bk (dS (ah rfl) hi (d:=.obj d) rfl rfl) ?_;refine bk (ul _ _) (bk (mz (ul _ _)) (bk (mz (C6 _ _)) (bk (mz (Di _ _)) ?_)));show Out ((ak _ _) ⟨AT s d σ0.length,σ0++cells σ0.length [] [] 0 []⟩) _;refine dF keys (fun (h:Nat)=>.py (nE h)) (StO σ0 s d sc keys) (by
  have:=yP (st:=⟨AT s d σ0.length,σ0++cells σ0.length [] [] 0 []⟩) (ah (v:= "n2i") rfl) (Old.app _ _ _ _ hd0);rw [List.map_map] at this;exact this) (fun ys st h k=>?_) (.mk (fun _=>rfl) (blk:=[]) ⟨.refl _,.nil,fun _ h=>(nomatch h),.nil⟩ fun _ h=>nomatch h) ?_ ?_
 .cases h with
  | mk _ _ _=>exact kZ (Old.app _ _ _ _ hd0)
 .intro ys h0 zs st hx h;have h0k:h0∈keys:=hx▸List.mem_append_right _ (.head _);cases h with
  | @mk ρ seen blk ep tl V S hh=>
   refine dH (st1:=⟨put "node" (.py (nE h0)) ρ,σ0++cells σ0.length [] seen ep tl⟩) rfl ?_;rw [V];refine aH (du (B7 (ah rfl) (ah rfl) (bC (i:=2) rfl) (k:=kE h0) rfl) (fun ht=>?_) fun ht=>?_)
   .refine aH (Out.of (r:=Except.ok aj.cont) rfl (yN.mpr (yN.mpr (Dc.mpr (.mk (fun _=>rfl) S fun h q=>(List.mem_append.mp q).elim (hh h) fun q=>List.mem_singleton.mp q▸m0.mp (of_decide_eq_true ht))))))
   .refine aw (aO.mpr (aH (nz (StA σ0 s d li sc keys (ys++[h0])) (fun m st hA=>⟨true,_,rfl,fun _=>BJ T hk hsc hb hA (fun m' st' hm hA=>cS.mpr ⟨m',hm,hA⟩) (fun st' hO=>BM.mpr (aO.mpr (aw (cS.mpr hO)))) fun r st' q=>?_,fun h=>nomatch h⟩) d5 ((keys.length - seen.length) * 100) _ (.mk (v:=h0) h0k ⟨fun _ h=>(nomatch h),fun _ h=>nomatch h⟩ S .nil rfl fun h q=>(List.mem_append.mp q).elim (fun q=>List.mem_append_left _ (hh h q)) fun q=>List.mem_append_right _ q) ?_)))
    .obtain ⟨p,ps,v,rfl,q1,q2,q3,q4⟩:=q;exact A6.mpr (m4.mpr (A6.mpr (m4.mpr ⟨q4,.inr ⟨p,ps,rfl,q1,v,q2,q3⟩⟩)))
    .show (keys.length - seen.length) * 100 < 10000;exact Nat.lt_of_le_of_lt (Nat.mul_le_mul_right 100 (Nat.le_trans (Nat.sub_le keys.length seen.length) hk)) (show 50 * 100 < 10000 by decide)
 .intro st' h;cases h with
  | @mk ρ seen blk ep tl V S hh=>
   have e:blk++up Fm.p []=blk:=List.append_nil blk;exact eF rfl ⟨Old.app _ _,.inl ⟨rfl,blk,S.topo,e▸S.nd2,fun h=>⟨fun q=>S.sk (S.perm.mem_iff.mpr (List.mem_append_left _ q)),fun q=>e▸S.perm.mem_iff.mp (hh h q)⟩⟩⟩
end
variable {ab:Int×Int}
theorem zm {α:Type} {fs:List String} {v:String} {f:AM (List D×Chk)} {ts:List (AM Bool)} {el:AM D} {st:ASt} {ρ:aq} {σ:List O} (xs:List α) (enc:α->D) (t:α->Bool) (e:α->PyData) {chk:Chk}
  (hit:f st=some (.ok (xs.map enc,chk),⟨ρ,σ⟩)) (hv:v∉fs) (hlen:xs.length<=ar) (hchk:∀ k ρ,chk k ⟨ρ,σ⟩=some (.ok (),⟨ρ,σ⟩))
  (hbody:∀ a∈xs,∀ ρ',Ag fs ρ ρ'->ρ'.lookup v=some (enc a)->ey ts ⟨ρ',σ⟩=some (.ok (t a),⟨ρ',σ⟩)/\(t a=true->el ⟨ρ',σ⟩=some (.ok (.py (e a)),⟨ρ',σ⟩))):
  bf true fs ⟨f,aQ v,ts⟩ [] el st=some (.ok (.obj σ.length),⟨ρ,σ++[.list ((xs.filter t).map fun a=>.py (e a))]⟩):=
 let ⟨_,e2⟩:=vB (tgt:=aQ v) xs enc t (fun a=>D.py (e a)) hlen hchk (fun a ha ρ' hR=>⟨put v (enc a) ρ',rfl,hR.put _ hv,hbody a ha _ (hR.put _ hv) aD⟩) (f:=f)
 t7 hit e2 rfl
structure Rd (σb σ:List O) (keys:List Nat) (li:Nat->Nat) (rl:Nat) (rs:List Nat):Prop where
 at_:σ[rl]?=some (fB rs)
 lo:Fr σb rl
 ne:∀ h∈keys,li h≠rl
theorem C5 {σ:List O} {n ep:Nat} {kvs:List (KK×D)} {f:AM D} {st:ASt} {ρ:aq} (hf:f st=some (.ok (.obj n),⟨ρ,σ⟩)) (h:σ[n]?=some (.dict ep kvs)):(f>>=tY) st=some (.ok (kvs.map fun (kv:KK×D)=>kv.2,fun _=>gx n (.dict ep kvs)),⟨ρ,σ⟩):=bnd hf (cM (by
 show (σ[n]?.bind O.dict?).map _=_;rw [h];rfl))
theorem zH {X:Value} {f:AM (List D)} {g:AM aj} {ds:List D} {st st1:ASt} {P:Except Value aj->ASt->Prop} (hf:f st=some (.ok ds,st1)) (hl:ds.length<=ar) (h:P (.error X) st1):Out (ak (fW X f) g st) P:=aH (Out.of (r:=Except.error X) (bnd hf (by rw [if_pos hl]; rfl)) (sI.mpr h))
theorem Bn {f:AM D} {st st1:ASt} (hf:f st=some (.ok (.py .none),st1)):iz f st=some (.ok false,st1):=sU hf rfl
theorem zo {f:AM D} {ps:List PyData} {st st1:ASt} (hf:f st=some (.ok (.py (.list ps)),st1)) (hl:ps.length<=ar):iz f st=some (.ok (!ps.isEmpty),st1):=sU hf (by
 show (if (ps.map D.py).length<=ar then some (!(ps.map D.py).isEmpty) else none)=_;rw [List.length_map,if_pos hl,List.isEmpty_map])
section
variable {σb σ:List O} {s d:Nat} {ni li:Nat->Nat} {keys:List Nat} {np:Nat->Int} {sc:Nat->List Nat} {r:D}
theorem wI (T:bQ σb σ s d ni li keys np sc (.py .none) ab) (hk:keys.length<=50) (hsc:∀ h∈keys,∀ c∈sc h,c∈keys) (hb:∀ h,(sc h).length<=99):
  Out (cE ⟨[("self",.obj s)],σ⟩) fun r st'=>∃ rl,bQ σb st'.σ s d ni li keys np sc (.obj rl) ab/\Rd σb st'.σ keys li rl (keys.filter fun h=>decide (np h=0))/\
   ((r=.ok .next/\∃ blk,nn sc blk/\blk.Nodup/\∀ h,h∈blk↔h∈keys)\/(r=.error (.ref fm)/\∃ v∈keys,Way sc v v)):=by
 have hi:=T.inst;obtain ⟨ep,hd⟩:=T.dict;refine aH (du (lX (dS (ah rfl) hi (d:=.py .none) rfl rfl) rfl (b:=true) rfl) (fun h=>nomatch h) fun _=>aw (aO.mpr ?_));have hval:=C5 (st:=⟨[("self",.obj s)],σ⟩) (dS (nm:= "_node2info") (ah (v:= "self") rfl) hi (d:=.obj d) rfl rfl) hd;rw [List.map_map] at hval
 have hcomp:=zm (fs:=[]) (v:= "i") (ts:=[(aJ .Eq (iM aG 1 (ad "i")) (pure (.py (.int 0))))]) (el:=iM aG 0 (ad "i")) keys (fun h=>.obj (ni h)) (fun h=>decide (np h=0)) (fun (h:Nat)=>nE h) hval (fun h=>nomatch h) (Nat.le_trans hk (by decide)) (fun k ρ=>kZ hd) fun h hh ρ' hA hv=>
  ⟨bnd (xt (slot_of (i:=1) (ah hv) (T.info h hh) rfl rfl) (g:=pure (.py (.int 0))) rfl) (by cases decide (np h=0) <;> rfl),fun _=>slot_of (i:=0) (ah hv) (T.info h hh) rfl rfl⟩
 have T1:=T.later (Old.app σ [fB (keys.filter fun h=>decide (np h=0))]);have hi1:=T1.inst;have T2:=T1.setr (.obj σ.length) ab.1 ab.2;refine dc hcomp (jo (ah rfl) hi1 (show 4<=ar by decide)) ?_
 have R2:Rd σb ((σ++[fB (keys.filter fun h=>decide (np h=0))]).set s (.inst ae (xm d (.obj σ.length) ab.1 ab.2))) keys li σ.length (keys.filter fun h=>decide (np h=0)):=
  ⟨aE d6 (Nat.ne_of_lt (bM hi)),T.old.fresh (Nat.le_refl _),fun h hh=>Nat.ne_of_lt (bM (T.succ h hh))⟩
 show Out ((ak _ _) ⟨[("self",.obj s)],(σ++[fB (keys.filter fun h=>decide (np h=0))]).set s (.inst ae (xm d (.obj σ.length) ab.1 ab.2))⟩) _;generalize (σ++[fB (keys.filter fun h=>decide (np h=0))]).set s (.inst ae (xm d (.obj σ.length) ab.1 ab.2))=σ2 at T2 R2 ⊢;have hi2:=T2.inst;refine je (kO (ah rfl) hi2 (show "_find_cycle" ∉["_node2info", "_ready_nodes", "_npassedout", "_nfinished"] by decide) rfl rfl ((Ct T2 hk hsc hb).mono fun r st' ⟨hold,q⟩=>?_));have T3:=T2.later hold;have R3:Rd σb st'.σ keys li σ.length (keys.filter fun h=>decide (np h=0)):=⟨hold _ _ R2.at_,R2.lo,R2.ne⟩
 rcases q with ⟨rfl,q⟩ | ⟨p,ps,rfl,hpl,q⟩
 .exact aH (du (Bn (ah rfl)) (fun h=>nomatch h) fun _=>aw (aO.mpr (aw ⟨_,T3,R3,.inl ⟨rfl,q⟩⟩)))
 .refine aH (du (zo (ah rfl) (Nat.le_trans hpl (by decide))) (fun _=>?_) fun h=>nomatch h);exact zH (lG rfl (ah rfl)) (show 2<=ar by decide) (sI.mpr ⟨_,T3,R3,.inr ⟨rfl,q⟩⟩)
end
variable {ab:Int×Int}
noncomputable def fS (l:List Nat):PyData:=.tuple (l.map fun (n:Nat)=>nE n)
theorem xB {l:List Nat} {f:AM D} {st st1:ASt} (hf:f st=some (.ok (.py (fS l)),st1)):(f>>=aM) st=some (.ok (l.map fun (n:Nat)=>.py (nE n),fun _=>pure ()),st1):=yw hf
theorem CE {σ:List O} {n:Nat} {ds:List D} {f:AM D} {st:ASt} {ρ:aq} (hf:f st=some (.ok (.obj n),⟨ρ,σ⟩)) (h:σ[n]?=some (.list ds)):(f>>=aM) st=some (.ok (ds,fun _=>gx n (.list ds)),⟨ρ,σ⟩):=yL hf h rfl
theorem wq {σ:List O} {n:Nat} {l:List Nat} {f:AM D} {st:ASt} {ρ:aq} (hf:f st=some (.ok (.obj n),⟨ρ,σ⟩)) (h:σ[n]?=some (fB l)) (hl:l.length<=ar):((ao f (pure []))>>=mi) st=some (.ok (.py (fS l)),⟨ρ,σ⟩):=bnd (dL hf) (by
 have hv:viewL σ (.obj n)=some (l.map fun (n:Nat)=>D.py (nE n)):=by show sG σ[n]?=_; rw [h]; rfl
 have hm:j7 (l.map fun (n:Nat)=>D.py (nE n))=.py (fS l):=by
  unfold j7;rw [fM];rfl
 unfold mi;dsimp only;rw [hv,Option.bind_some,if_pos (by rw [List.length_map]; exact hl),hm])
theorem CC {n:Nat} {es:List D} {ρ:aq} {σ:List O} (h:σ[n]?=some (.list es)) (hl:es.length<=ar):wM (.obj n) [] ⟨ρ,σ⟩=some (.ok (.py .none),⟨ρ,σ.set n (.list [])⟩):=ud h (if_pos hl)
theorem Ek {l:List Nat} {f:AM D} {st st1:ASt} (hf:f st=some (.ok (.py (fS l)),st1)) (hl:l.length<=ar):((ao f (pure []))>>=gQ) st=some (.ok (.py (.int (l.length:Int))),st1):=by
 have:=mO (ds:=(l.map fun (p:Nat)=>nE p).map .py) hf (by rw [List.length_map,List.length_map]; exact hl) rfl
 rwa [List.length_map,List.length_map] at this
section
variable {σb σ:List O} {s d:Nat} {ni li:Nat->Nat} {keys:List Nat} {np:Nat->Int} {sc:Nat->List Nat} {rl:Nat} {rs:List Nat}
theorem Rd.set {σ:List O} (R:Rd σb σ keys li rl rs) {a:Nat} (o:O) (h:a≠rl):Rd σb (σ.set a o) keys li rl rs:=⟨aE R.at_ h,R.lo,R.ne⟩
theorem Rd.neNi (R:Rd σb σ keys li rl rs) (T:bQ σb σ s d ni li keys np sc (.obj rl) ab) {h:Nat} (hh:h∈keys):ni h≠rl:=cL (T.info h hh) R.at_ (fun e=>nomatch e)
theorem Rd.neS (R:Rd σb σ keys li rl rs) (T:bQ σb σ s d ni li keys np sc (.obj rl) ab):s≠rl:=have q:=T.inst; cL q R.at_ (fun e=>nomatch e)
theorem bQ.setrl (T:bQ σb σ s d ni li keys np sc (.obj rl) ab) (R:Rd σb σ keys li rl rs) (rs':List Nat):bQ σb (σ.set rl (fB rs')) s d ni li keys np sc (.obj rl) ab/\Rd σb (σ.set rl (fB rs')) keys li rl rs':=
 have hi:=T.inst
 let ⟨ep,hd⟩:=T.dict
 ⟨⟨T.old.set _ R.lo,aE hi (R.neS T).symm,⟨ep,aE hd (cL R.at_ hd (fun e=>nomatch e))⟩,T.nd,fun k hk=>aE (T.info k hk) (R.neNi T hk).symm,fun k hk=>aE (T.succ k hk) (R.ne k hk).symm,T.inj,T.lo⟩,eC R.at_,R.lo,R.ne⟩
structure GrI (σb:List O) (s d:Nat) (ni li:Nat->Nat) (keys:List Nat) (np:Nat->Int) (sc:Nat->List Nat) (rl:Nat) (rs:List Nat) (ρ:aq) (ys:List Nat) (st:ASt):Prop where
 sm:Sm ["node"] ρ st.ρ
 T:bQ σb st.σ s d ni li keys (fun h=>if h∈ys then -1 else np h) sc (.obj rl) ab
 R:Rd σb st.σ keys li rl rs
theorem DF {ys:List Nat} {h:Nat} {np:Nat->Int}:upd (fun h=>if h∈ys then -1 else np h) h (-1)=fun k=>if k∈ys++[h] then -1 else np k:=by
 funext k
 show (if k=h then (-1:Int) else if k∈ys then -1 else np k)=if k∈ys++[h] then -1 else np k
 by_cases e:k=h
 .rw [if_pos e,if_pos (List.mem_append_right _ (List.mem_singleton.mpr e))]
 .rw [if_neg e];by_cases h2:k∈ys
  .rw [if_pos h2,if_pos (List.mem_append_left _ h2)]
  .rw [if_neg h2,if_neg fun q=>(List.mem_append.mp q).elim h2 fun q=>e (List.mem_singleton.mp q)]
theorem sK (T:bQ σb σ s d ni li keys np sc (.obj rl) ab) (R:Rd σb σ keys li rl rs) (hrs:∀ h∈rs,h∈keys) (hl:rs.length<=100):
  Out (bJ ⟨[("self",.obj s)],σ⟩) fun r st'=>r=.ok (.ret (.py (fS rs)))/\bQ σb st'.σ s d ni li keys (fun h=>if h∈rs then -1 else np h) sc (.obj rl) (ab.1+(rs.length:Nat),ab.2)/\Rd σb st'.σ keys li rl []:=by
 have hi:=T.inst;obtain ⟨ep,hd⟩:=T.dict;have hls:rs.length<=ar:=Nat.le_trans hl (by decide);refine aH (du (qh (dS (ah rfl) hi (d:=.obj rl) rfl rfl) rfl (b:=false) rfl) (fun h=>nomatch h) fun _=>aw (aO.mpr ?_));refine bk (wq (dS (ah rfl) hi (d:=.obj rl) rfl rfl) R.at_ hls) (bk (dS (ah rfl) hi (d:=.obj d) rfl rfl) ?_);have p1:List.lookup "self" (put "n2i" (.obj d) (put "result" (.py (fS rs)) [("self",D.obj s)]))=some (.obj s):=rfl;have p2:List.lookup "result" (put "n2i" (.obj d) (put "result" (.py (fS rs)) [("self",D.obj s)]))=some (.py (fS rs)):=rfl;have p3:List.lookup "n2i" (put "n2i" (.obj d) (put "result" (.py (fS rs)) [("self",D.obj s)]))=some (.obj d):=rfl;generalize put "n2i" (.obj d) (put "result" (.py (fS rs)) [("self",D.obj s)])=ρ2 at p1 p2 p3 ⊢;refine dF (st0:=⟨ρ2,σ⟩) rs (fun (h:Nat)=>.py (nE h)) (GrI σb s d ni li keys np sc rl rs ρ2) (xB (ah p2)) (fun _ _ _ _=>rfl) ⟨.refl _ _,T,R⟩ ?_ ?_
 .rintro ys h zs ⟨ρ,σ1⟩ hx ⟨h1,T1,R1⟩
  have hk:h∈keys:=hrs h (by rw [hx]; exact List.mem_append_right _ (.head _));obtain ⟨ep1,hd1⟩:=T1.dict;have h2:Sm ["node"] ρ2 (put "node" (.py (nE h)) ρ):=h1.put (by decide);exact dc (v:=.py (.int (-1))) rfl (jA (io (ah (h2.get p3 (by decide))) (ah aD) hd1 (e:=.obj (ni h)) (by rw [ig,if_pos hk])) (T1.info h hk)) (aw (cS.mpr ⟨h2,DF▸T1.setnp hk (-1),R1.set _ (R1.neNi T1 hk)⟩))
 .rintro ⟨ρ,σ1⟩ ⟨h1,T1,R1⟩
  have z1:ρ.lookup "self" =some (.obj s):=h1.get p1 (by decide);have z2:ρ.lookup "result" =some (.py (fS rs)):=h1.get p2 (by decide);have hi1:=T1.inst;refine eG (dR (dS (ah z1) hi1 (d:=.obj rl) rfl rfl) (eX R1.at_) rfl (CC R1.at_ (by rw [List.length_map]; exact hls))) ?_;obtain ⟨T2,R2⟩:=T1.setrl R1 [];show Out ((ak _ _) ⟨ρ,σ1.set rl (fB [])⟩) _;generalize σ1.set rl (fB [])=σ2 at T2 R2 ⊢;have hi2:=T2.inst;exact aH (Out.of (vZ (ah z1) hi2 rfl (show 4<=ar by decide) (Ek (ah z2) hls) rfl) (aO.mpr (eF (ah z2) ⟨rfl,T2.setr _ _ _,R2.set _ (R2.neS T2)⟩)))
end
variable {ab:Int×Int}
theorem C0 (a b:Str):(a++b).length=a.length+b.length:=(Array.size_append (xs:=a.cps) (ys:=b.cps))
section
variable {σb σ:List O} {s d:Nat} {ni li:Nat->Nat} {keys:List Nat} {np:Nat->Int} {sc:Nat->List Nat} {rl:Nat} {rs:List Nat}
noncomputable def dn (np:Nat->Int) (h:Nat) (ys:List Nat) (k:Nat):Int:=if k=h then -2 else np k - (ys.count k:Nat)
structure DnI (σb:List O) (s d:Nat) (ni li:Nat->Nat) (keys:List Nat) (np:Nat->Int) (sc:Nat->List Nat) (rl:Nat) (rs:List Nat) (hand:Nat) (ys:List Nat) (σ':List O):Prop where
 T:bQ σb σ' s d ni li keys (dn np hand ys) sc (.obj rl) ab
 R:∃ rs',Rd σb σ' keys li rl rs'/\rs'.length<=rs.length+ys.length/\(∀ h,h∈rs'↔h∈rs\/(1<=np h/\np h<=ys.count h))/\(rs.Nodup->(∀ k∈rs,np k<=0)->rs'.Nodup)
theorem jB {ys:List Nat} {c:Nat}:(ys++[c]).count c=ys.count c+1:=by rw [List.count_append,List.count_singleton_self]
theorem iN {ys:List Nat} {c k:Nat} (hk:k≠c):(ys++[c]).count k=ys.count k:=by rw [List.count_append,List.count_singleton,if_neg (fun e=>hk (eq_of_beq e).symm)]; rfl
theorem EU {np:Nat->Int} {h:Nat}:upd np h (-2)=dn np h []:=by
 funext k
 show (if k=h then (-2:Int) else np k)=if k=h then -2 else np k - ((0:Nat):Int)
 rw [Int.natCast_zero,Int.sub_zero]
theorem GA {np:Nat->Int} {h c:Nat} {ys:List Nat} (hch:c≠h):dn np h ys c=np c - (ys.count c:Nat):=if_neg hch
theorem DX {np:Nat->Int} {h c:Nat} {ys:List Nat} (hch:c≠h):upd (dn np h ys) c (np c - (ys.count c:Nat) - 1)=dn np h (ys++[c]):=by
 funext k
 unfold upd dn;by_cases e:k=c
 .rw [e,if_pos rfl,if_neg hch,jB]; exact Int.sub_sub _ _ _
 .rw [if_neg e,iN e]
theorem xY {x:Int} {n:Nat}:x - (n:Int) - 1=0↔x=((n+1:Nat):Int):=by
 rw [Int.sub_sub];exact Int.sub_eq_zero
theorem wg {np:Nat->Int} {rs rs' ys:List Nat} {c:Nat} (j:∀ k,k∈rs'↔k∈rs\/(1<=np k/\np k<=ys.count k)):
  (np c - (ys.count c:Nat) - 1=0->∀ k,k∈rs'++[c]↔k∈rs\/(1<=np k/\np k<=(ys++[c]).count k))/\(np c - (ys.count c:Nat) - 1≠0->∀ k,k∈rs'↔k∈rs\/(1<=np k/\np k<=(ys++[c]).count k)):=by
 refine ⟨fun hz k=>?_,fun hz k=>?_⟩
 .rw [List.mem_append,j k,List.mem_singleton];by_cases e:k=c
  .rw [e,jB,xY.mp hz];exact ⟨fun _=>.inr ⟨Int.ofNat_le.mpr (Nat.succ_le_succ (Nat.zero_le _)),Int.le_refl _⟩,fun _=>.inr rfl⟩
  .rw [iN e];exact ⟨fun q=>q.elim id fun q=>absurd q e,.inl⟩
 .rw [j k];by_cases e:k=c
  .rw [e,jB];exact or_congr_right (and_congr_right fun _=>⟨fun q=>Int.le_trans q (Int.ofNat_le.mpr (Nat.le_succ _)),fun q=>Int.le_of_lt_add_one (Int.lt_iff_le_and_ne.mpr ⟨q,fun e=>hz (xY.mpr e)⟩)⟩)
  .rw [iN e]
theorem D4 {hand c:Nat} {ys:List Nat} {ρ5 ρ:aq} {P:Except Value aj->ASt->Prop} (hck:c∈keys) (hch:c≠hand) (hl:rs.length+ys.length<=1000) (I:DnI (ab:=ab) σb s d ni li keys np sc rl rs hand ys σ) (u1:ρ5.lookup "n2i" =some (.obj d)) (u3:ρ5.lookup "self" =some (.obj s)) (j1:Sm ["successor", "successor_info"] ρ5 ρ)
  (hP:∀ ρ' σ',Sm ["successor", "successor_info"] ρ5 ρ'->DnI (ab:=ab) σb s d ni li keys np sc rl rs hand (ys++[c]) σ'->P (.ok .next) ⟨ρ',σ'⟩):
  Out (((aQ "successor") (.py (nE c))>>=fun _=>(ak (bG "successor_info" (bu (ad "n2i") (ad "successor")))
 (ak (ko aG 1 .Sub (ad "successor_info") (pure (.py (.int 1))))
 (ak (ifA (aJ .Eq (iM aG 1 (ad "successor_info")) (pure (.py (.int 0)))) (ak (cv (bN "list" (fQ ae "_ready_nodes" (ad "self")) (ao (ad "successor") (pure [])) cN))
 (pure .next)) (pure .next))
 (pure .next))))) ⟨ρ,σ⟩) P:=by
 obtain ⟨T2,rs',R2,j2,j3,j4⟩:=I;obtain ⟨ep2,hd2⟩:=T2.dict;have k1:Sm ["successor", "successor_info"] ρ5 (put "successor" (.py (nE c)) ρ):=j1.put (by decide);have hinf:=T2.info c hck;rw [GA hch] at hinf;have k2:Sm ["successor", "successor_info"] ρ5 (put "successor_info" (.obj (ni c)) (put "successor" (.py (nE c)) ρ)):=k1.put (by decide);have m1:(put "successor_info" (.obj (ni c)) (put "successor" (.py (nE c)) ρ)).lookup "successor" =some (.py (nE c)):=aY aD (by decide);have m2:(put "successor_info" (.obj (ni c)) (put "successor" (.py (nE c)) ρ)).lookup "successor_info" =some (.obj (ni c)):=aD;refine bk (io (ah (k1.get u1 (by decide))) (ah aD) hd2 (e:=.obj (ni c)) (by rw [ig,if_pos hck])) ?_;generalize put "successor_info" (.obj (ni c)) (put "successor" (.py (nE c)) ρ)=ρ7 at k2 m1 m2 ⊢;refine aH (Out.of (u9 (ah m2) hinf rfl rfl rfl) (aO.mpr ?_));have T3:=T2.setnp hck (np c - (ys.count c:Nat) - 1);rw [DX hch] at T3;have R3:=R2.set (niO c (np c - (ys.count c:Nat) - 1) (li c)) (R2.neNi T2 hck);have hinf3:(σ.set (ni c) (niO c (np c - (ys.count c:Nat) - 1) (li c)))[ni c]?=some (niO c (np c - (ys.count c:Nat) - 1) (li c)):=eC hinf;show Out ((ak _ _) ⟨ρ7,σ.set (ni c) (niO c (np c - (ys.count c:Nat) - 1) (li c))⟩) _;generalize σ.set (ni c) (niO c (np c - (ys.count c:Nat) - 1) (li c))=σ3 at T3 R3 hinf3 ⊢;obtain ⟨r1,r2⟩:=wg (c:=c) j3;have hj:rs'.length+1<=rs.length+(ys++[c]).length:=by rw [List.length_append]; exact Nat.succ_le_succ j2
 refine aH (du (xt (slot_of (i:=1) (ah m2) hinf3 rfl rfl) (g:=pure (.py (.int 0))) rfl) (fun hz=>?_) fun hz=>aw (aO.mpr (aw (hP _ _ k2 ⟨T3,rs',R3,Nat.le_of_succ_le hj,r2 (of_decide_eq_false hz),j4⟩))));have hi3:=T3.inst;refine eG (dR (dS (ah (k2.get u3 (by decide))) hi3 (d:=.obj rl) rfl rfl) (eX R3.at_) (dL (ah m1)) (fT R3.at_ (by rw [List.length_map]; exact Nat.le_trans j2 (Nat.le_trans hl (by decide))))) ?_;obtain ⟨T4,R4⟩:=T3.setrl R3 (rs'++[c]);have e7:O.list ((rs'.map fun (n:Nat)=>D.py (nE n))++[.py (nE c)])=fB (rs'++[c]):=by unfold fB; rw [List.map_append]; rfl
 rw [e7];exact aw (aO.mpr (aw (hP _ _ k2 ⟨T4,rs'++[c],R4,by rw [List.length_append]; exact hj,r1 (of_decide_eq_true hz),fun n1 n2=>gy (j4 n1 n2) fun q=>by
  have hz:=of_decide_eq_true hz;rcases (j3 c).mp q with q | q
  .have:=n2 c q; omega
  .omega⟩)))
end
variable {ab:Int×Int}
noncomputable def fJ (sc:Nat->List Nat) (l:List Nat) (h:Nat):Nat:=(l.map fun p=>(sc p).count h).sum
theorem ie (sc:Nat->List Nat) (a:Nat) (b:List Nat) (h:Nat):fJ sc (a::b) h=(sc a).count h+fJ sc b h:=List.sum_cons
theorem mX (sc:Nat->List Nat) (a b:List Nat) (h:Nat):fJ sc (a++b) h=fJ sc a h+fJ sc b h:=by unfold fJ; rw [List.map_append,List.sum_append]
theorem pZ (sc:Nat->List Nat) (h:Nat):fJ sc [] h=0:=rfl
theorem zL {sc:Nat->List Nat} {a b:List Nat} (p:a.Perm b) (h:Nat):fJ sc a h=fJ sc b h:=(p.map _).sum_nat
theorem k8 {sc:Nat->List Nat} {l:List Nat} {h:Nat}:fJ sc l h=0↔∀ p∈l,h∉sc p:=by
 induction l with
 | nil=>exact ⟨fun _ _ q=>(nomatch q),fun _=>rfl⟩
 | cons a l ih=>rw [ie,Nat.add_eq_zero_iff,ih,List.count_eq_zero,List.forall_mem_cons]
theorem wS {sc sc':Nat->List Nat} {l:List Nat} (e:∀ p∈l,sc p=sc' p) (h:Nat):fJ sc l h=fJ sc' l h:=congrArg List.sum (List.map_congr_left fun p hp=>congrArg (List.count h) (e p hp))
theorem w5 {l:List Nat} {n h:Nat}:(l++[n]).count h=l.count h+if h=n then 1 else 0:=by
 by_cases e:h=n
 .rw [if_pos e,e,jB]
 .rw [if_neg e,iN e]; rfl
structure T3.Base (t:T3):Prop where
 nd:t.keys.Nodup
 sc0:∀ h,h∉t.keys->t.sc h=[]
 np0:∀ h,h∉t.keys->t.np h=0
 cl:∀ h c,c∈t.sc h->c∈t.keys
structure T3.Ok (t:T3):Prop extends T3.Base t where
 deg:∀ h,t.np h=fJ t.sc t.keys h
structure T3.Mid (t:T3) (n:Nat) (k:Nat):Prop extends T3.Base t where
 has:n∈t.keys
 deg:∀ h,t.np h=((fJ t.sc t.keys h+if h=n then k else 0:Nat):Int)
theorem jT {keys:List Nat} (h:keys.Nodup) (n:Nat):(dp keys n).Nodup:=by
 unfold dp;by_cases hn:n∈keys
 .rw [if_pos hn]; exact h
 .rw [if_neg hn]; exact gy h hn
theorem kW {keys:List Nat} {n h:Nat}:h∈dp keys n↔h∈keys\/h=n:=by
 unfold dp;by_cases hn:n∈keys
 .rw [if_pos hn]; exact ⟨.inl,fun e=>e.elim id fun e=>e▸hn⟩
 .rw [if_neg hn,List.mem_append,List.mem_singleton]
theorem jN {keys:List Nat} {n h:Nat} (q:h∈keys):h∈dp keys n:=kW.mpr (.inl q)
theorem AI {α:Type} {f:Nat->α} {h:Nat} {a:α} (e:f h=a):upd f h a=f:=funext fun k=>by
 by_cases q:k=h
 .rw [q,cC,e]
 .rw [dh _ _ q]
theorem rZ {sc:Nat->List Nat} {p n h c:Nat}:c∈upd sc p (sc p++[n]) h↔c∈sc h\/(c=n/\h=p):=by
 by_cases e:h=p
 .rw [e,cC,List.mem_append,List.mem_singleton]; exact or_congr_right ⟨fun q=>⟨q,rfl⟩,And.left⟩
 .rw [dh _ _ e]; exact ⟨.inl,fun q=>q.elim id fun q=>absurd q.2 e⟩
theorem n5 {sc:Nat->List Nat} {keys:List Nat} {n:Nat} (h0:n∉keys->sc n=[]) (h:Nat):fJ sc (dp keys n) h=fJ sc keys h:=by
 unfold dp;by_cases hn:n∈keys
 .rw [if_pos hn]
 .rw [if_neg hn,mX,ie,h0 hn]; rfl
theorem Cp {sc:Nat->List Nat} {p n:Nat} (h:Nat):∀ {keys:List Nat},keys.Nodup->p∈keys->fJ (upd sc p (sc p++[n])) keys h=fJ sc keys h+if h=n then 1 else 0:=by
 intro keys
 induction keys with
 | nil=>exact fun _ h=>nomatch h
 | cons k keys ih=>
  intro hn hp;rw [List.nodup_cons] at hn;rw [ie,ie];by_cases e:k=p
  .rw [e,cC,w5,wS (fun c hc=>dh sc _ fun (q:c=p)=>hn.1 (e▸q▸hc)),Nat.add_right_comm]
  .rw [dh _ _ e,ih hn.2 ((List.mem_cons.mp hp).elim (fun q=>absurd q.symm e) id),Nat.add_assoc]
section
variable {t:T3} {n k:Nat}
theorem T3.Base.node_eq (o:t.Base) (h:Nat):t.node h=⟨dp t.keys h,t.np,t.sc⟩:=by
 unfold T3.node;by_cases hh:h∈t.keys
 .rw [if_pos hh,if_pos hh]
 .rw [if_neg hh,if_neg hh,AI (o.np0 h hh),AI (o.sc0 h hh)]
theorem T3.Base.pred_eq (o:t.Base) (p:Nat):T3.pred n t p=⟨dp t.keys p,t.np,upd t.sc p (t.sc p++[n])⟩:=by
 unfold T3.pred;rw [o.node_eq p]
theorem T3.Mid.pred (o:t.Mid n (k+1)) (p:Nat):(T3.pred n t p).Mid n k:=by
 have hp:p∈dp t.keys p:=jC _ _;rw [o.pred_eq p];refine ⟨⟨jT o.nd p,fun h hh=>(dh _ _ fun e=>hh (by rw [e]; exact hp)).trans (o.sc0 h fun q=>hh (jN q)),fun h hh=>o.np0 h fun q=>hh (jN q),fun h c hc=>jN ((rZ.mp hc).elim (o.cl h c) fun q=>q.1▸o.has)⟩,jN o.has,fun h=>?_⟩;show t.np h=_;rw [o.deg h,Cp h (jT o.nd p) hp,n5 (o.sc0 p),Nat.add_assoc];by_cases e:h=n
 .rw [if_pos e,if_pos e,if_pos e,Nat.add_comm 1 k]
 .rw [if_neg e,if_neg e,if_neg e]
theorem T3.Mid.fold (ps:List Nat):∀ {t:T3},t.Mid n ps.length->(ps.foldl (T3.pred n) t).Mid n 0/\∀ p c,c∈(ps.foldl (T3.pred n) t).sc p↔c∈t.sc p\/(c=n/\p∈ps):=by
 induction ps with
 | nil=>exact fun o=>⟨o,fun p c=>⟨.inl,fun q=>q.elim id fun q=>nomatch q.2⟩⟩
 | cons q ps ih=>
  intro t o;obtain ⟨h1,h2⟩:=ih (o.pred q);refine ⟨h1,fun p c=>(h2 p c).trans ?_⟩;rw [o.pred_eq q];show c∈upd t.sc q (t.sc q++[n]) p\/_↔_;rw [rZ,or_assoc,List.mem_cons,← and_or_left]
theorem T3.Ok.adds (o:t.Ok) (n:Nat) (ps:List Nat):(t.add n ps).Ok/\∀ p c,c∈(t.add n ps).sc p↔c∈t.sc p\/(c=n/\p∈ps):=by
 have hn:n∈dp t.keys n:=jC _ _
 have m:T3.Mid ⟨dp t.keys n,upd t.np n (t.np n+ps.length),t.sc⟩ n ps.length:=by
  refine ⟨⟨jT o.nd n,fun h hh=>o.sc0 h fun q=>hh (jN q),fun h hh=>(dh _ _ fun e=>hh (by rw [e]; exact hn)).trans (o.np0 h fun q=>hh (jN q)),fun h c hc=>jN (o.cl _ _ hc)⟩,hn,fun h=>?_⟩;show upd t.np n (t.np n+ps.length) h=((fJ t.sc (dp t.keys n) h+_:Nat):Int);rw [n5 (o.sc0 n)];by_cases e:h=n
  .rw [e,cC,if_pos rfl,o.deg]; rfl
  .rw [dh _ _ e,if_neg e,o.deg]; rfl
 obtain ⟨f,g⟩:=T3.Mid.fold ps m;unfold T3.add;rw [o.node_eq n];exact ⟨⟨f.toBase,fun h=>(f.deg h).trans (by rw [ite_self]; rfl)⟩,g⟩
theorem T3.Ok.add (o:t.Ok) (n:Nat) (ps:List Nat):(t.add n ps).Ok:=(o.adds n ps).1
theorem T3.Ok.add_mem (o:t.Ok) (n:Nat) (ps:List Nat) (p c:Nat):c∈(t.add n ps).sc p↔c∈t.sc p\/(c=n/\p∈ps):=(o.adds n ps).2 p c
end
theorem Aw (n:Nat) (ps:List Nat):∀ t:T3,(ps.foldl (T3.pred n) t).keys=ps.foldl dp t.keys:=by
 induction ps with
 | nil=>exact fun _=>rfl
 | cons p ps ih=>exact fun t=>ih _
theorem vp {n:Nat} (ps:List Nat):∀ {t:T3} {L:Nat},(∀ h,(t.sc h).length<=L)->∀ h,((ps.foldl (T3.pred n) t).sc h).length<=L+ps.length:=by
 induction ps with
 | nil=>exact fun hL=>hL
 | cons p ps ih=>
  intro t L hL h;have h1:=mD hL p;refine Nat.le_trans (ih (t:=T3.pred n t p) (L:=L+1) (fun h=>?_) h) (Nat.le_of_eq (Nat.succ_add _ _));exact yO (fun h=>Nat.le_succ_of_le (h1 h)) (by rw [List.length_append]; exact Nat.succ_le_succ (h1 p)) h
theorem wk {t:T3} {L:Nat} (hL:∀ h,(t.sc h).length<=L) (n:Nat) (ps:List Nat):∀ h,((t.add n ps).sc h).length<=L+ps.length:=vp ps (mD hL n)
theorem zG {v:String} {k:Nat} {ρ:aq} {σ:List O} (h:ρ.lookup v=some (.py (.int (k:Int)))) (hk:k<=ar):(okA (ao (ad v) (pure []))>>=dw) ⟨ρ,σ⟩=some (.ok ((List.range k).map fun (i:Nat)=>.py (.int (i:Int)),fun _=>pure ()),⟨ρ,σ⟩):=bnd (te (dL (ah h))) (by
 show i7 0 (k:Int) ⟨ρ,σ⟩=_;unfold i7 jH;rw [if_pos ⟨Nat.zero_le _,hk⟩];simp only [Int.sub_zero,Int.toNat_natCast,Int.zero_add];rfl)
theorem uE {σ:List O} {b:Nat} {fa:Addr} {n:Nat} {k:List D->AM D} {ds:List D} {ρ:aq} (h:σ[b]?=some (.meth fa n)):qg fa b k ds ⟨ρ,σ⟩=k (.obj n::ds) ⟨ρ,σ⟩:=by
 show ((σ[b]?.bind O.meth?).bind _)=_;rw [h];exact if_pos rfl
theorem rV {C:Addr} {nm:String} {fa:Addr} {f:AM D} {g:AM (List D)} {bind:List D->Option aq} {fb:AM aj} {n:Nat} {fs:List (String×D)} {ds:List D} {bs:aq} {st:ASt} {ρ:aq} {σ:List O} {P:Except Value D->ASt->Prop}
  (hf:f st=some (.ok (.obj n),⟨ρ,σ⟩)) (h:σ[n]?=some (.inst C fs)) (hn:nm∉fs.map (·.1)) (hg:g ⟨ρ,σ++[.meth fa n]⟩=some (.ok ds,⟨ρ,σ++[.meth fa n]⟩)) (hb:bind (.obj n::ds)=some bs) (he:Out (fb ⟨bs,σ++[.meth fa n]⟩) (Cl ρ P)):Out (nR C nm fa f g (dI bind fb) st) P:=
 dH hf (dH (yj h hn) (dH (b:=σ.length) (st1:=⟨ρ,σ++[.meth fa n]⟩) rfl (dH hg (by rw [uE d6]; exact iq hb he))))
theorem y6 {n j:Nat} {js zs:List Nat} (h:List.range n=js++j::zs):js=List.range j/\j < n:=by
 have h1:(List.range n)[js.length]?=some j:=by rw [h,List.getElem?_append_right (Nat.le_refl _),Nat.sub_self]; rfl
 obtain ⟨h2,h3⟩:=List.getElem?_eq_some_iff.mp h1;rw [List.getElem_range] at h3;rw [List.length_range] at h2;subst h3;have h4:(List.range n).take js.length=js:=by rw [h]; exact List.take_left' rfl
 rw [List.take_range,Nat.min_eq_left (Nat.le_of_lt h2)] at h4;exact ⟨h4.symm,h2⟩
noncomputable abbrev q8:List String:=["_node2info", "_ready_nodes", "_npassedout", "_nfinished"]
theorem AS {s:D} {h:Nat} {l:List Nat} (hl:l.length<=10):d8 (s::.py (nE h)::l.map fun (n:Nat)=>D.py (nE n))=some [("self",s),("node",.py (nE h)),("predecessors",.py (.tuple (l.map fun (n:Nat)=>nE n)))]:=by
 show i4 ["self", "node"] "predecessors" _=_;unfold i4;rw [if_pos (by rw [List.length_cons,List.length_cons,List.length_map]; exact Nat.le_trans (Nat.succ_le_succ (Nat.succ_le_succ hl)) (by decide))];show some [("self",s),("node",.py (nE h)),("predecessors",j7 (l.map fun (n:Nat)=>D.py (nE n)))]=_;unfold j7;rw [fM]
theorem g5 {t:AM Bool} {b:Bool} {st st1:ASt} (h:t st=some (.ok b,st1)):ey [t] st=some (.ok b,st1):=bnd h (by cases b <;> rfl)
theorem EV (a b:Nat):decide ((a:Int)=(b:Int))=decide (a=b):=decide_eq_decide.mpr Int.ofNat_inj
theorem sE {α β:Type} {fs:List String} {v w:String} {f g:AM (List D×Chk)} {ts:List (AM Bool)} {el:AM D} {ρ:aq} {σ:List O} {st:ASt} (xs:List α) (enc:α->PyData) (L:α->List β) (enb:β->PyData) (t:α->β->Bool) (e:α->β->PyData)
  (hit:f st=some (.ok (xs.map fun a=>.py (enc a),fun _=>pure ()),⟨ρ,σ⟩)) (hv:v∉fs) (hw:w∉fs) (hvw:v≠w) (hlen:(xs.flatMap fun a=>((L a).filter (t a)).map (e a)).length<=ar)
  (hg:∀ a∈xs,∀ ρ',Ag fs ρ ρ'->ρ'.lookup v=some (.py (enc a))->g ⟨ρ',σ⟩=some (.ok ((L a).map fun b=>.py (enb b),fun _=>pure ()),⟨ρ',σ⟩))
  (hbody:∀ a∈xs,∀ b∈L a,∀ ρ',Ag fs ρ ρ'->ρ'.lookup v=some (.py (enc a))->ρ'.lookup w=some (.py (enb b))->ey ts ⟨ρ',σ⟩=some (.ok (t a b),⟨ρ',σ⟩)/\(t a b=true->el ⟨ρ',σ⟩=some (.ok (.py (e a b)),⟨ρ',σ⟩))):
  bf false fs ⟨f,aQ v,[]⟩ [⟨g,aQ w,ts⟩] el st=some (.ok (.py (.list (xs.flatMap fun a=>((L a).filter (t a)).map (e a)))),⟨ρ,σ⟩):=by
 refine zp xs (fun a=>.py (enc a)) (fun a=>((L a).filter (t a)).map (e a)) hit hlen (fun _ _=>rfl) fun a ha acc hN ρ' hR=>?_;have r1:=hR.put (.py (enc a)) hv;have hs:=km (t a) (fun b=>D.py (e a b)) (L a);obtain ⟨ρ2,e2,h2,_⟩:=nJ (σ:=σ) (chk:=fun _=>pure ()) (body:=fun d acc=>aQ w d>>=fun _=>ey ts>>=fun b=>if b=true then qr el [] acc else pure acc) (enc:=fun b=>D.py (enb b)) (L:=fun b=>if t a b=true then [D.py (e a b)] else []) (R:=fun ρ'=>Ag fs ρ ρ'/\ρ'.lookup v=some (.py (enc a))) ar (fun _ _=>rfl) (L a) 0 acc (put v (.py (enc a)) ρ') ⟨r1,aD⟩
  (by rw [hs,List.length_append,List.length_map]; rw [List.length_map] at hN; exact hN) fun b hb acc ρ' hR hN=>
   have hR':Ag fs ρ (put w (.py (enb b)) ρ')/\_:=⟨hR.1.put _ hw,aY hR.2 hvw⟩
   have h:=hbody a ha b hb _ hR'.1 hR'.2 aD
   ⟨_,yZ (st1:=⟨put w (.py (enb b)) ρ',σ⟩) rfl h.1 h.2 (fun _=>rfl) hN,hR'⟩
 rw [hs] at e2;exact ⟨ρ2,bnd (b:=()) (st1:=⟨put v (.py (enc a)) ρ',σ⟩) rfl (bnd (b:=true) rfl (bnd (hg a ha _ r1 aD) (e2.trans (by rw [List.map_map]; rfl)))),h2⟩
theorem Cy {α:Type} (l:List α):l.filter (fun _=>true)=l:=List.filter_eq_self.mpr fun _ _=>rfl
theorem iO {α:Type} [DecidableEq α] (E:Enc α) (hn:E.n+1<=64) {a:α} {l:List α} {f g:AM D} {st st1 st2:ASt} (hf:f st=some (.ok (.py (E.e a)),st1)) (hg:g st1=some (.ok (.py (.list (l.map E.e))),st2)):aJ .NotIn f g st=some (.ok (!decide (a∈l)),st2):=by
 have e:inA st2.σ (.py (E.e a)) (.py (.list (l.map E.e)))=some (decide (a∈l)):=by
  show orO (inS _ _ _) _=_;unfold inS;rw [E.ok (Nat.le_of_succ_le hn),E.okL hn,E.any];rfl
 exact gW hf hg (congrArg (Option.map (!·)) e)
theorem sub_int {f g:AM D} {a b:Int} {st st1 st2:ASt} (hf:f st=some (.ok (.py (.int a)),st1)) (hg:g st1=some (.ok (.py (.int b)),st2)):bO .Sub f g st=some (.ok (.py (.int (a - b))),st2):=jI hf hg rfl
theorem yI {op:CmpOp} {f g:AM D} {b:Bool} {st st1:ASt} (h:aJ op f g st=some (.ok b,st1)):tS op f g st=some (.ok (.py (.bool b)),st1):=by
 have e:tS op f g=(aJ op f g>>=fun t=>pure (.py (.bool t))):=by
  unfold tS aJ;simp only [iu]
 rw [e];exact bnd h rfl
theorem A9 (b:Bool):isA (.py (.bool b)) (.py (.bool b))=some true:=by cases b <;> rfl
theorem yy (ps:List PyData):PyData.eqv (.list ps) (.list [])=ps.isEmpty:=by
 cases ps <;> simp [PyData.eqv,PyData.eqvAll]
inductive At (b:aq) (σ:List O):ASt->Prop
 | mk {ρ}:Ex1 b ρ->At b σ ⟨ρ,σ⟩
theorem ny {α β:Type} (f:α->β) (l:List α):(l.map f).isEmpty=l.isEmpty:=by cases l <;> rfl
theorem Cw {f:AM D} {g:AM D} {k k':AM aj} {st st1 st2:ASt} {b:Bool} {P:Except Value aj->ASt->Prop} (hf:f st=some (.ok (.py (.bool b)),st1)) (hg:g st1=some (.ok (.py (.bool b)),st2)) (h:Out (k' st2) P):Out (ak (ifA (aJ .IsNot f g) k (pure .next)) k' st) P:=
 aH (du (lX hf hg (A9 b)) (fun h=>nomatch h) fun _=>aw (aO.mpr h))
noncomputable def isP (o:Option PyData) (f:PyData->Bool):Bool:=match o with
 | some p=>f p
 | none=>false
theorem pO {o:Option PyData} {f:PyData->Bool} (h:isP o f=true):∃ p,o=some p/\f p=true:=by
 cases o with
 | none=>cases h
 | some p=>exact ⟨p,rfl,h⟩
noncomputable def yp (b:Bool):PyData->Bool
 | .bool c=>b==c
 | _=>false
noncomputable def xF (y:Str):PyData->Bool
 | .str z=>z.cps.toList==y.cps.toList
 | _=>false
theorem wK {y z:Str} (h:(z.cps.toList==y.cps.toList)=true):z=y:=by
 obtain ⟨⟨a⟩⟩:=z;obtain ⟨⟨b⟩⟩:=y;rw [eq_of_beq (a:=a) (b:=b) h]
theorem n6 {o:Option PyData} {y:Str} (h:isP o (xF y)=true):o=some (.str y):=by
 obtain ⟨p,rfl,h⟩:=pO h;cases p with
 | str z=>rw [wK h]
 | _=>cases h
theorem tP {o:Option PyData} {b:Bool} (h:isP o (yp b)=true):o=some (.bool b):=by
 obtain ⟨p,rfl,h⟩:=pO h;cases p with
 | bool c=>rw [show b=c from eq_of_beq h]
 | _=>cases h
noncomputable def pz:List PyData->List (List Nat)->Bool
 | [],[]=>true
 | .str z::ps,y::ys=>z.cps.toList==y&&pz ps ys
 | _,_=>false
noncomputable def tc (ys:List (List Nat)):PyData->Bool
 | .list ps=>pz ps ys
 | _=>false
theorem pV:∀ {ps:List PyData} {ys:List (List Nat)},pz ps ys=true->ps=ys.map fun y=>.str ⟨⟨y⟩⟩
 | [],[],_=>rfl
 | [],_::_,h=>by cases h
 | p::ps,[],h=>by cases p <;> cases h
 | p::ps,y::ys,h=>by
  cases p with
  | str z=>
   have h:=Bool.and_eq_true_iff.mp h;rw [List.map_cons,← pV h.2,wK (y:=⟨⟨y⟩⟩) h.1]
  | _=>cases h
theorem mK {o:Option PyData} {ys:List (List Nat)} (h:isP o (tc ys)=true):o=some (.list (ys.map fun y=>.str ⟨⟨y⟩⟩)):=by
 obtain ⟨p,rfl,h⟩:=pO h;cases p with
 | list ps=>rw [pV (show pz ps _=true from h)]
 | _=>cases h
theorem im {f:Nat->Bool} {n:Nat} (h:((List.range n).all f)=true) {t:Nat} (ht:t < n):f t=true:=List.all_eq_true.mp h t (List.mem_range.mpr ht)
noncomputable def FA:Nat->List Nat
 | 0=>[92,45]
 | 1=>[92,43]
 | _=>[46]
noncomputable def BD (t:Nat):Str:=⟨⟨[40,63,115,58]++((List.range 3).flatMap fun k=>FA (dg t k))++[41,92,90]⟩⟩
noncomputable def o0 (t:Nat):PyData:=.list ((List.range 3).map fun k=>.str ⟨⟨FA (dg t k)⟩⟩)
noncomputable def i9 (t n:Nat):Bool:=(List.range 3).all fun k=>dg t k==2||dg t k==dg n k
noncomputable def bd (t:Nat):List Nat:=(List.range 3).flatMap fun k=>if dg t k=2 then [t - 2 * 3 ^ k,t - 3 ^ k] else []
theorem mP:((List.range 27).all fun t=>isP (fc [.int (t:Int)]) (xF (fK t))&&isP (i0 [.str (fK t)]) (xF (BD t))&&isP (gN [.str (BD t)]) (tc ((List.range 3).map fun k=>FA (dg t k)))&&isP (cr [.str (fK t)]) (tc ((bd t).map fun c=>(fK c).cps.toList)))=true:=by kernel_rfl
theorem zN:((List.range 27).all fun t=>(List.range 27).all fun n=>isP (f8 [o0 t,.str (fK n)]) (yp (i9 t n)))=true:=by kernel_rfl
theorem yC {t:Nat} (h:t < 27):fc [.int (t:Int)]=some (.str (fK t)):=n6 (Bool.and_eq_true_iff.mp (Bool.and_eq_true_iff.mp (Bool.and_eq_true_iff.mp (im mP h)).1).1).1
theorem sM {t:Nat} (h:t < 27):i0 [.str (fK t)]=some (.str (BD t)):=n6 (Bool.and_eq_true_iff.mp (Bool.and_eq_true_iff.mp (Bool.and_eq_true_iff.mp (im mP h)).1).1).2
theorem z6 {t:Nat} (h:t < 27):gN [.str (BD t)]=some (o0 t):=by
 rw [mK (Bool.and_eq_true_iff.mp (Bool.and_eq_true_iff.mp (im mP h)).1).2,List.map_map];rfl
theorem no {t:Nat} (h:t < 27):cr [.str (fK t)]=some (.list ((bd t).map nE)):=by
 rw [mK (Bool.and_eq_true_iff.mp (im mP h)).2,List.map_map];rfl
theorem Bb {t n:Nat} (h:t < 27) (hn:n < 27):f8 [o0 t,.str (fK n)]=some (.bool (i9 t n)):=tP (im (im zN h) hn)
theorem BU {t:Nat} (h:t < 27):fK t=⟨⟨(List.range 3).map fun k=>sgC (dg t k)⟩⟩:=by unfold fK; rw [if_pos h]
theorem yq (t k:Nat):dg t k < 3:=Nat.mod_lt _ (by decide)
theorem wx {y:Str} (h:PyData.strOk y=true):okP (.str y)=true:=by
 unfold okP PySem.SeqAt.shaped;simp only [PyData.canLay0,PyData.depth,h,Bool.true_and];rfl
theorem ss (t:Nat):PyData.strOk (fK t)=true:=by
 by_cases h:t < 27
 .exact im (show ((List.range 27).all fun t=>PyData.strOk (fK t))=true by kernel_rfl) h
 .unfold fK PyData.strOk;rw [if_neg h];rw [Array.all_eq_true'];intro x hx;have:x∈List.replicate (t+1) 97:=by simpa using hx
  rw [List.eq_of_mem_replicate this];rfl
theorem CU (a b:Nat):PyData.eqv (nE a) (nE b)=decide (a=b):=by
 unfold nE;simp only [PyData.eqv];by_cases h:a=b
 .rw [h,decide_eq_true rfl];exact beq_self_eq_true _
 .rw [decide_eq_false h];exact beq_eq_false_iff_ne.mpr fun e=>h (uf e)
noncomputable def eCl:Enc Nat:=⟨nE,0,CU,fun t=>by unfold nE; simp only [PyData.canLay0]; exact ss t,fun t=>by unfold nE; simp only [PyData.depth]; exact Nat.le_refl 0⟩
noncomputable abbrev eCs:Enc (List Nat):=eCl.list
noncomputable abbrev wy:Enc (List (List Nat)):=eCs.list
noncomputable def chS (d:Nat):Str:=⟨#[sgC d]⟩
theorem sX {f g:AM D} {t k:Nat} {st st1 st2:ASt} (ht:t < 27) (hf:f st=some (.ok (.py (nE t)),st1)) (hg:g st1=some (.ok (.py (.int (k:Int))),st2)) (hk:k < 3):bu f g st=some (.ok (.py (.str (chS (dg t k)))),st2):=
 pJ hf hg (by
  unfold nE;rw [BU ht]
  match k,hk with
  | 0,_=>rfl
  | 1,_=>rfl
  | 2,_=>rfl)
theorem Gj {d:Nat} (h:d < 3):okP (.str (chS d))=true:=wx (match d,h with
 | 0,_=>by kernel_rfl
 | 1,_=>by kernel_rfl
 | 2,_=>by kernel_rfl)
theorem G8:okP (.str (Str.o "?"))=true:=wx (by kernel_rfl)
theorem F0 {d:Nat} (h:d < 3):PyData.eqv (.str (chS d)) (.str (Str.o "?"))=(d==2):=match d,h with
 | 0,_=>by kernel_rfl
 | 1,_=>by kernel_rfl
 | 2,_=>by kernel_rfl
theorem ya {f:AM D} {ga gb:AM D} {y:Str} {a b:D} {lo hi:Option Int} {st st1 st2 st3:ASt} (hf:f st=some (.ok (.py (.str y)),st1)) (ha:ga st1=some (.ok a,st2)) (hb:gb st2=some (.ok b,st3)) (h1:qZ a=some lo) (h2:qZ b=some hi) (hl:y.length<=ar):
  cJ f ga gb st=some (.ok (.py (.str (oa y lo hi))),st3):=by
 refine pF hf ha hb ?_;unfold nU;rw [h1,h2];exact if_pos hl
theorem add_str {f g:AM D} {a b:Str} {st st1 st2:ASt} (hf:f st=some (.ok (.py (.str a)),st1)) (hg:g st1=some (.ok (.py (.str b)),st2)) (hl:a.length+b.length<=ar):bO .Add f g st=some (.ok (.py (.str (a++b))),st2):=
 jI hf hg (by
  show ((orO ((if a.length+b.length<=ar then some (a++b) else none).map PyData.str) _).map _)=_;rw [if_pos hl];rfl)
noncomputable def upk (t k:Nat):Nat:=t+(2 - dg t k) * 3 ^ k
theorem EX:((List.range 27).all fun t=>(List.range 3).all fun k=>(dg t k==2)||((oa (fK t) none (some ((k:Nat):Int))++Str.o "?" ++oa (fK t) (some ((k+1:Nat):Int)) none).cps.toList==(fK (upk t k)).cps.toList&&Nat.ble (oa (fK t) none (some ((k:Nat):Int))).length 3&&Nat.ble (oa (fK t) (some ((k+1:Nat):Int)) none).length 3&&Nat.blt (upk t k) 27))=true:=by kernel_rfl
noncomputable def wd (t:Nat):List Nat:=((List.range 3).filter fun k=>!(dg t k==2)).map (upk t)
noncomputable def abv (t:Nat) (cells:List Nat):List Nat:=(wd t).filter fun c=>decide (c∈cells)
theorem C2 {t:Nat} (h:t < 27):(fK t).length=3:=by rw [BU h]; rfl
theorem xk (st:ASt):(okA (ao (pure (.py (.int 3))) (pure []))>>=dw) st=some (.ok ((List.range 3).map fun (i:Nat)=>.py (.int (i:Int)),fun _=>pure ()),st):=rfl
theorem mv {α:Type} [DecidableEq α] (E:Enc α) (hn:E.n+1<=64) {a:α} {l:List α} {f g:AM D} {st st1 st2:ASt} (hf:f st=some (.ok (.py (E.e a)),st1)) (hg:g st1=some (.ok (.py (.list (l.map E.e))),st2)):aJ .In f g st=some (.ok (decide (a∈l)),st2):=by
 have e:inA st2.σ (.py (E.e a)) (.py (.list (l.map E.e)))=some (decide (a∈l)):=by
  show orO (inS _ _ _) _=_;unfold inS;rw [E.ok (Nat.le_of_succ_le hn),E.okL hn,E.any];rfl
 exact gW hf hg e
theorem uI {t:Nat} {cells:List Nat} (ht:t < 27):fq [nE t,.list (cells.map nE)]=some (.list ((abv t cells).map nE)):=by
 refine k9 (bs:=[("cell",.py (nE t)),("cells",.py (.list (cells.map nE)))]) rfl ?_
 have hc:=d9 (fs:=["cell"]) (σ:=[]) (st:=⟨[("cell",.py (nE t)),("cells",.py (.list (cells.map nE)))],[]⟩) (v:= "k") (ts:=[(aJ .NotEq (bu (ad "cell") (ad "k")) (pure (.py (.str (Str.o "?")))))]) (el:=(bO .Add (bO .Add (cJ (ad "cell") (pure (.py .none)) (ad "k")) (pure (.py (.str (Str.o "?"))))) (cJ (ad "cell") (bO .Add (ad "k") (pure (.py (.int 1)))) (pure (.py .none)))))
  (List.range 3) (fun (i:Nat)=>.int (i:Int)) (fun k=>!(dg t k==2)) (fun k=>nE (upk t k)) (xk _) (by decide) (by decide) fun k hk ρ' hA hv=>by
   have hk:=List.mem_range.mp hk;have hcell:ρ'.lookup "cell" =some (.py (nE t)):=hA.get rfl (by decide);refine ⟨g5 (yt (sX ht (ah hcell) (ah hv) hk) rfl (Gj (yq _ _)) G8 (F0 (yq _ _))),fun hd=>?_⟩;have h:=im (im EX ht) hk;rw [Bool.not_eq_true'] at hd;rw [hd,Bool.false_or] at h;have h:=Bool.and_eq_true_iff.mp h;have h':=Bool.and_eq_true_iff.mp h.1;have h'':=Bool.and_eq_true_iff.mp h'.1;have hz:(fK t).length<=ar:=by rw [C2 ht]; decide
   have e1:=ya (st:=⟨ρ',[]⟩) (y:=fK t) (ah hcell) (ga:=pure (.py .none)) rfl (ah hv) (lo:=none) (hi:=some ((k:Nat):Int)) rfl rfl hz;have e2:=add_str e1 (g:=pure (.py (.str (Str.o "?")))) rfl (Nat.le_trans (Nat.add_le_add_right (Nat.ble_eq.mp h''.2) _) (by decide));have e3:=ya (st:=⟨ρ',[]⟩) (y:=fK t) (ah hcell) (po (b:=1) (ah hv)) (gb:=pure (.py .none)) rfl (lo:=some ((k+1:Nat):Int)) (hi:=none) rfl rfl hz;have e4:=add_str e2 e3 (Nat.le_trans (Nat.add_le_add (by rw [C0]; exact Nat.add_le_add_right (Nat.ble_eq.mp h''.2) _) (Nat.ble_eq.mp h'.2)) (by decide));rw [wK (y:=fK (upk t k)) h''.1] at e4;exact e4
 have hc:_=some (Except.ok (D.py (.list (((List.range 3).filter fun k=>!(dg t k==2)).map fun k=>nE (upk t k)))),_):=hc;have ew:(((List.range 3).filter fun k=>!(dg t k==2)).map fun k=>nE (upk t k))=(wd t).map nE:=by unfold wd; rw [List.map_map]; rfl
 rw [ew] at hc;refine bk hc ?_;have hw:(wd t).length<=3:=by unfold wd; rw [List.length_map]; exact List.length_filter_le _ (List.range 3)
 have hd:=d9 (fs:=["cells"]) (σ:=[]) (st:=⟨put "wider" (.py (.list ((wd t).map nE))) [("cell",.py (nE t)),("cells",.py (.list (cells.map nE)))],[]⟩) (v:= "other") (ts:=[(aJ .In (ad "other") (ad "cells"))]) (el:=ad "other") (wd t) nE (fun c=>decide (c∈cells)) nE (di (e:=nE) (v:= "wider") rfl) (by decide) (Nat.le_trans hw (by decide)) fun c hc ρ' hA hv=>
  ⟨g5 (mv eCl (by decide) (ah hv) (ah (hA.get (v:= "cells") rfl (by decide)))),fun _=>ah hv⟩
 exact eF hd rfl
theorem Dg {x y z:Nat} (h1:x / 2=y / 2+z / 2) (h2:x % 2=y % 2+z % 2):x=y+z:=by
 have e:=Nat.div_add_mod x 2;rw [h1,h2,Nat.mul_add,Nat.add_add_add_comm,Nat.div_add_mod,Nat.div_add_mod] at e;exact e.symm
theorem wt:∀ a b:Nat,a |||b=(a ^^^ b)+(a &&&b):=fun a=>by
 induction a using Nat.strongRecOn with
 | _ a ih=>
  intro b;by_cases h0:a=0
  .subst h0; simp
  .have h1:=ih (a / 2) (Nat.div_lt_self (Nat.pos_of_ne_zero h0) (by decide)) (b / 2);rw [← Nat.or_div_two,← Nat.xor_div_two,← Nat.and_div_two] at h1;have m1:(a |||b) % 2=(a % 2) |||(b % 2):=Nat.or_mod_two_pow (n:=1)
   have m2:(a ^^^ b) % 2=(a % 2) ^^^ (b % 2):=Nat.xor_mod_two_pow (n:=1);have m3:(a &&&b) % 2=(a % 2) &&&(b % 2):=Nat.and_mod_two_pow (n:=1)
   have h2:(a % 2) |||(b % 2)=((a % 2) ^^^ (b % 2))+((a % 2) &&&(b % 2)):=by
    rcases Nat.mod_two_eq_zero_or_one a with ha | ha <;> rcases Nat.mod_two_eq_zero_or_one b with hb | hb <;> rw [ha,hb] <;> rfl
   exact Dg h1 (by rw [m1,m2,m3]; exact h2)
theorem DJ (a b:Nat):Builtin.bitAnd (a:Int) (b:Int)=((a &&&b:Nat):Int):=by
 unfold Builtin.bitAnd;rw [decide_eq_true (Int.natCast_nonneg a),decide_eq_true (Int.natCast_nonneg b)];rfl
theorem qf (i:Int):Builtin.bitNot (Builtin.bitNot i)=i:=by
 show -(-i - 1) - 1=i;rw [Int.neg_sub,Int.sub_neg,Int.add_comm,Int.add_sub_cancel]
theorem F3 (a b:Nat):Builtin.bitOr (a:Int) (b:Int)=((a |||b:Nat):Int):=by
 unfold Builtin.bitOr;have h:∀ a:Nat,decide (0<=Builtin.bitNot (a:Int))=false:=fun a=>decide_eq_false (Int.not_le.mpr (Int.lt_of_lt_of_le (Int.sub_lt_self _ (by decide)) (Int.neg_nonpos_of_nonneg (Int.natCast_nonneg a))));have h2:∀ a:Nat,(Builtin.bitNot (Builtin.bitNot (a:Int))).toNat=a:=fun a=>by rw [qf]; rfl
 unfold Builtin.bitAnd;rw [h a,h b];show Builtin.bitNot (Builtin.bitNot (((Builtin.bitNot (Builtin.bitNot (a:Int))).toNat |||(Builtin.bitNot (Builtin.bitNot (b:Int))).toNat:Nat):Int))=_;rw [h2,h2,qf]
theorem DT (a b:Nat):Builtin.bitXor (a:Int) (b:Int)=((a ^^^ b:Nat):Int):=by
 unfold Builtin.bitXor;rw [F3,DJ,wt];omega
theorem y4 {f g:AM D} {a b:Nat} {st st1 st2:ASt} (hf:f st=some (.ok (.py (.int (a:Int))),st1)) (hg:g st1=some (.ok (.py (.int (b:Int))),st2)):bO .BitXor f g st=some (.ok (.py (.int ((a ^^^ b:Nat):Int))),st2):=by
 rw [← DT];exact jI hf hg rfl
noncomputable def eu (xs:List Nat):Nat:=xs.foldl (· ^^^ ·) 0
theorem z8 (xs:List Nat) (x:Nat):eu (xs++[x])=eu xs ^^^ x:=by
 unfold eu;rw [List.foldl_append];rfl
theorem EP (xs:List Nat):eY [kn.e xs]=some (.int (eu xs:Nat)):=by
 refine k9 (bs:=[("masks",.py (kn.e xs))]) rfl ?_;refine bk (d:=.py (.int ((0:Nat):Int))) rfl ?_;refine dF xs (fun (k:Nat)=>.py (.int (k:Int))) (fun ys=>At (put "total" (.py (.int (eu ys:Nat))) [("masks",.py (kn.e xs))]) []) (di (e:=zl.e) rfl) (fun _ _ _ _=>rfl) (.mk fun _ _ e=>e) (fun ys x zs st hx q=>?_) fun st q=>?_
 .obtain ⟨E⟩:=q;have E1:=E.skip (v:= "mask") (d:=.py (.int (x:Int))) rfl;refine dH rfl (bk (y4 (ah (E1 "total" _ rfl)) (ah aD)) (aw (cS.mpr ?_)));rw [z8];exact .mk (E1.put (v:= "total") (d:=.py (.int ((eu ys ^^^ x:Nat):Int))))
 .obtain ⟨E⟩:=q;exact eF (ah (E "total" _ rfl)) rfl
noncomputable def red (hs:List Nat) (m:Nat):Nat:=hs.foldl (fun m h=>min m (m ^^^ h)) m
theorem p6 (hs:List Nat) (h m:Nat):red (hs++[h]) m=min (red hs m) (red hs m ^^^ h):=by
 unfold red;rw [List.foldl_append];rfl
noncomputable def ow (hs:List Nat) (m:Nat):List Nat:=if 0 < red hs m then hs++[red hs m] else hs
noncomputable def cH (ms:List Nat):List Nat:=ms.foldl ow []
theorem iP (ms:List Nat) (m:Nat):cH (ms++[m])=ow (cH ms) m:=by
 unfold cH;rw [List.foldl_append];rfl
theorem qv (ms:List Nat):(cH ms).length<=ms.length:=by
 have:∀ (ms hs:List Nat),(ms.foldl ow hs).length<=hs.length+ms.length:=fun ms=>by
  induction ms with
  | nil=>exact fun hs=>Nat.le_refl _
  | cons m ms ih=>
   intro hs;have h1:=ih (ow hs m);have h2:(ow hs m).length<=hs.length+1:=by unfold ow; split <;> simp
   rw [List.foldl_cons,List.length_cons];omega
 have h:=this ms [];rw [List.length_nil,Nat.zero_add] at h;exact h
theorem DA {f g:AM D} {a b:Nat} {st st1 st2:ASt} (hf:f st=some (.ok (.py (.int (a:Int))),st1)) (hg:g st1=some (.ok (.py (.int (b:Int))),st2)):((ao f (ao g (pure [])))>>=Gb) st=some (.ok (.py (.int ((min a b:Nat):Int))),st2):=
 bnd (lG hf hg) (cM (f:=fun _=>yd (.py (.int (a:Int))) (.py (.int (b:Int)))) (by
  show some (D.py (.int (if (b:Int) < (a:Int) then (b:Int) else (a:Int))))=_;by_cases h:b < a
  .rw [if_pos (Int.ofNat_lt.mpr h),Nat.min_eq_right (Nat.le_of_lt h)]
  .rw [if_neg (fun q=>h (Int.ofNat_lt.mp q)),Nat.min_eq_left (Nat.le_of_not_lt h)]))
theorem gt_int {f g:AM D} {a b:Int} {st st1 st2:ASt} (hf:f st=some (.ok (.py (.int a)),st1)) (hg:g st1=some (.ok (.py (.int b)),st2)):aJ .Gt f g st=some (.ok (decide (b < a)),st2):=gW hf hg rfl
theorem DR {n:Nat} {ds:List D} {f:AM D} {st:ASt} {ρ:aq} {σ:List O} (hf:f st=some (.ok (.obj n),⟨ρ,σ⟩)) (h:σ[n]?=some (.list ds)) (hl:ds.length<=ar):((ao f (pure []))>>=gQ) st=some (.ok (.py (.int (ds.length:Int))),⟨ρ,σ⟩):=
 mO hf hl (by
  have h1:((D.obj n).obj?.bind fun n=>lr σ[n]?)=none:=by show lr σ[n]?=none; rw [h]; rfl
  unfold vS;rw [h1];show (nA σ (.obj n)).bind (fun ds=>lenS ds.length)=_;rw [show nA σ (.obj n)=some ds from by show sG σ[n]?=_; rw [h]; rfl];rfl)
noncomputable def tp (l:List Nat):O:=.list (l.map fun (n:Nat)=>.py (.int (n:Int)))
theorem FO (ms:List Nat) (hl:ms.length<=1000):kI [kn.e ms]=some (.int ((cH ms).length:Nat)):=by
 refine k9 (bs:=[("masks",.py (kn.e ms))]) rfl ?_;refine bk (ul _ _) ?_;refine dF ms (fun (k:Nat)=>.py (.int (k:Int))) (fun ys=>At [("masks",.py (kn.e ms)),("heads",.obj 0)] [tp (cH ys)]) (di (e:=zl.e) rfl) (fun _ _ _ _=>rfl) (.mk fun _ _ e=>e) (fun ys m zs st hx q=>?_) fun st q=>?_
 .obtain ⟨E⟩:=q;have hyl:(cH ys).length<=1000:=Nat.le_trans (qv ys) (Nat.le_trans (by rw [hx,List.length_append]; exact Nat.le_add_right ..) hl);refine dH rfl ?_;have E1:=E.put (v:= "mask") (d:=.py (.int (m:Int)));refine dF (cH ys) (fun (k:Nat)=>.py (.int (k:Int))) (fun us=>At (put "mask" (.py (.int (red us m:Nat))) [("masks",.py (kn.e ms)),("heads",.obj 0)]) [tp (cH ys)]) (CE (ah (E1 "heads" _ rfl)) rfl) (fun us st q k=>by obtain ⟨_⟩:=q; exact kZ rfl) (.mk E1) (fun us h vs st hx2 q=>?_) fun st q=>?_
  .obtain ⟨E2⟩:=q;have E3:=E2.skip (v:= "head") (d:=.py (.int (h:Int))) rfl;refine dH rfl (bk (DA (ah (E3 "mask" _ rfl)) (y4 (ah (E3 "mask" _ rfl)) (ah aD))) (aw (cS.mpr ?_)));rw [p6];exact .mk (E3.put (v:= "mask") (d:=.py (.int ((min (red us m) (red us m ^^^ h):Nat):Int))))
  .obtain ⟨E2⟩:=q;have t:=gt_int (ah (σ:=[tp (cH ys)]) (E2 "mask" _ rfl)) (g:=pure (.py (.int 0))) (b:=((0:Nat):Int)) rfl;rw [show decide (((0:Nat):Int) < ((red (cH ys) m:Nat):Int))=decide (0 < red (cH ys) m) from decide_eq_decide.mpr Int.ofNat_lt] at t;have E0:∀ {ρ},Ex1 (put "mask" (.py (.int (red (cH ys) m:Nat))) [("masks",.py (kn.e ms)),("heads",.obj 0)]) ρ->Ex1 [("masks",.py (kn.e ms)),("heads",.obj 0)] ρ:=fun E=>ExB E fun v d e=>aY e fun z=>by rw [z] at e; cases e
   refine aH (du t (fun hT=>?_) fun hF=>?_)
   .refine eG (dR (ah (E2 "heads" _ rfl)) (eX rfl) (dL (ah (E2 "mask" _ rfl))) (fT (n:=0) rfl (by rw [List.length_map]; exact Nat.le_trans hyl (by decide)))) (aw (aO.mpr (aw (cS.mpr ?_))));have e:cH (ys++[m])=cH ys++[red (cH ys) m]:=by rw [iP]; exact if_pos (of_decide_eq_true hT)
    have e2:tp (cH (ys++[m]))=.list (((cH ys).map fun (n:Nat)=>D.py (.int (n:Int)))++[.py (.int (red (cH ys) m:Nat))]):=by rw [e]; unfold tp; rw [List.map_append]; rfl
    rw [e2];exact .mk (E0 E2)
   .refine aw (aO.mpr (aw (cS.mpr ?_)));have e:cH (ys++[m])=cH ys:=by rw [iP]; exact if_neg (of_decide_eq_false hF)
    rw [e];exact .mk (E0 E2)
 .obtain ⟨E⟩:=q;have e:=DR (ah (σ:=[tp (cH ms)]) (E "heads" _ rfl)) rfl (by rw [List.length_map]; exact Nat.le_trans (qv ms) (Nat.le_trans hl (by decide)));rw [List.length_map] at e;exact eF e rfl
theorem kL {α:Type} {P:List α->Prop} (l:List α) (h0:P []) (h1:∀ l a,P l->P (l++[a])):P l:=by
 have:∀ n,∀ l:List α,l.length=n->P l:=fun n=>by
  induction n with
  | zero=>exact fun l e=>(List.length_eq_zero_iff.mp e)▸h0
  | succ n ih=>
   intro l e;have hne:l≠[]:=fun q=>by rw [q] at e; cases e
   rw [← List.dropLast_concat_getLast hne];exact h1 _ _ (ih _ (by rw [List.length_dropLast,e]; rfl))
 exact this _ l rfl
theorem zE {f:AM D} {m:Nat} {st:ASt} (h:f st=some (.ok (.py (.int (m:Int))),st)) (hm:m<=ar):(okA (ao f (pure []))>>=dw) st=some (.ok ((List.range m).map fun (i:Nat)=>.py (.int (i:Int)),fun _=>pure ()),st):=by
 have e:=zG (v:= "x") (ρ:=[("x",.py (.int (m:Int)))]) (σ:=st.σ) (k:=m) rfl hm;have e2:(okA (ao (ad "x") (pure []))) ⟨[("x",.py (.int (m:Int)))],st.σ⟩=some (.ok [.py (.int (m:Int))],⟨[("x",.py (.int (m:Int)))],st.σ⟩):=te (dL (ah rfl));rw [tN,e2] at e;rw [tN,te (dL h)];show dw [.py (.int (m:Int))] st=_;have e3:∀ st':ASt,dw [.py (.int (m:Int))] st'=(zQ (D.int? (.py (.int (m:Int)))) (i7 0)) st':=fun _=>rfl;have e:dw [.py (.int (m:Int))] ⟨[("x",.py (.int (m:Int)))],st.σ⟩=_:=e;rw [e3] at e ⊢;have e4:∀ st':ASt,(zQ (D.int? (.py (.int (m:Int)))) (i7 0)) st'=i7 0 (m:Int) st':=fun _=>rfl;rw [e4] at e ⊢;unfold i7 at e ⊢;split at e
 .rename_i hh;rw [if_pos hh];have:(pure (jH 0 (m:Int),fun _=>pure ()):AM (List D×Chk)) ⟨[("x",.py (.int (m:Int)))],st.σ⟩=some (.ok (jH 0 (m:Int),fun _=>pure ()),⟨[("x",.py (.int (m:Int)))],st.σ⟩):=rfl;rw [this] at e;injection e with e
  injection e with e _
  injection e with e
  show some (Except.ok (jH 0 (m:Int),fun _=>pure ()),st)=_;rw [e]
 .cases e
theorem Fq {f g:AM Bool} {st st1:ASt} (hf:f st=some (.ok false,st1)):jV f g st=some (.ok false,st1):=bnd hf rfl
theorem Eh {f g:AM Bool} {b:Bool} {st st1 st2:ASt} (hf:f st=some (.ok true,st1)) (hg:g st1=some (.ok b,st2)):jV f g st=some (.ok b,st2):=bnd hf hg
theorem ti {f g:AM D} {a b:Nat} {st st1 st2:ASt} (hf:f st=some (.ok (.py (.int (a:Int))),st1)) (hg:g st1=some (.ok (.py (.int (b:Int))),st2)) (ha:a < 2 ^ 64) (hb:b<=64):bO .Pow f g st=some (.ok (.py (.int ((a ^ b:Nat):Int))),st2):=
 jI hf hg (by
  have h:rI .Pow (a:Int) (b:Int)=some (((a ^ b:Nat):Int)):=by
   show (if (0<=(b:Int)/\(b:Int)<=64)/\(a:Int).natAbs < 2 ^ 64 then some ((a:Int) ^ (b:Int).toNat) else none)=_;rw [if_pos ⟨⟨Int.natCast_nonneg b,by omega⟩,by rw [Int.natAbs_natCast]; exact ha⟩,Int.toNat_natCast,Int.natCast_pow]
  show (orO ((rI .Pow (a:Int) (b:Int)).map PyData.int) _).map _=_;rw [h];rfl)
theorem Bm {f g:AM D} {a b:Nat} {st st1 st2:ASt} (hf:f st=some (.ok (.py (.int (a:Int))),st1)) (hg:g st1=some (.ok (.py (.int (b:Int))),st2)) (hb:0 < b) (hb2:b < 2 ^ 64):bO .FloorDiv f g st=some (.ok (.py (.int ((a / b:Nat):Int))),st2):=
 jI hf hg (by
  have h:rI .FloorDiv (a:Int) (b:Int)=some (((a / b:Nat):Int)):=by
   show (if (b:Int)=0\/18446744073709551616<=(b:Int).natAbs then none else some ((a:Int).fdiv b))=_;rw [if_neg (by rw [Int.natAbs_natCast]; intro q; omega),Int.fdiv_eq_ediv_of_nonneg _ (Int.natCast_nonneg b)];rfl
  show (orO ((rI .FloorDiv (a:Int) (b:Int)).map PyData.int) _).map _=_;rw [h];rfl)
theorem Df {f g:AM D} {a b:Nat} {st st1 st2:ASt} (hf:f st=some (.ok (.py (.int (a:Int))),st1)) (hg:g st1=some (.ok (.py (.int (b:Int))),st2)) (hb:0 < b):bO .Mod f g st=some (.ok (.py (.int ((a % b:Nat):Int))),st2):=
 jI hf hg (by
  have h:rI .Mod (a:Int) (b:Int)=some (((a % b:Nat):Int)):=by
   show (if (b:Int)=0 then none else some ((a:Int).fmod b))=_;rw [if_neg (by omega),Int.fmod_eq_emod_of_nonneg _ (Int.natCast_nonneg b)];rfl
  show (orO ((rI .Mod (a:Int) (b:Int)).map PyData.int) _).map _=_;rw [h];rfl)
noncomputable abbrev Pr:=Nat×Nat
noncomputable def prd (ps:List Pr):List Nat:=ps.flatMap fun p=>[p.1,p.2]
noncomputable def jy (x t:Nat):Nat:=x / 4 ^ t % 4
noncomputable def iw (lower cells:List Nat) (x:Nat) (ps:List Pr) (t:Nat):List Pr:=match lower[t]? with
 | none=>ps
 | some c=>match (abv c cells)[jy x t]? with
  | none=>ps
  | some a=>if c∈prd ps\/a∈prd ps then ps else ps++[(c,a)]
noncomputable def prs (lower cells:List Nat) (x:Nat) (ys:List Nat):List Pr:=ys.foldl (iw lower cells x) []
theorem qx (lower cells:List Nat) (x:Nat) (ys:List Nat) (t:Nat):prs lower cells x (ys++[t])=iw lower cells x (prs lower cells x ys) t:=by
 unfold prs;rw [List.foldl_append];rfl
theorem va (ps:List Pr) (c a:Nat):prd (ps++[(c,a)])=prd ps++[c,a]:=by unfold prd; rw [List.flatMap_append]; rfl
theorem D3 (ps:List Pr):(prd ps).length=2 * ps.length:=by
 induction ps with
 | nil=>rfl
 | cons p ps ih=>
  have:prd (p::ps)=p.1::p.2::prd ps:=rfl;rw [this,List.length_cons,List.length_cons,ih,List.length_cons];omega
theorem yl (lower cells:List Nat) (x:Nat) (ys:List Nat):(prs lower cells x ys).length<=ys.length:=
 kL (P:=fun ys=>(prs lower cells x ys).length<=ys.length) ys (Nat.le_refl 0) fun l t ih=>by
  rw [qx,List.length_append,List.length_singleton];unfold iw;split
  .omega
  .split
   .omega
   .split
    .omega
    .rw [List.length_append,List.length_singleton]; omega
noncomputable def dkv (ps:List Pr):List (KK×D):=ps.map fun p=>(kE p.1,.py (nE p.2))
theorem zR {ps:List Pr} {c a:Nat} (h:c∉prd ps):eg (dkv ps) (kE c) (.py (nE a))=dkv (ps++[(c,a)]):=by
 have:¬ ((dkv ps).any fun kv=>decide (kv.1=kE c))=true:=fun q=>by
  obtain ⟨kv,h1,h2⟩:=List.any_eq_true.mp q;unfold dkv at h1;obtain ⟨p,hp,rfl⟩:=List.mem_map.mp h1;have e:p.1=c:=jQ (of_decide_eq_true h2);exact h (List.mem_flatMap.mpr ⟨p,hp,by rw [e]; exact .head _⟩)
 unfold eg;rw [if_neg this];unfold dkv;rw [List.map_append];rfl
noncomputable def prV (lower cells:List Nat) (x:Nat) (ps:List Pr):aq:=[("lower",.py (.list (lower.map nE))),("cells",.py (.list (cells.map nE))),("x",.py (.int (x:Int))),("paired",.py (.list ((prd ps).map nE))),("above",.obj 0)]
inductive PrI (lower cells:List Nat) (x:Nat) (ys:List Nat):ASt->Prop
 | mk {ρ ep}:Ex1 (prV lower cells x (prs lower cells x ys)) ρ->PrI lower cells x ys ⟨ρ,[.dict ep (dkv (prs lower cells x ys))]⟩
theorem Ec (lower cells:List Nat) (x:Nat) (ps qs:List Pr) {ρ:aq} (E:Ex1 (prV lower cells x ps) ρ):Ex1 (prV lower cells x qs) (put "paired" (.py (.list ((prd qs).map nE))) ρ):=E.put (v:= "paired") (d:=.py (.list ((prd qs).map nE)))
theorem AG {l:List Nat} {k c:Nat} (h:l[k]?=some c):(l.map nE)[k]?=some (nE c):=by rw [List.getElem?_map,h]; rfl
theorem Ai {lower cells:List Nat} {x:Nat} (hc:∀ c∈lower,c < 27) (hl:lower.length<=20):
  Out (fk ⟨[("lower",.py (.list (lower.map nE))),("cells",.py (.list (cells.map nE))),("x",.py (.int (x:Int)))],[]⟩) fun r st=>
   r=.ok (.ret (.tup [.obj 0,.py (.list ((prd (prs lower cells x (List.range lower.length))).map nE))]))/\∃ ep,st.σ=[.dict ep (dkv (prs lower cells x (List.range lower.length)))]:=by
 have hls:lower.length<=ar:=Nat.le_trans hl (by decide);refine sy (d:=.obj 0) (e:=.py (.list [])) (st1:=⟨_,[.dict 0 []]⟩) rfl rfl ?_;have e1:=mq (f:=ad "lower") (ps:=lower.map nE) (st:=⟨put "above" (.obj 0) (put "paired" (.py (.list [])) [("lower",.py (.list (lower.map nE))),("cells",.py (.list (cells.map nE))),("x",.py (.int (x:Int)))]),[.dict 0 []]⟩) (ah rfl) (by rw [List.length_map]; exact hls);rw [List.length_map] at e1;refine dF (List.range lower.length) (fun (t:Nat)=>.py (.int (t:Int))) (PrI lower cells x) (zE e1 hls) (fun _ _ _ _=>rfl) (.mk (ep:=0) fun v d e=>e) (fun ys t zs st hx q=>?_) fun st q=>?_
 .obtain @⟨ρ,ep,E⟩:=q;obtain ⟨rfl,ht⟩:=y6 hx;have hge:=List.getElem?_eq_getElem ht;generalize hps:prs lower cells x (List.range t)=ps at E ⊢
  have hpl:ps.length<=20:=by
   rw [← hps];refine Nat.le_trans (yl _ _ _ _) ?_;rw [List.length_range];omega
  have hcm:lower[t] < 27:=hc _ (List.getElem_mem ht);generalize lower[t]=c at hge hcm;have E1:=E.skip (v:= "t") (d:=.py (.int (t:Int))) rfl;have ec:∀ {ρ' σ},Ex1 (prV lower cells x ps) ρ'->ρ'.lookup "t" =some (.py (.int (t:Int)))->bu (ad "lower") (ad "t") ⟨ρ',σ⟩=some (.ok (.py (nE c)),⟨ρ',σ⟩):=fun E q=>ji (ah (E "lower" _ rfl)) (ah q) (AG hge) (by rw [List.length_map]; exact hls);refine dH rfl (bk (uq (q:=nE c) (r:=.list (cells.map nE)) (ec E1 aD) (ah (E1 "cells" _ rfl)) (uI hcm)) ?_);have E2:=E1.skip (v:= "wider") (d:=.py (.list ((abv c cells).map nE))) rfl;have t2:(put "wider" (.py (.list ((abv c cells).map nE))) (put "t" (.py (.int (t:Int))) ρ)).lookup "t" =some (.py (.int (t:Int))):=aY aD (by decide);have h4:4 ^ t < 2 ^ 64:=Nat.lt_of_le_of_lt (Nat.pow_le_pow_right (by decide) (show t<=20 by omega)) (by decide);refine bk (Df (b:=4) (Bm (ah (E2 "x" _ rfl)) (ti (a:=4) (f:=pure (.py (.int 4))) rfl (ah t2) (by decide) (by omega)) (Nat.pow_pos (by decide)) h4) (g:=pure (.py (.int 4))) rfl (by decide)) ?_;have E3:=E2.skip (v:= "pick") (d:=.py (.int (jy x t:Nat))) rfl;show Out ((ak _ _) ⟨put "pick" (.py (.int (jy x t:Nat))) (put "wider" (.py (.list ((abv c cells).map nE))) (put "t" (.py (.int (t:Int))) ρ)),_⟩) _;have t3:(put "pick" (.py (.int (jy x t:Nat))) (put "wider" (.py (.list ((abv c cells).map nE))) (put "t" (.py (.int (t:Int))) ρ))).lookup "t" =some (.py (.int (t:Int))):=aY t2 (by decide);have w3:(put "pick" (.py (.int (jy x t:Nat))) (put "wider" (.py (.list ((abv c cells).map nE))) (put "t" (.py (.int (t:Int))) ρ))).lookup "wider" =some (.py (.list ((abv c cells).map nE))):=aY aD (by decide);have p3:(put "pick" (.py (.int (jy x t:Nat))) (put "wider" (.py (.list ((abv c cells).map nE))) (put "t" (.py (.int (t:Int))) ρ))).lookup "pick" =some (.py (.int (jy x t:Nat))):=aD;generalize put "pick" (.py (.int (jy x t:Nat))) (put "wider" (.py (.list ((abv c cells).map nE))) (put "t" (.py (.int (t:Int))) ρ))=ρ3 at E3 t3 w3 p3 ⊢;have hw:(abv c cells).length<=3:=Nat.le_trans (List.length_filter_le _ _) (by unfold wd; rw [List.length_map]; exact List.length_filter_le _ (List.range 3));have hws:((abv c cells).map nE).length<=ar:=by rw [List.length_map]; exact Nat.le_trans hw (by decide)
  have el:=mq (ah (σ:=[.dict ep (dkv ps)]) w3) hws;rw [List.length_map] at el;have c1:=lt_int (ah (σ:=[.dict ep (dkv ps)]) p3) el;rw [show decide (((jy x t:Nat):Int) < (((abv c cells).length:Nat):Int))=decide (jy x t < (abv c cells).length) from decide_eq_decide.mpr Int.ofNat_lt] at c1
  have hstep:∀ {b:Bool} {ρ':aq} {ep':Nat},Ex1 (prV lower cells x (iw lower cells x ps t)) ρ'->PrI lower cells x (List.range t++[t]) ⟨ρ',[.dict ep' (dkv (iw lower cells x ps t))]⟩:=fun {b ρ' ep'} E=>by
   have e:prs lower cells x (List.range t++[t])=iw lower cells x ps t:=by rw [qx,hps]
   rw [← e] at E ⊢;exact .mk E
  cases ha:(abv c cells)[jy x t]? with
  | none=>
   have es:iw lower cells x ps t=ps:=by unfold iw; rw [hge]; dsimp only; rw [ha]
   rw [es] at hstep;rw [decide_eq_false (Nat.not_lt.mpr (List.getElem?_eq_none_iff.mp ha))] at c1;exact aH (du (Fq c1) (fun h=>nomatch h) fun _=>aw (aO.mpr (aw (cS.mpr (hstep (b:=true) E3)))))
  | some a=>
   have es:iw lower cells x ps t=if c∈prd ps\/a∈prd ps then ps else ps++[(c,a)]:=by unfold iw; rw [hge]; dsimp only; rw [ha]
   rw [decide_eq_true (List.getElem?_eq_some_iff.mp ha).1] at c1;have ea:∀ {ρ' σ},ρ'.lookup "wider" =some (.py (.list ((abv c cells).map nE)))->ρ'.lookup "pick" =some (.py (.int (jy x t:Nat)))->bu (ad "wider") (ad "pick") ⟨ρ',σ⟩=some (.ok (.py (nE a)),⟨ρ',σ⟩):=fun q1 q2=>ji (ah q1) (ah q2) (AG ha) hws;have c2:=iO eCl (by decide) (ec (σ:=[.dict ep (dkv ps)]) E3 t3) (ah (E3 "paired" _ rfl));have c3:=iO eCl (by decide) (ea (σ:=[.dict ep (dkv ps)]) w3 p3) (ah (E3 "paired" _ rfl));refine aH (du (Eh c1 (sq c2 (sq c3 Ft))) (fun hT=>?_) fun hF=>?_)
   .rw [Bool.and_true,Bool.and_eq_true,Bool.not_eq_true',Bool.not_eq_true',decide_eq_false_iff_not,decide_eq_false_iff_not] at hT;rw [if_neg (fun q=>q.elim hT.1 hT.2)] at es;rw [es] at hstep;refine iT (ea w3 p3) (ah (E3 "above" _ rfl)) (ec E3 t3) (gh (k:=kE c) rfl rfl (by unfold dkv; rw [List.length_map]; exact Nat.le_trans hpl (by decide))) ?_;rw [zR hT.1];have e3:=kz (ah (σ:=[.dict (epK (dkv ps) (kE c) ep) (dkv (ps++[(c,a)]))]) (E3 "paired" _ rfl)) (ll (ps:=[nE c,nE a]) (lG (ec E3 t3) (ea w3 p3)) (by decide:2<=ar)) (by rw [List.length_map,D3]; exact Nat.le_trans (show 2 * ps.length+2<=42 by omega) (by decide));have e4:(prd ps).map nE++[nE c,nE a]=(prd (ps++[(c,a)])).map nE:=by rw [va,List.map_append]; rfl
    rw [e4] at e3;exact bk e3 (aw (aO.mpr (aw (cS.mpr (hstep (b:=true) (Ec _ _ _ ps _ E3))))))
   .have hF':c∈prd ps\/a∈prd ps:=by
     rw [Bool.and_true,Bool.and_eq_false_iff,Bool.not_eq_false',Bool.not_eq_false',decide_eq_true_eq,decide_eq_true_eq] at hF;exact hF
    rw [if_pos hF'] at es;rw [es] at hstep;exact aw (aO.mpr (aw (cS.mpr (hstep (b:=true) E3))))
 .obtain @⟨ρ,ep,E⟩:=q;exact jD (Fx (ah (E "above" _ rfl)) (ah (E "paired" _ rfl))) (iS rfl) ⟨rfl,ep,rfl⟩
theorem kc:∀ (n:Nat) (l:List Nat),l.Nodup->(∀ k∈l,k < n)->l.length<=n
 | 0,l,_,h=>by
  cases l with
  | nil=>exact Nat.le_refl 0
  | cons a l=>exact absurd (h a (.head _)) (Nat.not_lt_zero _)
 | n+1,l,hn,h=>by
  have h1:=kc n (l.erase n) (hn.erase n) fun k hk=>by
   have:=h k (List.mem_of_mem_erase hk);have hne:k≠n:=fun e=>by rw [e] at hk; exact absurd hk (List.Nodup.not_mem_erase hn)
   omega
  have h2:l.length<=(l.erase n).length+1:=by rw [List.length_erase]; split <;> omega
  omega
theorem Bh (t:Nat):okP (nE t)=true:=wx (ss t)
noncomputable def t0:T3:=⟨[],fun _=>0,fun _=>[]⟩
noncomputable def tG (pv:Nat->List Nat) (cs:List Nat):T3:=cs.foldl (fun t c=>t.add c (pv c)) t0
section
variable {pv:Nat->List Nat} {cs:List Nat}
theorem lp (pv:Nat->List Nat) (cs:List Nat) (c:Nat):tG pv (cs++[c])=(tG pv cs).add c (pv c):=by
 unfold tG;rw [List.foldl_append];rfl
theorem Gr:t0.Ok:=⟨⟨.nil,fun _ _=>rfl,fun _ _=>rfl,fun _ _ h=>(nomatch h)⟩,fun _=>rfl⟩
theorem qO (pv:Nat->List Nat) (cs:List Nat):(tG pv cs).Ok:=kL (P:=fun cs=>(tG pv cs).Ok) cs Gr fun l a h=>by rw [lp]; exact h.add _ _
theorem y0 (pv:Nat->List Nat) (cs:List Nat):∀ p c,c∈(tG pv cs).sc p↔c∈cs/\p∈pv c:=
 kL (P:=fun cs=>∀ p c,c∈(tG pv cs).sc p↔c∈cs/\p∈pv c) cs (fun p c=>⟨fun h=>(nomatch h),fun h=>(nomatch h.1)⟩) fun l a ih p c=>by
  rw [lp,(qO pv l).add_mem,ih p c,List.mem_append,List.mem_singleton];constructor
  .rintro (⟨h1,h2⟩ | ⟨rfl,h⟩)
   .exact ⟨.inl h1,h2⟩
   .exact ⟨.inr rfl,h⟩
  .rintro ⟨h1 | rfl,h2⟩
   .exact .inl ⟨h1,h2⟩
   .exact .inr ⟨rfl,h2⟩
theorem uD {ps keys:List Nat} {k:Nat}:k∈ps.foldl dp keys↔k∈keys\/k∈ps:=by
 induction ps generalizing keys with
 | nil=>exact ⟨.inl,fun h=>h.elim id fun h=>(nomatch h)⟩
 | cons p ps ih=>rw [List.foldl_cons,ih,kW,List.mem_cons,or_assoc]
theorem yz (pv:Nat->List Nat) (cs:List Nat):∀ k,k∈(tG pv cs).keys↔∃ c∈cs,k=c\/k∈pv c:=
 kL (P:=fun cs=>∀ k,k∈(tG pv cs).keys↔∃ c∈cs,k=c\/k∈pv c) cs (fun k=>⟨fun h=>(nomatch h),fun ⟨_,h,_⟩=>(nomatch h)⟩) fun l a ih k=>by
  have e:((tG pv l).add a (pv a)).keys=(pv a).foldl dp (dp (tG pv l).keys a):=Aw _ _ _;rw [lp,e,uD,kW,ih k,or_assoc];constructor
  .rintro (⟨r,h1,h2⟩ | h)
   .exact ⟨r,List.mem_append_left _ h1,h2⟩
   .exact ⟨a,List.mem_append_right _ (.head _),h⟩
  .rintro ⟨r,h1,h2⟩
   rcases List.mem_append.mp h1 with h1 | h1
   .exact .inl ⟨r,h1,h2⟩
   .rw [List.mem_singleton.mp h1] at h2; exact .inr h2
theorem Gn (h4:∀ c,(pv c).length<=4) (cs:List Nat):∀ h,((tG pv cs).sc h).length<=4 * cs.length:=
 kL (P:=fun cs=>∀ h,((tG pv cs).sc h).length<=4 * cs.length) cs (fun _=>Nat.le_refl 0) fun l a ih h=>by
  have:=wk (L:=4 * l.length) ih a (pv a) h;have:=h4 a;rw [lp,List.length_append,List.length_singleton];omega
theorem Cu (hc:∀ c∈cs,c < 27/\∀ p∈pv c,p < 27):(tG pv cs).keys.length<=27:=kc 27 _ (qO pv cs).nd fun k hk=>by
 obtain ⟨c,h1,h2⟩:=(yz pv cs k).mp hk;exact h2.elim (fun e=>e▸(hc c h1).1) fun q=>(hc c h1).2 k q
end
theorem vg (ps:List Pr) (c:Nat):eh (dkv ps) (kE c)=(ps.lookup c).map fun a=>.py (nE a):=by
 induction ps with
 | nil=>rfl
 | cons p ps ih=>
  obtain ⟨b,a⟩:=p;have:dkv ((b,a)::ps)=(kE b,.py (nE a))::dkv ps:=rfl;rw [this,gG,ih,List.lookup_cons];by_cases h:b=c
  .rw [h,if_pos rfl,beq_self_eq_true]; rfl
  .rw [if_neg (fun e=>h (jQ e)),beq_eq_false_iff_ne.mpr (fun e=>h e.symm)]
noncomputable def prv (ps:List Pr) (c:Nat):List Nat:=match ps.lookup c with
 | some a=>(bd a).filter fun f=>!decide (f=c)
 | none=>[]
theorem Fi:((List.range 27).all fun t=>(bd t).all fun f=>Nat.blt f 27)=true:=by kernel_rfl
theorem A4 {t f:Nat} (h:t < 27) (hf:f∈bd t):f < 27:=Nat.blt_eq.mp (List.all_eq_true.mp (im Fi h) f hf)
theorem De:((List.range 26).all fun t=>Nat.ble (bd t).length 4)=true:=by kernel_rfl
theorem wQ {t:Nat} (h:t < 26):(bd t).length<=4:=Nat.ble_eq.mp (im De h)
theorem gL {ps:List Pr} {c a:Nat} (h:ps.lookup c=some a):(c,a)∈ps:=by
 induction ps with
 | nil=>cases h
 | cons p ps ih=>
  obtain ⟨b,d⟩:=p;rw [List.lookup_cons] at h;by_cases e:c=b
  .rw [e,beq_self_eq_true] at h;cases h;rw [e]; exact .head _
  .rw [beq_eq_false_iff_ne.mpr e] at h;exact .tail _ (ih h)
theorem xU {ps:List Pr} (ha:∀ p∈ps,p.2 < 26) (c:Nat):(prv ps c).length<=4:=by
 unfold prv;cases h:ps.lookup c with
 | none=>exact Nat.zero_le _
 | some a=>exact Nat.le_trans (List.length_filter_le _ _) (wQ (ha (_,_) (gL h)))
theorem Ch {ps:List Pr} (ha:∀ p∈ps,p.2 < 26) {c p:Nat} (h:p∈prv ps c):p < 27:=by
 unfold prv at h;cases e:ps.lookup c with
 | none=>rw [e] at h; cases h
 | some a=>
  rw [e] at h;exact A4 (Nat.lt_succ_of_lt (ha (_,_) (gL e))) (List.mem_filter.mp h).1
theorem uW {ps:List Pr} {c ep:Nat} {σ:List O} {n:Nat} {f g:AM D} {ρ:aq} (hf:f ⟨ρ,σ⟩=some (.ok (.py (nE c)),⟨ρ,σ⟩)) (hg:g ⟨ρ,σ⟩=some (.ok (.obj n),⟨ρ,σ⟩)) (h:σ[n]?=some (.dict ep (dkv ps))):aJ .In f g ⟨ρ,σ⟩=some (.ok (ps.lookup c).isSome,⟨ρ,σ⟩):=by
 have:=yr hf hg h (k:=kE c) rfl;rw [mA,vg,Option.isSome_map] at this;exact this
theorem nj {ps:List Pr} {c a ep:Nat} {σ:List O} {n:Nat} {f g:AM D} {ρ:aq} (hf:f ⟨ρ,σ⟩=some (.ok (.obj n),⟨ρ,σ⟩)) (hg:g ⟨ρ,σ⟩=some (.ok (.py (nE c)),⟨ρ,σ⟩)) (h:σ[n]?=some (.dict ep (dkv ps))) (hl:ps.lookup c=some a):bu f g ⟨ρ,σ⟩=some (.ok (.py (nE a)),⟨ρ,σ⟩):=
 io hf hg h (by rw [vg,hl]; rfl)
theorem Av {ps:List Pr} (ha:∀ p∈ps,p.2 < 26) {c ep:Nat} {σ:List O} {n:Nat} {ρ:aq} (h1:ρ.lookup "cell" =some (.py (nE c))) (h2:ρ.lookup "above" =some (.obj n)) (h:σ[n]?=some (.dict ep (dkv ps))):
  ifE (aJ .In (ad "cell") (ad "above")) ((ao (bu (ad "above") (ad "cell")) (pure []))>>=bV cr) (dl (pure [])) ⟨ρ,σ⟩=some (.ok (.py (.list ((match ps.lookup c with | some a=>bd a | none=>[]).map nE))),⟨ρ,σ⟩):=by
 refine bnd (uW (ah h1) (ah h2) h) ?_;cases e:ps.lookup c with
 | none=>rfl
 | some a=>exact jj (q:=nE a) (nj (ah h2) (ah h1) h e) (no (Nat.lt_succ_of_lt (ha (_,_) (gL e))))
theorem sg {fs:List String} {c:Nat} {l:List Nat} {it:AM (List D×Chk)} {ρ:aq} {σ:List O} (hit:it ⟨ρ,σ⟩=some (.ok (l.map fun f=>.py (nE f),fun _=>pure ()),⟨ρ,σ⟩)) (h1:ρ.lookup "cell" =some (.py (nE c))) (hl:l.length<=6) (hc: "cell" ∈fs) (hf: "face" ∉fs) {el:AM D} {e:Nat->PyData} (hel:∀ f∈l,∀ ρ',Ag fs ρ ρ'->ρ'.lookup "face" =some (.py (nE f))->f≠c->el ⟨ρ',σ⟩=some (.ok (.py (e f)),⟨ρ',σ⟩)):
  bf false fs ⟨it,(aQ "face"),[(aJ .NotEq (ad "face") (ad "cell"))]⟩ [] el ⟨ρ,σ⟩=some (.ok (.py (.list ((l.filter fun f=>!decide (f=c)).map e))),⟨ρ,σ⟩):=
 d9 l nE (fun f=>!decide (f=c)) e hit hf (Nat.le_trans hl (by decide)) fun f hf ρ' hA hv=>
  ⟨g5 (yt (ah hv) (ah (hA.get h1 hc)) (Bh _) (Bh _) (CU _ _)),fun hd=>hel f hf ρ' hA hv (by rw [Bool.not_eq_true',decide_eq_false_iff_not] at hd; exact hd)⟩
theorem A0 {σ0 σ1:List O} {s d h:Nat} {ni li:Nat->Nat} {t:T3} {ab:Int×Int} {fH fL:AM D} {ps:List Nat} {ρ:aq} {g:AM aj} {P:Except Value aj->ASt->Prop} (T:TSt σ0 σ1 s d ni li t (.py .none) ab) (h1:ρ.lookup "sorter" =some (.obj s))
  (eH:fH ⟨ρ,σ1++[.meth aW s]⟩=some (.ok (.py (nE h)),⟨ρ,σ1++[.meth aW s]⟩)) (eL:fL ⟨ρ,σ1++[.meth aW s]⟩=some (.ok (.py (.list (ps.map nE))),⟨ρ,σ1++[.meth aW s]⟩)) (hps:ps.length<=4) (hk:t.keys.length<=40) (hsc:∀ h,(t.sc h).length<=200)
  (hP:∀ ni' li' σ',TSt σ0 σ' s d ni' li' (t.add h ps) (.py .none) ab->Out (g ⟨ρ,σ'⟩) P):
  Out (ak (cv (nR ae "add" aW (ad "sorter") (ao fH (Gc fL (pure []))) (dI d8 bT))) g ⟨ρ,σ1⟩) P:=by
 have hi:=bQ.inst T;have T':TSt σ0 (σ1++[.meth aW s]) s d ni li t (.py .none) ab:=bQ.later T (Old.app _ _);refine m6 (rV (ah h1) hi (show "add" ∉q8 by decide) (ds:=.py (nE h)::ps.map fun (n:Nat)=>D.py (nE n)) ?_ (AS (Nat.le_trans hps (by decide))) ?_)
 .refine bnd eH (bnd (bnd eL (bnd (cM (f:=fun σ=>gO σ _) (b:=ps.map fun (n:Nat)=>D.py (nE n)) ?_) (bnd rfl rfl))) ?_)
  .rw [qA (by rw [List.length_map]; exact Nat.le_trans hps (by decide)),List.map_map];rfl
  .rw [List.append_nil];rfl
 .refine (FY T' h ps (by omega) 200 hsc (by omega)).mono fun r st' ⟨e,ni',li',T2⟩=>?_;subst e;exact hP ni' li' _ T2
theorem FF (ps:List Pr) (c:Nat):((match ps.lookup c with | some a=>bd a | none=>[]).filter fun f=>!decide (f=c))=prv ps c:=by
 unfold prv;cases ps.lookup c <;> rfl
theorem CB {ps:List Pr} (ha:∀ p∈ps,p.2 < 26) (c:Nat):(match ps.lookup c with | some a=>bd a | none=>[]).length<=6:=by
 cases h:ps.lookup c with
 | none=>exact Nat.zero_le _
 | some a=>exact Nat.le_trans (wQ (ha (_,_) (gL h))) (by decide)
theorem xa {lower:List Nat} {ps:List Pr} {ep:Nat} (hc:∀ c∈lower,c < 27) (hl:lower.length<=20) (ha:∀ p∈ps,p.2 < 26):
  Out (eI ⟨[("lower",.py (.list (lower.map nE))),("above",.obj 0)],[.dict ep (dkv ps)]⟩) fun r st=>r=.ok (.ret (.obj 1))/\∃ ni li,TSt [.dict ep (dkv ps)] st.σ 1 2 ni li (tG (prv ps) lower) (.py .none) (0,0):=by
 refine bk (bnd rfl (wh ⟨_,[.dict ep (dkv ps)]⟩)) ?_;refine dF lower (fun c=>.py (nE c)) (fun ys st=>Sm ["cell", "faces"] [("lower",.py (.list (lower.map nE))),("above",.obj 0),("sorter",.obj 1)] st.ρ/\∃ ni li,TSt [.dict ep (dkv ps)] st.σ 1 2 ni li (tG (prv ps) ys) (.py .none) (0,0)) (di (e:=nE) rfl) (fun _ _ _ _=>rfl) ⟨.refl _ _,_,_,F7 [.dict ep (dkv ps)]⟩ ?_ ?_
 .rintro ys c zs ⟨ρ,σ1⟩ hx ⟨q1,ni,li,T⟩
  have hz:(O.dict ep (dkv ps))≠.dead:=fun e=>nomatch e;have h0:σ1[0]?=some (.dict ep (dkv ps)):=bQ.old T 0 _ rfl hz;have q2:Sm ["cell", "faces"] [("lower",.py (.list (lower.map nE))),("above",.obj 0),("sorter",.obj 1)] (put "cell" (.py (nE c)) ρ):=q1.put (.head _);have hyl:ys.length<=20:=Nat.le_trans (by rw [hx,List.length_append]; exact Nat.le_add_right ..) hl;have hyc:∀ c∈ys,c < 27:=fun c h=>hc c (by rw [hx]; exact List.mem_append_left _ h);refine dH rfl (bk (Av ha aD (q2.get rfl (by decide)) h0) ?_);have q3:=q2.put (v:= "faces") (d:=.py (.list ((match ps.lookup c with | some a=>bd a | none=>[]).map nE))) (.tail _ (.head _));refine A0 (ps:=prv ps c) T (q3.get rfl (by decide)) (ah (aY aD (by decide))) ?_ (xU ha c) (Nat.le_trans (Cu fun c h=>⟨hyc c h,fun p hp=>Ch ha hp⟩) (by decide)) (fun h=>Nat.le_trans (Gn (xU ha) ys h) (by omega)) fun ni' li' σ' T2=>?_
  .rw [← FF];exact sg (e:=nE) (di (e:=nE) aD) (aY aD (by decide)) (CB ha c) (by decide) (by decide) fun f hf ρ' hA hv _=>ah hv
  .exact aw (cS.mpr ⟨q3,ni',li',lp ..▸T2⟩)
 .rintro ⟨ρ,σ1⟩ ⟨q1,ni,li,T⟩
  refine jD (ah (q1.get rfl (by decide))) (iS ?_) ⟨rfl,ni,li,T⟩;show (vb σ1[1]?).map _=none;rw [T.inst];rfl
section
variable {σb σ:List O} {s d:Nat} {ni li:Nat->Nat} {keys:List Nat} {np:Nat->Int} {sc:Nat->List Nat} {rl:Nat} {rs:List Nat}
theorem BL {n:Nat} {l:List Nat} {f:AM D} {st:ASt} {ρ:aq} {σ:List O} (hf:f st=some (.ok (.obj n),⟨ρ,σ⟩)) (h:σ[n]?=some (fB l)) (hl:l.length<=ar):((ao f (pure []))>>=Bu) st=some (.ok (.py (.bool (!l.isEmpty))),⟨ρ,σ⟩):=
 bnd (dL hf) (cM (f:=yR (.obj n)) (by
  have hv:viewL σ (.obj n)=some (l.map fun (n:Nat)=>D.py (nE n)):=by show sG σ[n]?=_; rw [h]; rfl
  unfold yR;show (viewL σ (.obj n)).bind _=_;rw [hv];show (if (l.map fun (n:Nat)=>D.py (nE n)).length<=ar then some (D.py (.bool (!(l.map fun (n:Nat)=>D.py (nE n)).isEmpty))) else none)=_;rw [List.length_map,if_pos hl,ny]))
theorem Dk {f g:AM D} {a b:Bool} {st st1 st2:ASt} (hf:f st=some (.ok (.py (.bool a)),st1)) (hg:g st1=some (.ok (.py (.bool b)),st2)) (h2:st2=st1):orE f g st=some (.ok (.py (.bool (a||b))),st1):=bnd hf (bnd (b:=a) (st1:=st1) rfl (by
 subst h2;cases a with
 | true=>rfl
 | false=>exact hg))
theorem Ac {a b:Int} (T:bQ σb σ s d ni li keys np sc (.obj rl) (a,b)) (R:Rd σb σ keys li rl rs) (hl:rs.length<=100):
  Out (bw ⟨[("self",.obj s)],σ⟩) fun r st'=>r=.ok (.ret (.py (.bool (decide (b < a)||!rs.isEmpty))))/\st'.σ=σ:=by
 have hi:=T.inst;refine aH (du (qh (dS (ah rfl) hi (d:=.obj rl) rfl rfl) rfl (b:=false) rfl) (fun h=>nomatch h) fun _=>aw (aO.mpr ?_));have e1:=yI (lt_int (dS (nm:= "_nfinished") (ah (v:= "self") (ρ:=[("self",.obj s)]) rfl) hi (d:=.py (.int b)) rfl rfl) (dS (nm:= "_npassedout") (ah (v:= "self") rfl) hi (d:=.py (.int a)) rfl rfl));have e2:=BL (dS (nm:= "_ready_nodes") (ah (v:= "self") (ρ:=[("self",.obj s)]) rfl) hi (d:=.obj rl) rfl rfl) R.at_ (Nat.le_trans hl (by decide));exact eF (Dk e1 e2 rfl) ⟨rfl,rfl⟩
noncomputable def dnL (np:Nat->Int) (sc:Nat->List Nat) (ys:List Nat) (k:Nat):Int:=if k∈ys then -2 else np k - (fJ sc ys k:Nat)
structure DnL (σb:List O) (s d:Nat) (ni li:Nat->Nat) (keys:List Nat) (np:Nat->Int) (sc:Nat->List Nat) (rl L:Nat) (ab:Int×Int) (ys:List Nat) (σ':List O):Prop where
 T:bQ σb σ' s d ni li keys (dnL np sc ys) sc (.obj rl) (ab.1,ab.2+(ys.length:Nat))
 R:∃ rs',Rd σb σ' keys li rl rs'/\rs'.length<=L * ys.length/\(∀ h,h∈rs'↔1<=np h/\np h<=fJ sc ys h)/\rs'.Nodup
theorem DQ (np:Nat->Int) (sc:Nat->List Nat):dnL np sc []=np:=funext fun k=>by
 show (if k∈([]:List Nat) then (-2:Int) else np k - ((0:Nat):Int))=np k;rw [if_neg List.not_mem_nil,Int.natCast_zero,Int.sub_zero]
theorem CD {np:Nat->Int} {sc:Nat->List Nat} {ys:List Nat} {h:Nat} (hz:∀ k∈ys,k∉sc h):dn (dnL np sc ys) h (sc h)=dnL np sc (ys++[h]):=funext fun k=>by
 unfold dn dnL;rw [mX,ie,pZ];by_cases e:k=h
 .rw [if_pos e,if_pos (List.mem_append_right _ (List.mem_singleton.mpr e))]
 .rw [if_neg e];by_cases q:k∈ys
  .rw [if_pos q,if_pos (List.mem_append_left _ q),List.count_eq_zero.mpr (hz k q)];rfl
  .rw [if_neg q,if_neg (fun m=>(List.mem_append.mp m).elim q fun m=>e (List.mem_singleton.mp m))];omega
noncomputable def uy (s d:Nat) (g:List Nat):aq:=[("self",.obj s),("nodes",.py (fS g)),("n2i",.obj d)]
theorem BR (T:bQ σb σ s d ni li keys np sc (.obj rl) ab) (R:Rd σb σ keys li rl []) {g:List Nat} {L:Nat} (hg:∀ h∈g,h∈keys/\np h=-1) (hnd:g.Nodup) (hsc:∀ h∈g,∀ c∈sc h,c∈keys/\c∉g) (hL:∀ h∈g,(sc h).length<=L) (hl:L * g.length+L<=1000):
  Out (bR ⟨[("self",.obj s),("nodes",.py (fS g))],σ⟩) fun r st'=>r=.ok .next/\DnL σb s d ni li keys np sc rl L ab g st'.σ:=by
 have hi:=T.inst;obtain ⟨ep,hd⟩:=T.dict;refine aH (du (qh (dS (ah rfl) hi (d:=.obj rl) rfl rfl) rfl (b:=false) rfl) (fun h=>nomatch h) fun _=>aw (aO.mpr ?_));refine bk (dS (ah rfl) hi (d:=.obj d) rfl rfl) ?_;show Out ((ak _ _) ⟨uy s d g,σ⟩) _;refine dF g (fun (h:Nat)=>.py (nE h)) (fun ys st=>Sm ["node", "nodeinfo", "stat", "successor", "successor_info"] (uy s d g) st.ρ/\DnL σb s d ni li keys np sc rl L ab ys st.σ)
  (xB (ah rfl)) (fun _ _ _ _=>rfl) ⟨.refl _ _,by rw [DQ]; simpa using T,[],R,Nat.zero_le _,fun h=>⟨fun q=>(nomatch q),fun q=>absurd (Int.le_trans q.1 q.2) (by rw [pZ]; decide)⟩,.nil⟩ ?_ fun st I=>aw ⟨rfl,I.2⟩
 rintro ys h zs ⟨ρ,σ1⟩ hx ⟨h1,T1,rs1,R1,j2,j3,j4⟩
 have hm:h∈g:=by rw [hx]; exact List.mem_append_right _ (.head _)
 obtain ⟨hk,hn⟩:=hg h hm;obtain ⟨ep1,hd1⟩:=T1.dict;have hys:∀ k∈ys,k∈g:=fun k hk=>by rw [hx]; exact List.mem_append_left _ hk
 have hny:h∉ys:=fun q=>by
  rw [hx] at hnd;exact (List.nodup_append.mp hnd).2.2 h q h (.head _) rfl
 have hz:∀ k∈g,∀ k'∈g,k∉sc k':=fun k hk k' hk' q=>(hsc k' hk' k q).2 hk
 have hnp:dnL np sc ys h=-1:=by
  unfold dnL;rw [if_neg hny,hn,k8.mpr fun p hp=>hz h hm p (hys p hp)];rfl
 have e0:=T1.info h hk;rw [hnp] at e0;have w1:Sm ["node", "nodeinfo", "stat", "successor", "successor_info"] (uy s d g) (put "node" (.py (nE h)) ρ):=h1.put (by decide);have e1:=dR (T:= "dict") (k:=CK) (ah (ρ:=put "node" (.py (nE h)) ρ) (σ:=σ1) (v:= "n2i") (d:=.obj d) (w1.get rfl (by decide))) (vn hd1) (dL (ah (v:= "node") aD)) (wa hd1);rw [ig,if_pos hk] at e1;refine aH (du (qh (wO e1) rfl (b:=false) rfl) (fun h=>nomatch h) fun _=>aw (aO.mpr ?_));have w2:Sm ["node", "nodeinfo", "stat", "successor", "successor_info"] (uy s d g) (put "nodeinfo" (.obj (ni h)) (put "node" (.py (nE h)) ρ)):=w1.put (by decide);refine bk (slot_of (i:=1) (ah aD) e0 (d:=.py (.int (-1))) rfl rfl) ?_;have w3:Sm ["node", "nodeinfo", "stat", "successor", "successor_info"] (uy s d g) (put "stat" (.py (.int (-1))) (put "nodeinfo" (.obj (ni h)) (put "node" (.py (nE h)) ρ))):=w2.put (by decide);refine aH (du (Fb (ah aD) (g:=pure (.py (.int (-1)))) rfl) (fun ht=>nomatch ht) fun _=>aw (aO.mpr ?_));have v3:(put "stat" (.py (.int (-1))) (put "nodeinfo" (.obj (ni h)) (put "node" (.py (nE h)) ρ))).lookup "nodeinfo" =some (.obj (ni h)):=aY aD (by decide);refine dc (v:=.py (.int (-2))) rfl (jA (ah v3) e0) ?_;have T2:=T1.setnp hk (-2);rw [EU] at T2;have R2:=R1.set (niO h (-2) (li h)) (R1.neNi T1 hk);show Out ((ak _ _) ⟨put "stat" (.py (.int (-1))) (put "nodeinfo" (.obj (ni h)) (put "node" (.py (nE h)) ρ)),σ1.set (ni h) (niO h (-2) (li h))⟩) _;generalize put "stat" (.py (.int (-1))) (put "nodeinfo" (.obj (ni h)) (put "node" (.py (nE h)) ρ))=ρ3 at w3 v3 ⊢;have hsl:(sc h).length<=L:=hL h hm;have hgl:ys.length+1<=g.length:=by rw [hx,List.length_append]; exact Nat.add_le_add_left (Nat.succ_le_succ (Nat.zero_le _)) _
 have hb1:L * ys.length+L<=L * g.length:=by rw [← Nat.mul_succ]; exact Nat.mul_le_mul_left L hgl
 refine dF (sc h) (fun (c:Nat)=>.py (nE c)) (fun zs st=>Sm ["successor", "successor_info"] ρ3 st.ρ/\DnI (ab:=(ab.1,ab.2+(ys.length:Nat))) σb s d ni li keys (dnL np sc ys) sc rl rs1 h zs st.σ)
  (CE (slot_of (i:=2) (ah v3) (T2.info h hk) rfl rfl) (T2.succ h hk)) (fun ys st hI k=>kZ (hI.2.T.succ h hk)) ⟨.refl _ _,T2,rs1,R2,Nat.le_refl _,fun k=>⟨.inl,fun q=>q.elim id fun q=>absurd (Int.le_trans q.1 q.2) (by rw [List.count_nil]; decide)⟩,fun n _=>n⟩ ?_ ?_
 .rintro us c vs ⟨ρ4,σ4⟩ hx2 ⟨j1,I⟩
  have hcs:c∈sc h:=by rw [hx2]; exact List.mem_append_right _ (.head _)
  have hul:us.length<=(sc h).length:=by rw [hx2,List.length_append]; exact Nat.le_add_right ..
  exact D4 (hand:=h) (hsc h hm c hcs).1 (fun e=>(hsc h hm c hcs).2 (e▸hm)) (Nat.le_trans (Nat.add_le_add j2 (Nat.le_trans hul hsl)) (by omega)) I (w3.get rfl (by decide)) (w3.get rfl (by decide)) j1 fun ρ' σ' q1 q2=>cS.mpr ⟨q1,q2⟩
 .rintro ⟨ρ4,σ4⟩ ⟨j1,T5,rs',R5,k2,k3,k4⟩
  have hi5:=T5.inst;rw [CD fun k hk'=>hz k (hys k hk') h hm] at T5;refine aH (Out.of (vZ (ah ((j1.get (w3.get rfl (by decide)) (by decide)):ρ4.lookup "self" =some (.obj s))) hi5 rfl (show 4<=ar by decide) rfl rfl) (aO.mpr (aw (cS.mpr ⟨?_,?_,rs',R5.set _ (R5.neS T5),?_,fun k=>?_,k4 j4 fun k q=>?_⟩))))
  .exact fun u hu=>(j1 u fun q=>hu ((List.mem_cons.mp q).elim (fun e=>e▸.tail _ (.tail _ (.tail _ (.head _)))) fun q=>List.mem_singleton.mp q▸.tail _ (.tail _ (.tail _ (.tail _ (.head _)))))).trans (w3 u hu)
  .have:=T5.setr (.obj rl) ab.1 (ab.2+((ys++[h]).length:Nat));have e:(ab.2+(ys.length:Nat)+1:Int)=ab.2+((ys++[h]).length:Nat):=by rw [List.length_append,List.length_singleton,Int.natCast_add,Int.add_assoc]; rfl
   rw [← e] at this ⊢;exact this
  .rw [List.length_append,List.length_singleton,Nat.mul_succ]; omega
  .rw [k3 k,j3 k,mX,ie,pZ];unfold dnL;by_cases q:k∈ys
   .have h1:=(hg k (hys k q)).2;rw [if_pos q,h1];omega
   .rw [if_neg q];omega
  .have q:=(j3 k).mp q;have hky:k∉ys:=fun hy=>by have:=(hg k (hys k hy)).2; omega
   unfold dnL;rw [if_neg hky];omega
end
noncomputable def rdT (t:T3):Nat->Nat->Bool
 | 0,_=>false
 | u+1,k=>t.keys.all fun p=>!decide (k∈t.sc p)||rdT t u p
section
variable {t:T3} (ok:t.Ok)
include ok
theorem pX {u k:Nat}:rdT t (u+1) k=true↔∀ p,k∈t.sc p->rdT t u p=true:=by
 show (t.keys.all _)=true↔_;rw [List.all_eq_true];constructor
 .intro h p hp;have hk:p∈t.keys:=Classical.byContradiction fun q=>by rw [ok.sc0 p q] at hp; cases hp
  have:=h p hk;rw [decide_eq_true hp] at this;exact this
 .intro h p _;by_cases hp:k∈t.sc p
  .rw [h p hp,Bool.or_true]
  .rw [decide_eq_false hp]; rfl
theorem md:∀ (u k:Nat),rdT t u k=true->rdT t (u+1) k=true
 | 0,_,h=>by cases h
 | u+1,k,h=>(pX ok).mpr fun p hp=>md u p ((pX ok).mp h p hp)
theorem sJ {p c u:Nat} (hc:c∈t.sc p) (h:rdT t (u+1) c=true):rdT t u p=true:=(pX ok).mp h p hc
theorem uZ {p c u:Nat} (hc:c∈t.sc p) (h:rdT t u c=true):rdT t u p=true:=by
 cases u with
 | zero=>cases h
 | succ u=>exact md ok u p (sJ ok hc h)
theorem Fw {u:Nat} {rk:Nat->Nat} (hr:∀ p c,c∈t.sc p->rk p < rk c) (h:∀ k∈t.keys,rdT t (u+1) k=true->rdT t u k=true):∀ k∈t.keys,rdT t u k=true:=by
 have:∀ n k,rk k < n->k∈t.keys->rdT t u k=true:=fun n=>by
  induction n with
  | zero=>exact fun k h=>absurd h (Nat.not_lt_zero _)
  | succ n ih=>
   exact fun k hk hkk=>h k hkk ((pX ok).mpr fun p hp=>ih p (Nat.lt_of_lt_of_le (hr p k hp) (Nat.le_of_lt_succ hk)) (Classical.byContradiction fun q=>by rw [ok.sc0 p q] at hp; cases hp))
 exact fun k hk=>this _ k (Nat.lt_succ_self _) hk
end
noncomputable def eB (t:T3) (u:Nat):List Nat:=t.keys.filter fun k=>!rdT t u k
theorem iD {t:T3} {u k:Nat}:k∈eB t u↔k∈t.keys/\rdT t u k=false:=by
 unfold eB;rw [List.mem_filter,Bool.not_eq_true']
structure RoN (t:T3) (u:Nat) (np:Nat->Int) (rd:List Nat):Prop where
 nd:rd.Nodup
 mem:∀ k,k∈rd↔k∈t.keys/\rdT t u k=false/\rdT t (u+1) k=true
 num:∀ k∈t.keys,(rdT t u k=true/\np k=-2)\/(rdT t u k=false/\np k=(fJ t.sc (eB t u) k:Nat))
 out:∀ k,k∉t.keys->np k=0
section
variable {t:T3} (ok:t.Ok)
include ok
theorem q7 {u k:Nat}:fJ t.sc (eB t u) k=0↔rdT t (u+1) k=true:=by
 rw [k8,pX ok];constructor
 .intro h p hp;cases q:rdT t u p with
  | true=>rfl
  | false=>exact absurd hp (h p (iD.mpr ⟨Classical.byContradiction fun z=>(by rw [ok.sc0 p z] at hp; cases hp),q⟩))
 .intro h p hp hc;have:=h p hc;rw [(iD.mp hp).2] at this;cases this
theorem RoN.start {rd:List Nat} (h1:rd=t.keys.filter fun h=>decide (t.np h=0)):RoN t 0 t.np rd:=by
 have e0:eB t 0=t.keys:=List.filter_eq_self.mpr fun _ _=>rfl;refine ⟨h1▸ok.nd.filter _,fun k=>?_,fun k hk=>.inr ⟨rfl,by rw [e0]; exact ok.deg k⟩,ok.np0⟩;rw [h1,List.mem_filter,decide_eq_true_eq];refine and_congr_right fun hk=>?_;rw [← q7 ok,e0,ok.deg k];exact ⟨fun h=>⟨rfl,by omega⟩,fun h=>by omega⟩
theorem RoN.free {u:Nat} {np:Nat->Int} {rd:List Nat} (R:RoN t u np rd):∀ h∈rd,∀ c∈t.sc h,c∈t.keys/\c∉rd:=fun h hh c hc=>
 ⟨ok.cl h c hc,fun q=>by
  have:=sJ ok hc ((R.mem c).mp q).2.2;rw [((R.mem h).mp hh).2.1] at this;cases this⟩
theorem RoN.perm {u:Nat} {np:Nat->Int} {rd:List Nat} (R:RoN t u np rd):(eB t u).Perm (rd++eB t (u+1)):=by
 refine (List.perm_ext_iff_of_nodup (ok.nd.filter _) (List.nodup_append.mpr ⟨R.nd,ok.nd.filter _,fun a ha b hb e=>?_⟩)).mpr fun k=>?_
 .have h1:=((R.mem a).mp ha).2.2;have h2:=(iD.mp hb).2;rw [e,h2] at h1;cases h1
 .rw [List.mem_append];show k∈eB t u↔k∈rd\/k∈eB t (u+1);rw [iD,iD,R.mem k];constructor
  .rintro ⟨h1,h2⟩
   cases q:rdT t (u+1) k with
   | true=>exact .inl ⟨h1,h2,rfl⟩
   | false=>exact .inr ⟨h1,rfl⟩
  .rintro (⟨h1,h2,_⟩ | ⟨h1,h2⟩)
   .exact ⟨h1,h2⟩
   .refine ⟨h1,?_⟩;cases q:rdT t u k with
    | true=>rw [md ok u k q] at h2; cases h2
    | false=>rfl
theorem RoN.step {u:Nat} {np:Nat->Int} {rd rd2:List Nat} (R:RoN t u np rd) (hd2:rd2.Nodup) (hm:∀ k,k∈rd2↔1<=(if k∈rd then (-1:Int) else np k)/\(if k∈rd then (-1:Int) else np k)<=fJ t.sc rd k):
  RoN t (u+1) (dnL (fun h=>if h∈rd then -1 else np h) t.sc rd) rd2:=by
 have hS:∀ k,fJ t.sc (eB t u) k=fJ t.sc rd k+fJ t.sc (eB t (u+1)) k:=fun k=>by rw [zL (R.perm ok) k,mX]
 have ho:∀ k,k∉t.keys->fJ t.sc rd k=0:=fun k hk=>k8.mpr fun p _ q=>hk (ok.cl p k q);have hkr:∀ k∈rd,k∈t.keys:=fun k h=>((R.mem k).mp h).1
 have dn1:∀ k,k∉rd->dnL (fun h=>if h∈rd then -1 else np h) t.sc rd k=np k - (fJ t.sc rd k:Nat):=fun k h=>by
  unfold dnL;rw [if_neg h];show (if k∈rd then (-1:Int) else np k) - _=_;rw [if_neg h]
 refine ⟨hd2,fun k=>?_,fun k hk=>?_,fun k hk=>?_⟩
 .rw [hm k];by_cases hk:k∈t.keys
  .by_cases hr:k∈rd
   .rw [if_pos hr];refine ⟨fun q=>absurd q.1 (by decide),fun q=>?_⟩;rw [((R.mem k).mp hr).2.2] at q;exact nomatch q.2.1
   .rw [if_neg hr];rcases R.num k hk with ⟨h1,h2⟩ | ⟨h1,h2⟩
    .rw [h2];refine ⟨fun q=>absurd q.1 (by decide),fun q=>?_⟩;rw [md ok u k h1] at q;exact nomatch q.2.1
    .have h3:rdT t (u+1) k=false:=by
      cases q:rdT t (u+1) k with
      | true=>exact absurd ((R.mem k).mpr ⟨hk,h1,q⟩) hr
      | false=>rfl
     have h4:fJ t.sc (eB t u) k≠0:=fun z=>by rw [(q7 ok).mp z] at h3; cases h3
     rw [h2,hS k] at *;rw [← q7 ok (u:=u+1)];constructor
     .intro q; exact ⟨hk,h3,by omega⟩
     .rintro ⟨_,_,q⟩; omega
  .rw [if_neg (fun q=>hk (hkr k q)),R.out k hk];exact ⟨fun q=>absurd q.1 (by decide),fun q=>absurd q.1 hk⟩
 .by_cases hr:k∈rd
  .exact .inl ⟨((R.mem k).mp hr).2.2,if_pos hr⟩
  .rw [dn1 k hr];rcases R.num k hk with ⟨h1,h2⟩ | ⟨h1,h2⟩
   .have:fJ t.sc rd k=0:=k8.mpr fun p hp hc=>by
     have:=uZ ok hc h1;rw [((R.mem p).mp hp).2.1] at this;cases this
    rw [this,h2];exact .inl ⟨md ok u k h1,rfl⟩
   .refine .inr ⟨?_,?_⟩
    .cases q:rdT t (u+1) k with
     | true=>exact absurd ((R.mem k).mpr ⟨hk,h1,q⟩) hr
     | false=>rfl
    .rw [h2,hS k]; omega
 .rw [dn1 k (fun q=>hk (hkr k q)),R.out k hk,ho k hk];rfl
theorem RoN.less {u:Nat} {np:Nat->Int} {rd:List Nat} (R:RoN t u np rd):(eB t u).length=rd.length+(eB t (u+1)).length:=by
 have:=(R.perm ok).length_eq;rw [List.length_append] at this;exact this
end
noncomputable def rg (σb:List O) (n:Nat) (X:O):List O:=(σb++List.replicate (n - σb.length) .dead)++[X]
theorem xV {σb:List O} {n:Nat} {X:O} (h:σb.length<=n):(rg σb n X)[n]?=some X:=by
 have:=d6 (σ:=σb++List.replicate (n - σb.length) .dead) (o:=X);rw [List.length_append,List.length_replicate,Nat.add_sub_cancel' h] at this;exact this
theorem uk {σb:List O} {n a:Nat} {X:O} (h:a < σb.length):(rg σb n X)[a]?=σb[a]?:=by
 unfold rg;rw [List.append_assoc,List.getElem?_append_left h]
theorem uu {σb:List O} {n a:Nat} {X:O} (h:σb.length<=a) (h2:a < n):(rg σb n X)[a]?=some .dead:=by
 unfold rg;rw [List.getElem?_append_left (by rw [List.length_append,List.length_replicate]; omega),List.getElem?_append_right h,List.getElem?_replicate,if_pos (by omega)]
theorem mI {σb:List O} {n a:Nat} {X:O} (h:Fr σb a) (h2:a < n):Fr (rg σb n X) a:=fun o e=>by
 by_cases q:a < σb.length
 .rw [uk q] at e; exact h o e
 .rw [uu (Nat.le_of_not_lt q) h2] at e;exact (Option.some.inj e).symm
theorem AR {σb σ:List O} {X:O} (h:nO σb σ) (hl:σb.length<=σ.length):nO (rg σb σ.length X) (σ++[X]):=fun a o e q=>by
 by_cases h1:a < σb.length
 .rw [uk h1] at e;have:=h a o e q;rw [List.getElem?_append_left (bM this)];exact this
 .by_cases h2:a < σ.length
  .rw [uu (Nat.le_of_not_lt h1) h2] at e;exact absurd (Option.some.inj e).symm q
  .have hlt:=bM e;unfold rg at hlt;rw [List.length_append,List.length_append,List.length_replicate,List.length_singleton] at hlt;have ha:a=σ.length:=by omega
   rw [ha,xV hl] at e;rw [ha,← e];exact d6
section
variable {σ0 σ:List O} {s d:Nat} {ni li:Nat->Nat} {keys:List Nat} {np:Nat->Int} {sc:Nat->List Nat} {rl:Nat} {rs:List Nat} {ab:Int×Int}
theorem bQ.rebase2 (T:bQ σ0 σ s d ni li keys np sc (.obj rl) ab) (R:Rd σ0 σ keys li rl rs) (hl:σ0.length<=σ.length) (X:O):bQ (rg σ0 σ.length X) (σ++[X]) s d ni li keys np sc (.obj rl) ab/\Rd (rg σ0 σ.length X) (σ++[X]) keys li rl rs:=
 have o:=Old.app σ [X]
 let ⟨ep,hd⟩:=T.dict
 let ⟨f1,f2,f3⟩:=T.lo
 ⟨⟨AR T.old hl,o _ _ T.inst,⟨ep,o _ _ hd⟩,T.nd,fun k hk=>o _ _ (T.info k hk),fun k hk=>o _ _ (T.succ k hk),T.inj,mI f1 (bM T.inst),mI f2 (bM hd),fun k hk=>⟨mI (f3 k hk).1 (bM (T.info k hk)),mI (f3 k hk).2 (bM (T.succ k hk))⟩⟩,
  o _ _ R.at_,mI R.lo (bM R.at_),R.ne⟩
theorem bQ.setj {j:Nat} {X:O} (T:bQ σ0 σ s d ni li keys np sc (.obj rl) ab) (R:Rd σ0 σ keys li rl rs) (hj:σ0[j]?=some X) (hX:X≠.dead) (X':O):bQ (σ0.set j X') (σ.set j X') s d ni li keys np sc (.obj rl) ab/\Rd (σ0.set j X') (σ.set j X') keys li rl rs:=by
 have ne:∀ {a},Fr σ0 a->j≠a:=fun f e=>hX (f X (e▸hj));have fr:∀ {a},Fr σ0 a->Fr (σ0.set j X') a:=fun f o e=>f o (by rw [List.getElem?_set_ne (ne f)] at e; exact e);obtain ⟨ep,hd⟩:=T.dict;obtain ⟨f1,f2,f3⟩:=T.lo;refine ⟨⟨fun a o e q=>?_,aE T.inst (ne f1),⟨ep,aE hd (ne f2)⟩,T.nd,fun k hk=>aE (T.info k hk) (ne (f3 k hk).1),fun k hk=>aE (T.succ k hk) (ne (f3 k hk).2),T.inj,fr f1,fr f2,fun k hk=>⟨fr (f3 k hk).1,fr (f3 k hk).2⟩⟩,aE R.at_ (ne R.lo),fr R.lo,R.ne⟩;by_cases h:j=a
 .subst h;rw [List.getElem?_set_self (bM hj)] at e;rw [List.getElem?_set_self (bM (T.old j X hj hX)),← e]
 .rw [List.getElem?_set_ne h] at e;rw [List.getElem?_set_ne h];exact T.old a o e q
theorem Rd.later {σ':List O} (R:Rd σ0 σ keys li rl rs) (h:Old σ σ'):Rd σ0 σ' keys li rl rs:=⟨h _ _ R.at_,R.lo,R.ne⟩
end
theorem BN:∀ {l:List Nat} {a:Nat},a∈l->∃ i,l.idxOf? a=some i/\l[i]?=some a
 | [],_,h=>nomatch h
 | b::l,a,h=>by
  rw [List.idxOf?_cons];by_cases e:b=a
  .rw [e,if_pos (beq_self_eq_true a)];exact ⟨0,rfl,rfl⟩
  .rw [if_neg (fun q=>e (eq_of_beq q))];obtain ⟨i,h1,h2⟩:=BN ((List.mem_cons.mp h).resolve_left fun q=>e q.symm);rw [h1];exact ⟨i+1,rfl,h2⟩
noncomputable def ixN (l:List Nat) (a:Nat):Nat:=(l.idxOf? a).getD 0
theorem pk {l:List Nat} {a:Nat} (h:a∈l):l.idxOf? a=some (ixN l a)/\l[ixN l a]?=some a:=by
 obtain ⟨i,h1,h2⟩:=BN h;unfold ixN;rw [h1];exact ⟨rfl,h2⟩
theorem FZ {l:List Nat} {a:Nat} (h:a∈l):ixN l a < l.length:=(List.getElem?_eq_some_iff.mp (pk h).2).1
theorem Ef {l:List Nat} {a b:Nat} (h:a∈l) (h2:b∈l) (e:ixN l a=ixN l b):a=b:=by
 have h:=(pk h).2;rw [e,(pk h2).2] at h;exact (Option.some.inj h).symm
theorem B3 {l:List Nat} {a:Nat} {f g:AM D} {st st1 st2:ASt} (hf:f st=some (.ok (.py (.list (l.map nE))),st1)) (hg:g st1=some (.ok (.py (nE a)),st2)) (h:a∈l) (hl:l.length<=60):bN "list" f (ao g (pure [])) gZ st=some (.ok (.py (.int (ixN l a:Nat))),st2):=
 dR hf rfl (dL hg) (cM (f:=xi (.py (.list (l.map nE))) (.py (nE a))) (by
  show (if okP (nE a)=true/\okP (.list (l.map nE))=true/\(l.map nE).length<=ar then ((l.map nE).findIdx? fun y=>PyData.eqv y (nE a)).map fun (j:Nat)=>D.py (.int (j:Int)) else none)=_;rw [if_pos ⟨Bh a,eCl.okL (by decide) l,by rw [List.length_map]; exact Nat.le_trans hl (by decide)⟩,show ((l.map nE).findIdx? fun y=>PyData.eqv y (nE a))=l.idxOf? a from eCl.findIdx a l,(pk h).1];rfl))
noncomputable def pw (l:List Nat) (a:Nat):Nat:=2 ^ ixN l a
theorem AN {l:List Nat} {a:Nat} {f g:AM D} {st st1 st2:ASt} (hf:f st=some (.ok (.py (.list (l.map nE))),st1)) (hg:g st1=some (.ok (.py (nE a)),st2)) (h:a∈l) (hl:l.length<=60):bO .Pow (pure (.py (.int 2))) (bN "list" f (ao g (pure [])) gZ) st=some (.ok (.py (.int (pw l a:Nat))),st2):=
 ti (a:=2) (f:=pure (.py (.int 2))) rfl (B3 hf hg h hl) (by decide) (Nat.le_trans (Nat.le_of_lt (FZ h)) (Nat.le_trans hl (by decide)))
noncomputable def Lr (ps:List Pr) (left:List Nat) (L:Nat->Nat) (k:Nat):Nat:=if (ps.lookup k).isSome=true then eu ((prv ps k).map L) else if k∈left then pw left k else 0
theorem AC (ps:List Pr) (k:Nat):k∉prv ps k:=fun h=>by
 unfold prv at h;cases e:ps.lookup k with
 | none=>rw [e] at h; cases h
 | some a=>
  rw [e] at h;have:=(List.mem_filter.mp h).2;rw [decide_eq_true rfl] at this;cases this
theorem vM {ps:List Pr} {left:List Nat} {L L':Nat->Nat} {k:Nat} (h:∀ f∈prv ps k,L f=L' f):Lr ps left L k=Lr ps left L' k:=by
 unfold Lr;split
 .rw [List.map_congr_left h]
 .rfl
structure LdK (ps:List Pr) (left:List Nat) (Q:Nat->Prop) (kvs:List (KK×D)) (L:Nat->Nat):Prop where
 get:∀ k,Q k->eh kvs (kE k)=some (.py (.int (L k:Nat)))
 eq:∀ k,Q k->L k=Lr ps left L k
theorem LdK.more {ps:List Pr} {left:List Nat} {Q:Nat->Prop} {kvs kvs2:List (KK×D)} {L:Nat->Nat} {h:Nat} (I:LdK ps left Q kvs L) (hn:¬ Q h) (hcl:∀ k,Q k->∀ f∈prv ps k,Q f) (hg:∀ k,eh kvs2 (kE k)=if k=h then some (.py (.int (Lr ps left L h:Nat))) else eh kvs (kE k)):
  LdK ps left (fun k=>Q k\/k=h) kvs2 (fun k=>if k=h then Lr ps left L h else L k):=by
 refine ⟨fun k hk=>?_,fun k hk=>?_⟩
 .rw [hg];by_cases e:k=h
  .rw [if_pos e,if_pos e]
  .rw [if_neg e,if_neg e]; exact I.get k (hk.resolve_right e)
 .by_cases e:k=h
  .subst e;rw [if_pos rfl];refine vM fun f hf=>?_;have hz:f≠k:=fun z=>AC ps k (z▸hf);exact (if_neg hz).symm
  .rw [if_neg e,I.eq k (hk.resolve_right e)];refine vM fun f hf=>?_;have hz:f≠h:=fun z=>hn (z▸hcl k (hk.resolve_right e) f hf);exact (if_neg hz).symm
theorem F4 {ps:List Pr} (ha:∀ p∈ps,p.2 < 26) {left:List Nat} (hll:left.length<=60) {Q:Nat->Prop} {kvs:List (KK×D)} {L:Nat->Nat} (I:LdK ps left Q kvs L) {h j ep ep':Nat} (hj0:j≠0) {ρ:aq} {σ:List O} {k:AM aj} {P:Except Value aj->ASt->Prop}
  (h1:ρ.lookup "cell" =some (.py (nE h))) (h2:ρ.lookup "above" =some (.obj 0)) (h3:ρ.lookup "leads" =some (.obj j)) (h4:ρ.lookup "left" =some (.py (.list (left.map nE)))) (e0:σ[0]?=some (.dict ep (dkv ps))) (ej:σ[j]?=some (.dict ep' kvs)) (hkl:kvs.length<=1000) (hf:∀ f∈prv ps h,Q f)
  (hP:∀ kvs2 ep2,kvs2.length<=kvs.length+2->(∀ k,eh kvs2 (kE k)=if k=h then some (.py (.int (Lr ps left L h:Nat))) else eh kvs (kE k))->Out (k ⟨ρ,σ.set j (.dict ep2 kvs2)⟩) P):
  Out (ak (bF (ifE (aJ .In (ad "cell") (ad "left")) (bO .Pow (pure (.py (.int 2))) (bN "list" (ad "left") (ao (ad "cell") (pure [])) gZ)) (pure (.py (.int 0)))) [(gR (ad "leads") (ad "cell"))])
 (ak (ifA (aJ .In (ad "cell") (ad "above")) (ak (bF ((ao (bf false ["cell", "leads"] ⟨(((ao (bu (ad "above") (ad "cell")) (pure []))>>=bV cr)>>=aM),(aQ "face"),[(aJ .NotEq (ad "face") (ad "cell"))]⟩ [] (bu (ad "leads") (ad "face"))) (pure []))>>=bV eY) [(gR (ad "leads") (ad "cell"))])
 (pure .next)) (pure .next)) k) ⟨ρ,σ⟩) P:=by
 have ev:(ifE (aJ .In (ad "cell") (ad "left")) (bO .Pow (pure (.py (.int 2))) (bN "list" (ad "left") (ao (ad "cell") (pure [])) gZ)) (pure (.py (.int 0)))) ⟨ρ,σ⟩=some (.ok (.py (.int ((if h∈left then pw left h else 0:Nat):Int))),⟨ρ,σ⟩):=by
  refine bnd (mv eCl (by decide) (ah h1) (ah h4)) ?_;by_cases q:h∈left
  .rw [decide_eq_true q,if_pos rfl,if_pos q];exact AN (ah h4) (ah h1) q hll
  .rw [decide_eq_false q,if_neg Bool.false_ne_true,if_neg q];rfl
 refine iT ev (ah h3) (ah h1) (gh (k:=kE h) ej rfl (Nat.le_trans hkl (by decide))) ?_;have ej1:=eC (o':=O.dict (epK kvs (kE h) ep') (eg kvs (kE h) (.py (.int ((if h∈left then pw left h else 0:Nat):Int))))) ej;have e01:=aE (o':=O.dict (epK kvs (kE h) ep') (eg kvs (kE h) (.py (.int ((if h∈left then pw left h else 0:Nat):Int))))) e0 hj0
 have hd1:∀ k,eh (eg kvs (kE h) (.py (.int ((if h∈left then pw left h else 0:Nat):Int)))) (kE k)=if k=h then some (.py (.int ((if h∈left then pw left h else 0:Nat):Int))) else eh kvs (kE k):=fun k=>by
  rw [lO];by_cases e:k=h
  .rw [e,if_pos rfl,if_pos rfl]
  .rw [if_neg e,if_neg (fun z=>e (jQ z))]
 have hl1:=lQ kvs (kE h) (.py (.int ((if h∈left then pw left h else 0:Nat):Int)));refine aH (du (uW (ah h1) (ah h2) e01) (fun hT=>?_) fun hF=>?_)
 .obtain ⟨a,hla⟩:=Option.isSome_iff_exists.mp hT;have h26:=ha (h,a) (gL hla);have eprv:prv ps h=(bd a).filter fun f=>!decide (f=h):=by unfold prv; rw [hla]
  have ec:=sg (fs:=["cell", "leads"]) (el:=(bu (ad "leads") (ad "face"))) (e:=fun f=>.int (L f:Nat)) (mC (jj (q:=nE a) (nj (ah h2) (ah h1) e01 hla) (no (Nat.lt_succ_of_lt h26)))) h1 (Nat.le_trans (wQ h26) (by decide)) (by decide) (by decide) fun f hfb ρ' hA hv hne=>
   io (ah (hA.get h3 (by decide))) (ah hv) ej1 (by rw [hd1,if_neg hne]; exact I.get f (hf f (by rw [eprv]; exact List.mem_filter.mpr ⟨hfb,by rw [decide_eq_false hne]; rfl⟩)))
  rw [← eprv] at ec
  have em:(PyData.list ((prv ps h).map fun f=>.int (L f:Nat)))=kn.e ((prv ps h).map L):=by
   show _=PyData.list (((prv ps h).map L).map zl.e);rw [List.map_map];rfl
  rw [em] at ec;have eL:eu ((prv ps h).map L)=Lr ps left L h:=by unfold Lr; rw [hT,if_pos rfl]
  have es:=jj (q:=kn.e ((prv ps h).map L)) ec (EP _);rw [eL] at es;refine iT es (ah h3) (ah h1) (gh (k:=kE h) ej1 rfl (Nat.le_trans (Nat.le_trans hl1 (Nat.succ_le_succ hkl)) (by decide))) (aw (aO.mpr ?_));rw [List.set_set];refine hP _ _ (Nat.le_trans (lQ _ _ _) (Nat.succ_le_succ hl1)) fun k=>?_;rw [lO,hd1];by_cases e:k=h
  .rw [e,if_pos rfl,if_pos rfl]
  .rw [if_neg e,if_neg (fun z=>e (jQ z)),if_neg e]
 .refine aw (aO.mpr (hP _ _ (Nat.le_succ_of_le hl1) fun k=>?_));rw [hd1];have eL:(if h∈left then pw left h else 0)=Lr ps left L h:=by unfold Lr; rw [hF,if_neg Bool.false_ne_true]
  rw [eL]
theorem zk {s:D} {l:List Nat} (hl:l.length<=100):dZ (s::l.map fun (n:Nat)=>D.py (nE n))=some [("self",s),("nodes",.py (fS l))]:=by
 show i4 ["self"] "nodes" _=_;unfold i4;rw [if_pos (by rw [List.length_cons,List.length_map]; exact Nat.le_trans (Nat.succ_le_succ hl) (by decide))];show some [("self",s),("nodes",j7 (l.map fun (n:Nat)=>D.py (nE n)))]=_;unfold j7;rw [fM];rfl
theorem zU {l:List Nat} {σ:List O} (hl:l.length<=ar):gO σ (.py (fS l))=some (l.map fun (n:Nat)=>.py (nE n)):=by
 have h1:gO σ (.py (fS l))=if ((l.map fun (n:Nat)=>nE n).map D.py).length<=ar then some ((l.map fun (n:Nat)=>nE n).map D.py) else none:=rfl
 rw [h1,if_pos (by rw [List.length_map,List.length_map]; exact hl),List.map_map];rfl
theorem rF {n:Nat} (qs:List Nat):∀ (t:T3) (h:Nat),((qs.foldl (T3.pred n) t).sc h).length<=(t.sc h).length+qs.count h:=by
 induction qs with
 | nil=>exact fun t h=>Nat.le_refl _
 | cons p qs ih=>
  intro t h;refine Nat.le_trans (ih _ h) ?_
  have hnode:∀ h,((t.node p).sc h).length<=(t.sc h).length:=fun h=>by
   unfold T3.node;dsimp only;by_cases hn:p∈t.keys
   .rw [if_pos hn]; exact Nat.le_refl _
   .rw [if_neg hn];by_cases e:h=p
    .subst e; rw [cC]; exact Nat.zero_le _
    .rw [dh _ _ e]; exact Nat.le_refl _
  have e:(T3.pred n t p).sc=upd (t.node p).sc p ((t.node p).sc p++[n]):=rfl;rw [e,List.count_cons];by_cases q:h=p
  .subst q;rw [cC,beq_self_eq_true,if_pos rfl,List.length_append,List.length_singleton];have:=hnode h;omega
  .rw [dh _ _ q];have:=hnode h;omega
theorem FW {pv:Nat->List Nat} (hn:∀ c,(pv c).Nodup) (cs:List Nat):∀ h,((tG pv cs).sc h).length<=cs.length:=
 kL (P:=fun cs=>∀ h,((tG pv cs).sc h).length<=cs.length) cs (fun _=>Nat.le_refl 0) fun l a ih h=>by
  rw [lp,List.length_append,List.length_singleton];have h1:=rF (n:=a) (pv a) ⟨((tG pv l).node a).keys,upd ((tG pv l).node a).np a (((tG pv l).node a).np a+(pv a).length),((tG pv l).node a).sc⟩ h;have h2:=mD (t:=tG pv l) ih a h;have h3:=List.nodup_iff_count.mp (hn a) h;exact Nat.le_trans h1 (Nat.add_le_add h2 h3)
theorem Am:((List.range 27).all fun t=>decide (bd t).Nodup)=true:=by kernel_rfl
theorem yv {t:Nat} (h:t < 27):(bd t).Nodup:=of_decide_eq_true (im Am h)
theorem EW {ps:List Pr} (ha:∀ p∈ps,p.2 < 26) (c:Nat):(prv ps c).Nodup:=by
 unfold prv;cases h:ps.lookup c with
 | none=>exact .nil
 | some a=>exact (yv (Nat.lt_succ_of_lt (ha (_,_) (gL h)))).filter _
theorem LdK.mono {ps:List Pr} {left:List Nat} {Q Q':Nat->Prop} {kvs:List (KK×D)} {L:Nat->Nat} (I:LdK ps left Q kvs L) (h:∀ k,Q' k->Q k):LdK ps left Q' kvs L:=⟨fun k q=>I.get k (h k q),fun k q=>I.eq k (h k q)⟩
structure LdH (ps:List Pr) (lower left:List Nat):Prop where
 ha:∀ p∈ps,p.2 < 26
 hc:∀ c∈lower,c < 27
 hl:lower.length<=20
 hp:∀ p∈ps,p.1∈lower
 hll:left.length<=60
section
variable {ps:List Pr} {lower left:List Nat} (H:LdH ps lower left)
include H
theorem mw {k f:Nat} (h:f∈prv ps k):k∈(tG (prv ps) lower).sc f:=(y0 _ _ f k).mpr ⟨by
 cases e:ps.lookup k with
 | none=>unfold prv at h; rw [e] at h; cases h
 | some a=>exact H.hp (_,_) (gL e),h⟩
theorem wn {k f:Nat} (h:k∈(tG (prv ps) lower).sc f):f∈(tG (prv ps) lower).keys:=Classical.byContradiction fun q=>by rw [(qO (prv ps) lower).sc0 f q] at h; cases h
theorem sV:(tG (prv ps) lower).keys.length<=27:=Cu fun c h=>⟨H.hc c h,fun p hp=>Ch H.ha hp⟩
theorem EJ (h:Nat):((tG (prv ps) lower).sc h).length<=20:=Nat.le_trans (FW (EW H.ha) lower h) H.hl
noncomputable def lvV (left:List Nat) (s j:Nat):aq:=[("sorter",.obj s),("above",.obj 0),("left",.py (.list (left.map nE))),("leads",.obj j)]
inductive LoI (ps:List Pr) (lower left:List Nat) (ep s d j rl:Nat) (ni li:Nat->Nat) (m:Nat):ASt->Prop
 | mk {ρ σb σ u np rd a kvs ep' L}:Ex1 (lvV left s j) ρ->σb[0]?=some (.dict ep (dkv ps))->σb[j]?=some (.dict ep' kvs)->
   bQ σb σ s d ni li (tG (prv ps) lower).keys np (tG (prv ps) lower).sc (.obj rl) (a,a)->Rd σb σ (tG (prv ps) lower).keys li rl rd->RoN (tG (prv ps) lower) u np rd->
   LdK ps left (fun k=>k∈(tG (prv ps) lower).keys/\rdT (tG (prv ps) lower) u k=true) kvs L->kvs.length+2 * (eB (tG (prv ps) lower) u).length<=60->m=(eB (tG (prv ps) lower) u).length->LoI ps lower left ep s d j rl ni li m ⟨ρ,σ⟩
theorem F2 {ep ep' s d j rl u:Nat} (hj0:j≠0) {ni li:Nat->Nat} {np np':Nat->Int} {ab:Int×Int} {σb σ:List O} {ρ:aq} {rd rd':List Nat} {kvs:List (KK×D)} {L:Nat->Nat} {P:Except Value aj->ASt->Prop} {k:AM aj}
  (T:bQ σb σ s d ni li (tG (prv ps) lower).keys np' (tG (prv ps) lower).sc (.obj rl) ab) (R:Rd σb σ (tG (prv ps) lower).keys li rl rd') (N:RoN (tG (prv ps) lower) u np rd) (h0:σb[0]?=some (.dict ep (dkv ps))) (hj:σb[j]?=some (.dict ep' kvs)) (E:Ex1 (lvV left s j) ρ) (h3:ρ.lookup "group" =some (.py (fS rd)))
  (I:LdK ps left (fun k=>k∈(tG (prv ps) lower).keys/\rdT (tG (prv ps) lower) u k=true) kvs L) (hkl:kvs.length+2 * rd.length<=100)
  (hP:∀ ρ' σb' σ' kvs' ep'' L',Ex1 (lvV left s j) ρ'->ρ'.lookup "group" =some (.py (fS rd))->σb'[0]?=some (.dict ep (dkv ps))->σb'[j]?=some (.dict ep'' kvs')->bQ σb' σ' s d ni li (tG (prv ps) lower).keys np' (tG (prv ps) lower).sc (.obj rl) ab->Rd σb' σ' (tG (prv ps) lower).keys li rl rd'->
   LdK ps left (fun k=>k∈(tG (prv ps) lower).keys/\rdT (tG (prv ps) lower) (u+1) k=true) kvs' L'->kvs'.length<=kvs.length+2 * rd.length->Out (k ⟨ρ',σ'⟩) P):
  Out (ak (ik ((ad "group")>>=aM) (fun d=>(aQ "cell") d>>=fun _=>(ak (bF (ifE (aJ .In (ad "cell") (ad "left")) (bO .Pow (pure (.py (.int 2))) (bN "list" (ad "left") (ao (ad "cell") (pure [])) gZ)) (pure (.py (.int 0)))) [(gR (ad "leads") (ad "cell"))])
 (ak (ifA (aJ .In (ad "cell") (ad "above")) (ak (bF ((ao (bf false ["cell", "leads"] ⟨(((ao (bu (ad "above") (ad "cell")) (pure []))>>=bV cr)>>=aM),(aQ "face"),[(aJ .NotEq (ad "face") (ad "cell"))]⟩ [] (bu (ad "leads") (ad "face"))) (pure []))>>=bV eY) [(gR (ad "leads") (ad "cell"))])
 (pure .next)) (pure .next))
 (pure .next)))) (pure .next)) k ⟨ρ,σ⟩) P:=by
 have hX:∀ e l,O.dict e l≠.dead:=fun e l z=>nomatch z;have ok:=qO (prv ps) lower;refine dF rd (fun (h:Nat)=>.py (nE h)) (fun ys st=>Ex1 (lvV left s j) st.ρ/\st.ρ.lookup "group" =some (.py (fS rd))/\∃ σb' kvs' ep'' L',σb'[0]?=some (.dict ep (dkv ps))/\σb'[j]?=some (.dict ep'' kvs')/\bQ σb' st.σ s d ni li (tG (prv ps) lower).keys np' (tG (prv ps) lower).sc (.obj rl) ab/\Rd σb' st.σ (tG (prv ps) lower).keys li rl rd'/\
   LdK ps left (fun k=>(k∈(tG (prv ps) lower).keys/\rdT (tG (prv ps) lower) u k=true)\/k∈ys) kvs' L'/\kvs'.length<=kvs.length+2 * ys.length)
  (xB (ah h3)) (fun _ _ _ _=>rfl) ⟨E,h3,σb,kvs,ep',L,h0,hj,T,R,I.mono fun k q=>q.elim id fun q=>(nomatch q),Nat.le_refl _⟩ ?_ ?_
 .rintro ys h zs ⟨ρ1,σ1⟩ hx ⟨E1,g1,σb',kvs',ep'',L',b0,bj,T',R',I',hkl'⟩
  have hm:h∈rd:=by rw [hx]; exact List.mem_append_right _ (.head _)
  obtain ⟨hk1,hk2,hk3⟩:=(N.mem h).mp hm
  have hny:h∉ys:=fun q=>by
   have hnd:=N.nd;rw [hx] at hnd;exact (List.nodup_append.mp hnd).2.2 h q h (.head _) rfl
  have hyl:ys.length+1<=rd.length:=by rw [hx,List.length_append]; exact Nat.add_le_add_left (Nat.succ_le_succ (Nat.zero_le _)) _
  have E2:=E1.skip (v:= "cell") (d:=.py (nE h)) rfl;have g2:(put "cell" (.py (nE h)) ρ1).lookup "group" =some (.py (fS rd)):=aY g1 (by decide)
  have hrd:∀ k,k∈(tG (prv ps) lower).keys/\rdT (tG (prv ps) lower) u k=true->∀ f∈prv ps k,f∈(tG (prv ps) lower).keys/\rdT (tG (prv ps) lower) u f=true:=fun k q f hf=>
   ⟨wn H (mw H hf),uZ ok (mw H hf) q.2⟩
  have hrd2:∀ k∈rd,∀ f∈prv ps k,f∈(tG (prv ps) lower).keys/\rdT (tG (prv ps) lower) u f=true:=fun k q f hf=>⟨wn H (mw H hf),sJ ok (mw H hf) ((N.mem k).mp q).2.2⟩
  refine dH rfl (F4 H.ha H.hll I' hj0 aD (E2 "above" _ rfl) (E2 "leads" _ rfl) (E2 "left" _ rfl) (T'.old 0 _ b0 (hX _ _)) (T'.old j _ bj (hX _ _)) (by omega) (fun f hf=>.inl (hrd2 h hm f hf)) fun kvs2 ep2 hl2 hg2=>aw (cS.mpr ?_));obtain ⟨T2,R2⟩:=T'.setj R' bj (hX _ _) (.dict ep2 kvs2);refine ⟨E2,g2,_,kvs2,ep2,_,aE b0 hj0,eC bj,T2,R2,(I'.more (fun q=>q.elim (fun q=>by rw [hk2] at q; exact nomatch q.2) hny) (fun k q f hf=>.inl (q.elim (fun q=>hrd k q f hf) fun q=>hrd2 k (by rw [hx]; exact List.mem_append_left _ q) f hf)) hg2).mono fun k q=>?_,?_⟩
  .exact q.elim (fun q=>.inl (.inl q)) fun q=>(List.mem_append.mp q).elim (fun q=>.inl (.inr q)) fun q=>.inr (List.mem_singleton.mp q)
  .rw [List.length_append,List.length_singleton]; omega
 .rintro ⟨ρ1,σ1⟩ ⟨E1,g1,σb',kvs',ep'',L',b0,bj,T',R',I',hkl'⟩
  refine hP ρ1 σb' σ1 kvs' ep'' L' E1 g1 b0 bj T' R' (I'.mono fun k q=>?_) hkl';cases z:rdT (tG (prv ps) lower) u k with
  | true=>exact .inl ⟨q.1,rfl⟩
  | false=>exact .inr ((N.mem k).mpr ⟨q.1,z,q.2⟩)
theorem DV {ep s d j rl:Nat} (hj0:j≠0) {ni li:Nat->Nat} {m:Nat} {st:ASt} {P:Except Value aj->ASt->Prop} {k:AM aj} (hI:LoI ps lower left ep s d j rl ni li m st) (hm:m < d5)
  (hP:∀ ρ σ u kvs ep' L,Ex1 (lvV left s j) ρ->σ[0]?=some (.dict ep (dkv ps))->σ[j]?=some (.dict ep' kvs)->LdK ps left (fun k=>k∈(tG (prv ps) lower).keys/\rdT (tG (prv ps) lower) u k=true) kvs L->(∀ k∈(tG (prv ps) lower).keys,rdT (tG (prv ps) lower) (u+1) k=true->rdT (tG (prv ps) lower) u k=true)->Out (k ⟨ρ,σ⟩) P):
  Out (ak (eW (iz (il ae "is_active" (ad "sorter") (pure []) (dI cT bw))) (ak (bG "group" (il ae "get_ready" (ad "sorter") (pure []) (dI eo bJ)))
 (ak (ik ((ad "group")>>=aM) (fun d=>(aQ "cell") d>>=fun _=>(ak (bF (ifE (aJ .In (ad "cell") (ad "left")) (bO .Pow (pure (.py (.int 2))) (bN "list" (ad "left") (ao (ad "cell") (pure [])) gZ)) (pure (.py (.int 0)))) [(gR (ad "leads") (ad "cell"))])
 (ak (ifA (aJ .In (ad "cell") (ad "above")) (ak (bF ((ao (bf false ["cell", "leads"] ⟨(((ao (bu (ad "above") (ad "cell")) (pure []))>>=bV cr)>>=aM),(aQ "face"),[(aJ .NotEq (ad "face") (ad "cell"))]⟩ [] (bu (ad "leads") (ad "face"))) (pure []))>>=bV eY) [(gR (ad "leads") (ad "cell"))])
 (pure .next)) (pure .next))
 (pure .next)))) (pure .next))
 (ak (cv (nR ae "done" bK (ad "sorter") (F9 (ad "group")) (dI dZ bR)))
 (pure .next)))) (pure .next) d5) k st) P:=by
 have hX:∀ e l,O.dict e l≠.dead:=fun e l z=>nomatch z;have ok:=qO (prv ps) lower;refine aH (nz (LoI ps lower left ep s d j rl ni li) (fun m st I=>?_) d5 m st hI hm);obtain @⟨ρ,σb,σ,u,np,rd,a,kvs,ep',L,E,h0,hj,T,R,N,K,hkl,rfl⟩:=I;have hless:=N.less ok;have hrl:rd.length<=27:=Nat.le_trans (Nat.le_trans (show rd.length<=(eB (tG (prv ps) lower) u).length by rw [hless]; exact Nat.le_add_right ..) (List.length_filter_le (fun k=>!rdT (tG (prv ps) lower) u k) _)) (sV H);obtain ⟨r,st1,e,rfl,rfl⟩:=kO (C:=ae) (nm:= "is_active") (g:=pure []) (bind:=cT) (fb:=bw) (P:=fun r st1=>r=.ok (.py (.bool (decide (a < a)||!rd.isEmpty)))/\st1=⟨ρ,σ⟩) (ah (σ:=σ) (E "sorter" _ rfl)) T.inst (show "is_active" ∉q8 by decide) rfl rfl
  ((Ac T R (Nat.le_trans hrl (by decide))).mono fun r st' q=>by
   obtain ⟨rfl,q2⟩:=q;exact ⟨rfl,congrArg (ASt.mk ρ) q2⟩)
 refine ⟨_,_,qT e,fun ht=>?_,fun hf=>?_⟩
 .have hne:rd≠[]:=fun z=>by
   rw [z,decide_eq_false (Int.lt_irrefl a)] at ht;cases ht
  refine je (kO (ah (E "sorter" _ rfl)) T.inst (show "get_ready" ∉q8 by decide) rfl rfl ((sK T R (fun h hh=>((N.mem h).mp hh).1) (Nat.le_trans hrl (by decide))).mono fun r st' q=>?_));obtain ⟨rfl,T2,R2⟩:=q;refine F2 H hj0 (P:=Lp _ _) T2 R2 N h0 hj (E.skip (v:= "group") rfl) aD K (by omega) fun ρ' σb' σ' kvs' ep'' L' E' g' b0 bj T' R' K' hkl'=>?_;have T3:=T'.later (Old.app σ' [.meth bK s]);have R3:=R'.later (Old.app σ' [.meth bK s]);refine m6 (rV (ah (E' "sorter" _ rfl)) T'.inst (show "done" ∉q8 by decide) (ds:=rd.map fun (n:Nat)=>D.py (nE n)) (bnd (ah g') (cM (f:=fun σ=>gO σ _) (zU (Nat.le_trans hrl (by decide))))) (zk (Nat.le_trans hrl (by decide)))
   ((BR T3 R3 (L:=20) (fun h hh=>⟨((N.mem h).mp hh).1,if_pos hh⟩) N.nd (N.free ok) (fun h _=>EJ H h) (by omega)).mono fun r st2 q=>?_))
  obtain ⟨rfl,T4,rd2,R4,_,hm2,hnd2⟩:=q;have hpos:0 < rd.length:=List.length_pos_iff.mpr hne;exact aw (cS.mpr ⟨_,(by omega:(eB (tG (prv ps) lower) (u+1)).length < _),.mk E' b0 bj T4 R4 (N.step ok hnd2 hm2) K' (by omega) rfl⟩)
 .have hz:rd=[]:=by
   cases rd with
   | nil=>rfl
   | cons b l=>rw [decide_eq_false (Int.lt_irrefl a)] at hf; cases hf
  refine aw (aO.mpr (hP ρ σ u kvs ep' L E (T.old 0 _ h0 (hX _ _)) (T.old j _ hj (hX _ _)) K fun k hk q=>?_));cases z:rdT (tG (prv ps) lower) u k with
  | true=>rfl
  | false=>
   have:=(N.mem k).mpr ⟨hk,z,q⟩;rw [hz] at this;cases this
theorem zJ {ep s d rl:Nat} {ni li:Nat->Nat} {σ:List O} (T:bQ [.dict ep (dkv ps)] σ s d ni li (tG (prv ps) lower).keys (tG (prv ps) lower).np (tG (prv ps) lower).sc (.obj rl) (0,0)) (R:Rd [.dict ep (dkv ps)] σ (tG (prv ps) lower).keys li rl ((tG (prv ps) lower).keys.filter fun h=>decide ((tG (prv ps) lower).np h=0)))
  {rk:Nat->Nat} (hr:∀ p c,c∈(tG (prv ps) lower).sc p->rk p < rk c):
  Out (fZ ⟨[("sorter",.obj s),("above",.obj 0),("left",.py (.list (left.map nE)))],σ⟩) fun r st=>∃ j kvs ep' L,r=.ok (.ret (.obj j))/\st.σ[0]?=some (.dict ep (dkv ps))/\st.σ[j]?=some (.dict ep' kvs)/\LdK ps left (fun k=>k∈(tG (prv ps) lower).keys) kvs L:=by
 have ok:=qO (prv ps) lower;have hz:(O.dict ep (dkv ps))≠.dead:=fun e=>nomatch e;have h0:=T.old 0 _ rfl hz;have hlen:([O.dict ep (dkv ps)]:List O).length<=σ.length:=bM h0;obtain ⟨T3,R3⟩:=T.rebase2 R hlen (.dict 0 []);refine bk (d:=.obj σ.length) (st1:=⟨_,σ++[.dict 0 []]⟩) rfl ?_;refine DV H (ep:=ep) (s:=s) (d:=d) (j:=σ.length) (rl:=rl) (ni:=ni) (li:=li) (m:=(eB (tG (prv ps) lower) 0).length) (fun e=>by rw [e] at hlen; exact absurd hlen (Nat.not_succ_le_zero 0)) (.mk (u:=0) (a:=0) (L:=fun _=>0) (fun v d e=>e) (uk Nat.zero_lt_one) (xV hlen) T3 R3 (RoN.start ok rfl) ⟨fun k q=>(nomatch q.2),fun k q=>(nomatch q.2)⟩ ?_ rfl) ?_ fun ρ σ2 u kvs ep' L E b0 bj K hend=>?_
 .have:=List.length_filter_le (fun k=>!rdT (tG (prv ps) lower) 0 k) (tG (prv ps) lower).keys;have:=sV H;show 0+2 * (List.filter (fun k=>!rdT (tG (prv ps) lower) 0 k) (tG (prv ps) lower).keys).length<=60;omega
 .exact Nat.lt_of_le_of_lt (Nat.le_trans (List.length_filter_le _ _) (sV H)) (by decide)
 .refine jD (ah (E "leads" _ rfl)) (iS ?_) ⟨_,kvs,ep',L,rfl,b0,bj,K.mono fun k hk=>⟨hk,Fw ok hr hend k hk⟩⟩;show (vb σ2[σ.length]?).map _=none;rw [bj];rfl
end
theorem DU {σ:List O} {n k:Nat} {ds:List D} {d:D} {f g:AM D} {st st1:ASt} {ρ:aq} (hf:f st=some (.ok (.obj n),st1)) (hg:g st1=some (.ok (.py (.int (k:Int))),⟨ρ,σ⟩)) (h:σ[n]?=some (.list ds)) (hk:ds[k]?=some d) (hl:ds.length<=ar):bu f g st=some (.ok d,⟨ρ,σ⟩):=by
 refine pJ hf hg ?_;unfold uA;rw [show ((D.obj n).obj?.bind fun n=>lr σ[n]?)=none by show lr σ[n]?=_; rw [h]; rfl];show (nA σ (.obj n)).bind (on (k:Int))=_;rw [show nA σ (.obj n)=some ds by show sG σ[n]?=_; rw [h]; rfl,Option.bind_some];exact rX hk hl
noncomputable def muL (L:Nat->Nat) (c:Nat):Nat:=eu ((bd c).map L)
noncomputable def rkL (L:Nat->Nat) (row:List Nat):Nat:=(cH (row.map (muL L))).length
noncomputable def hol (a b c k1 k2:Nat):List Int:=[(a:Int) - (0:Nat) - (k1:Nat),(b:Int) - (k1:Nat) - (k2:Nat),(c:Int) - (k2:Nat) - (0:Nat)]
noncomputable def hoV (r0 r1 r2:List Nat) (j n:Nat):aq:=[("rows",.py (.list ([r0,r1,r2].map fun r=>.list (r.map nE)))),("leads",.obj j),("ranks",.obj n)]
section
variable {L:Nat->Nat} {r0 r1 r2:List Nat} {j ep:Nat} {kvs:List (KK×D)} {σ:List O}
theorem DE:((List.range 27).all fun t=>Nat.ble (bd t).length 6)=true:=by kernel_rfl
theorem Em {t:Nat} (h:t < 27):(bd t).length<=6:=Nat.ble_eq.mp (im DE h)
theorem AH {row:List Nat} {ρ:aq} (hr:row.length<=60) (hc:∀ c∈row,c < 27/\∀ f∈bd c,eh kvs (kE f)=some (.py (.int (L f:Nat)))) (h1:ρ.lookup "row" =some (.py (.list (row.map nE)))) (h2:ρ.lookup "leads" =some (.obj j)) (hj:σ[j]?=some (.dict ep kvs)):
  ((ao (bf false ["leads"] ⟨((ad "row")>>=aM),(aQ "cell"),[]⟩ [] ((ao (bf false ["leads"] ⟨(((ao (ad "cell") (pure []))>>=bV cr)>>=aM),(aQ "face"),[]⟩ [] (bu (ad "leads") (ad "face"))) (pure []))>>=bV eY)) (pure []))>>=bV kI) ⟨ρ,σ⟩=some (.ok (.py (.int (rkL L row:Nat))),⟨ρ,σ⟩):=by
 have hm:=fh (fs:=["leads"]) (st:=⟨ρ,σ⟩) (σ:=σ) (v:= "cell") (el:=((ao (bf false ["leads"] ⟨(((ao (ad "cell") (pure []))>>=bV cr)>>=aM),(aQ "face"),[]⟩ [] (bu (ad "leads") (ad "face"))) (pure []))>>=bV eY)) row nE (fun c=>.int (muL L c:Nat)) (di (e:=nE) h1) (by decide) (Nat.le_trans hr (by decide)) fun c hcr ρ' hA hv=>by
  have hi:=fh (fs:=["leads"]) (st:=⟨ρ',σ⟩) (σ:=σ) (v:= "face") (el:=(bu (ad "leads") (ad "face"))) (bd c) nE (fun f=>.int (L f:Nat)) (mC (jj (q:=nE c) (ah hv) (no (hc c hcr).1))) (by decide) (Nat.le_trans (Em (hc c hcr).1) (by decide)) fun f hf ρ2 hA2 hv2=>
   io (ah (hA2.get (hA.get h2 (by decide)) (by decide))) (ah hv2) hj ((hc c hcr).2 f hf)
  have em:(PyData.list ((bd c).map fun f=>.int (L f:Nat)))=kn.e ((bd c).map L):=by
   show _=PyData.list (((bd c).map L).map zl.e);rw [List.map_map];rfl
  rw [em] at hi;exact jj (q:=kn.e ((bd c).map L)) hi (EP _)
 have em:(PyData.list (row.map fun c=>.int (muL L c:Nat)))=kn.e (row.map (muL L)):=by
  show _=PyData.list ((row.map (muL L)).map zl.e);rw [List.map_map];rfl
 rw [em] at hm;exact jj (q:=kn.e (row.map (muL L))) hm (FO _ (by rw [List.length_map]; exact Nat.le_trans hr (by decide)))
theorem sr (h0:r0.length<=60) (h1:r1.length<=60) (h2:r2.length<=60) (hj:σ[j]?=some (.dict ep kvs)) (hc:∀ c,c∈r1\/c∈r2->c < 27/\∀ f∈bd c,eh kvs (kE f)=some (.py (.int (L f:Nat)))):
  Out (dq ⟨[("rows",.py (.list ([r0,r1,r2].map fun r=>.list (r.map nE)))),("leads",.obj j)],σ⟩) fun r st=>r=.ok (.ret (.py (.list ((hol r0.length r1.length r2.length (rkL L r1) (rkL L r2)).map .int))))/\Old σ st.σ:=by
 refine bk (d:=.obj σ.length) (st1:=⟨_,σ++[.list [.py (.int ((0:Nat):Int))]]⟩) rfl ?_;have es:=jE (ps:=[r0,r1,r2].map fun r=>PyData.list (r.map nE)) (f:=ad "rows") (ga:=pure (.py (.int 1))) (gb:=pure (.py .none)) (st:=⟨hoV r0 r1 r2 j σ.length,σ++[.list [.py (.int ((0:Nat):Int))]]⟩) (ah rfl) rfl rfl (lo:=some ((1:Nat):Int)) (hi:=none) rfl rfl (by decide:3<=ar);rw [nc] at es;have hit:=mC (e:=fun r:List Nat=>PyData.list (r.map nE)) (xs:=[r1,r2]) es;refine dF [r1,r2] (fun r:List Nat=>.py (.list (r.map nE))) (fun ys=>At (hoV r0 r1 r2 j σ.length) (σ++[tp (0::ys.map (rkL L))])) hit (fun _ _ _ _=>rfl) (.mk fun v d e=>e) (fun ys row zs st hx q=>?_) fun st q=>?_
 .obtain ⟨E⟩:=q;have hm:row∈[r1,r2]:=by rw [hx]; exact List.mem_append_right _ (.head _)
  have hyl:ys.length<=2:=Nat.le_trans (Nat.le_add_right _ _) (Nat.le_of_eq (List.length_append.symm.trans (congrArg List.length hx).symm));have E1:=E.skip (v:= "row") (d:=.py (.list (row.map nE))) rfl
  have hrow:row.length<=60/\∀ c∈row,c < 27/\∀ f∈bd c,eh kvs (kE f)=some (.py (.int (L f:Nat))):=by
   rcases List.mem_cons.mp hm with rfl | hm
   .exact ⟨h1,fun c q=>hc c (.inl q)⟩
   .rw [List.mem_singleton.mp hm];exact ⟨h2,fun c q=>hc c (.inr q)⟩
  refine dH rfl (eG (dR (ah (E1 "ranks" _ rfl)) (eX d6) (dL (AH hrow.1 hrow.2 aD (E1 "leads" _ rfl) (Old.app _ _ _ _ hj))) (fT d6 (by rw [List.length_map,List.length_cons,List.length_map]; exact Nat.le_trans (Nat.succ_le_succ hyl) (by decide)))) (aw (cS.mpr ?_)));rw [lZ]
  have e:tp (0::(ys++[row]).map (rkL L))=.list (((0::ys.map (rkL L)).map fun (n:Nat)=>D.py (.int (n:Int)))++[.py (.int (rkL L row:Nat))]):=by
   unfold tp;rw [List.map_append,← List.cons_append,List.map_append];rfl
  rw [← e];exact .mk E1
 .obtain ⟨E⟩:=q;refine eG (dR (ah (E "ranks" _ rfl)) (eX d6) (dL (f:=pure (.py (.int ((0:Nat):Int)))) rfl) (fT d6 (by decide:3<=ar))) ?_;rw [lZ]
  have ef:=fh (fs:=["rows", "ranks"]) (v:= "n") (σ:=σ++[O.list (((0::[r1,r2].map (rkL L)).map fun (n:Nat)=>D.py (.int (n:Int)))++[.py (.int ((0:Nat):Int))])]) (el:=(bO .Sub (bO .Sub ((ao (bu (ad "rows") (ad "n")) (pure []))>>=gQ) (bu (ad "ranks") (ad "n"))) (bu (ad "ranks") (bO .Add (ad "n") (pure (.py (.int 1))))))) (List.range 3) (fun (i:Nat)=>.int (i:Int)) (fun n=>.int ((hol r0.length r1.length r2.length (rkL L r1) (rkL L r2)).getD n 0)) (nx _) (by decide) (by decide) fun n hn ρ' hA hv=>by
   have hn:=List.mem_range.mp hn
   have er:∀ {row:List Nat},([r0,r1,r2].map fun r=>PyData.list (r.map nE))[n]?=some (.list (row.map nE))->row.length<=60->∀ σ',((ao (bu (ad "rows") (ad "n")) (pure []))>>=gQ) ⟨ρ',σ'⟩=some (.ok (.py (.int (row.length:Int))),⟨ρ',σ'⟩):=fun {row} q hl σ'=>by
    have:=mq (ji (st2:=⟨ρ',σ'⟩) (ah (hA.get (E "rows" _ rfl) (by decide))) (ah hv) q (by decide:3<=ar)) (by rw [List.length_map]; exact Nat.le_trans hl (by decide));rw [List.length_map] at this;exact this
   have ek:∀ {k m:Nat} {g:AM D},g ⟨ρ',σ++[O.list (((0::[r1,r2].map (rkL L)).map fun (n:Nat)=>D.py (.int (n:Int)))++[.py (.int ((0:Nat):Int))])]⟩=some (.ok (.py (.int (k:Int))),⟨ρ',σ++[O.list (((0::[r1,r2].map (rkL L)).map fun (n:Nat)=>D.py (.int (n:Int)))++[.py (.int ((0:Nat):Int))])]⟩)->(((0::[r1,r2].map (rkL L)).map fun (n:Nat)=>D.py (.int (n:Int)))++[.py (.int ((0:Nat):Int))])[k]?=some (.py (.int (m:Int)))->bu (ad "ranks") g ⟨ρ',σ++[O.list (((0::[r1,r2].map (rkL L)).map fun (n:Nat)=>D.py (.int (n:Int)))++[.py (.int ((0:Nat):Int))])]⟩=some (.ok (.py (.int (m:Int))),⟨ρ',σ++[O.list (((0::[r1,r2].map (rkL L)).map fun (n:Nat)=>D.py (.int (n:Int)))++[.py (.int ((0:Nat):Int))])]⟩):=fun hg q=>
    DU (ah (hA.get (E "ranks" _ rfl) (by decide))) hg d6 q (by decide:4<=ar)
   rcases (show n=0\/n=1\/n=2 by omega) with rfl | rfl | rfl
   .exact sub_int (sub_int (er (row:=r0) rfl h0 _) (ek (k:=0) (m:=0) (ah hv) rfl)) (ek (k:=1) (m:=rkL L r1) (po (b:=1) (ah hv)) rfl)
   .exact sub_int (sub_int (er (row:=r1) rfl h1 _) (ek (k:=1) (m:=rkL L r1) (ah hv) rfl)) (ek (k:=2) (m:=rkL L r2) (po (b:=1) (ah hv)) rfl)
   .exact sub_int (sub_int (er (row:=r2) rfl h2 _) (ek (k:=2) (m:=rkL L r2) (ah hv) rfl)) (ek (k:=3) (m:=0) (po (b:=1) (ah hv)) rfl)
  exact eF ef ⟨rfl,Old.app _ _⟩
end
noncomputable def xb (l:List Nat) (f:Nat->Bool):Bool:=l.foldr (fun x b=>f x ^^ b) false
theorem dK (a:Nat) (l:List Nat) (f:Nat->Bool):xb (a::l) f=(f a ^^ xb l f):=rfl
theorem wF (l l':List Nat) (f:Nat->Bool):xb (l++l') f=(xb l f ^^ xb l' f):=by
 induction l with
 | nil=>exact (Bool.false_xor _).symm
 | cons a l ih=>rw [List.cons_append,dK,dK,ih,Bool.xor_assoc]
theorem tM {l:List Nat} {f:Nat->Bool} (h:∀ x∈l,f x=false):xb l f=false:=by
 induction l with
 | nil=>rfl
 | cons a l ih=>rw [dK,h a (.head _),ih fun x q=>h x (.tail _ q)]; rfl
theorem pG {l:List Nat} {f g:Nat->Bool} (h:∀ x∈l,f x=g x):xb l f=xb l g:=by
 induction l with
 | nil=>rfl
 | cons a l ih=>rw [dK,dK,h a (.head _),ih fun x q=>h x (.tail _ q)]
theorem By (a b c d:Bool):((a ^^ b) ^^ (c ^^ d))=((a ^^ c) ^^ (b ^^ d)):=by cases a <;> cases b <;> cases c <;> cases d <;> rfl
theorem FN (l:List Nat) (f g:Nat->Bool):xb l (fun x=>f x ^^ g x)=(xb l f ^^ xb l g):=by
 induction l with
 | nil=>rfl
 | cons a l ih=>rw [dK,dK,dK,ih,By]
theorem FE (l:List Nat) (b:Bool) (f:Nat->Bool):xb l (fun x=>b&&f x)=(b&&xb l f):=by
 cases b with
 | false=>exact tM fun _ _=>rfl
 | true=>rfl
theorem yh {l l':List Nat} (h:l.Perm l') (f:Nat->Bool):xb l f=xb l' f:=by
 induction h with
 | nil=>rfl
 | cons a _ ih=>rw [dK,dK,ih]
 | swap a b l=>rw [dK,dK,dK,dK,← Bool.xor_assoc,← Bool.xor_assoc,Bool.xor_comm (f b)]
 | trans _ _ h1 h2=>exact h1.trans h2
theorem px (l:List Nat) (g:Nat->List Nat) (f:Nat->Bool):xb (l.flatMap g) f=xb l fun x=>xb (g x) f:=by
 induction l with
 | nil=>rfl
 | cons a l ih=>rw [List.flatMap_cons,wF,dK,ih]
noncomputable def par (l:List Nat) (t:Nat):Bool:=xb l fun x=>decide (x=t)
theorem yx (l l':List Nat) (t:Nat):par (l++l') t=(par l t ^^ par l' t):=wF _ _ _
theorem jq (a:Nat) (l:List Nat) (t:Nat):par (a::l) t=(decide (a=t) ^^ par l t):=rfl
theorem iL {l:List Nat} {t:Nat} (h:t∉l):par l t=false:=tM fun x q=>decide_eq_false fun e=>h (e▸q)
theorem qj {l:List Nat} {t:Nat} (h:par l t=true):t∈l:=Classical.byContradiction fun q=>by rw [iL q] at h; cases h
theorem CY {l:List Nat} (hn:l.Nodup) {t:Nat} (h:t∈l):par l t=true:=by
 induction l with
 | nil=>cases h
 | cons a l ih=>
  rw [List.nodup_cons] at hn;rw [jq];by_cases e:a=t
  .rw [decide_eq_true e,iL (e▸hn.1)]; rfl
  .rw [decide_eq_false e,ih hn.2 ((List.mem_cons.mp h).resolve_left fun q=>e q.symm)]; rfl
theorem pf {h:Nat->Bool}:∀ (n:Nat) (l:List Nat),l.length<=n->(∀ x∈l,h x=true->par l x=false)->xb l h=false
 | 0,l,hl,_=>by rw [List.length_eq_zero_iff.mp (Nat.le_zero.mp hl)]; rfl
 | n+1,[],_,_=>rfl
 | n+1,a::l,hl,hp=>by
  have hl':l.length<=n:=Nat.le_of_succ_le_succ hl;rw [dK];cases ha:h a with
  | false=>
   rw [Bool.false_xor];refine pf n l hl' fun x hx hh=>?_;have:=hp x (.tail _ hx) hh;rw [jq,decide_eq_false (fun e=>by rw [e,hh] at ha; cases ha),Bool.false_xor] at this;exact this
  | true=>
   have h1:=hp a (.head _) ha;rw [jq,decide_eq_true rfl,Bool.true_xor,Bool.not_eq_false'] at h1;have hm:=qj h1;have pm:=List.perm_cons_erase hm;rw [yh pm,dK,ha,← Bool.xor_assoc,Bool.xor_self,Bool.false_xor];refine pf n _ (Nat.le_trans (Nat.le_of_lt (by rw [List.length_erase_of_mem hm]; exact Nat.sub_lt (List.length_pos_of_mem hm) Nat.zero_lt_one)) hl') fun x hx hh=>?_;have:=hp x (.tail _ (List.mem_of_mem_erase hx)) hh;have e2:par l x=par (a::l.erase a) x:=yh pm _;rw [jq,e2,jq,← Bool.xor_assoc,Bool.xor_self,Bool.false_xor] at this;exact this
theorem CA {l:List Nat} {h:Nat->Bool} {u:Nat} (hp:∀ x∈l,h x=true->x≠u->par l x=false):xb l h=(par l u&&h u):=by
 have e0:xb l (fun x=>h x&&!decide (x=u))=false:=pf _ l (Nat.le_refl _) fun x hx q=>by
  rw [Bool.and_eq_true,Bool.not_eq_true',decide_eq_false_iff_not] at q;exact hp x hx q.1 q.2
 have e1:xb l h=xb l (fun x=>(h x&&!decide (x=u)) ^^ (h u&&decide (x=u))):=pG fun x _=>by
  by_cases e:x=u
  .rw [e,decide_eq_true rfl];cases h u <;> rfl
  .rw [decide_eq_false e,Bool.and_false,Bool.xor_false];cases h x <;> rfl
 rw [e1,FN,e0,Bool.false_xor,FE,Bool.and_comm];rfl
theorem DN {l l':List Nat} (h:∀ t,par l t=par l' t) (f:Nat->Bool):xb l f=xb l' f:=by
 have:xb (l++l') f=false:=pf _ _ (Nat.le_refl _) fun x _ _=>by rw [yx,h,Bool.xor_self]
 rw [wF] at this;cases h1:xb l f <;> cases h2:xb l' f <;> rw [h1,h2] at this <;> first | rfl | cases this
theorem zx (a:Nat) (l:List Nat):l.foldl (· ^^^ ·) a=a ^^^ eu l:=by
 unfold eu
 induction l generalizing a with
 | nil=>exact (Nat.xor_zero a).symm
 | cons b l ih=>rw [List.foldl_cons,List.foldl_cons,ih,ih (0 ^^^ b),Nat.zero_xor,Nat.xor_assoc]
theorem cA (a:Nat) (l:List Nat):eu (a::l)=a ^^^ eu l:=by
 show l.foldl (· ^^^ ·) (0 ^^^ a)=_;rw [zx,Nat.zero_xor]
theorem BX:eu []=0:=rfl
theorem p8 (l l':List Nat):eu (l++l')=eu l ^^^ eu l':=by
 induction l with
 | nil=>rw [List.nil_append,BX,Nat.zero_xor]
 | cons a l ih=>rw [List.cons_append,cA,cA,ih,Nat.xor_assoc]
theorem mU (l:List Nat) (φ:Nat->Nat) (i:Nat):(eu (l.map φ)).testBit i=xb l fun x=>(φ x).testBit i:=by
 induction l with
 | nil=>exact Nat.zero_testBit i
 | cons a l ih=>rw [List.map_cons,cA,Nat.testBit_xor,ih,dK]
theorem jz {l l':List Nat} (h:∀ t,par l t=par l' t) (φ:Nat->Nat):eu (l.map φ)=eu (l'.map φ):=Nat.eq_of_testBit_eq fun i=>by rw [mU,mU,DN h]
theorem Ah (l:List Nat) (g:Nat->List Nat) (φ:Nat->Nat):eu ((l.flatMap g).map φ)=eu (l.map fun x=>eu ((g x).map φ)):=by
 induction l with
 | nil=>rfl
 | cons a l ih=>rw [List.flatMap_cons,List.map_append,p8,List.map_cons,cA,ih]
theorem xG {a b:Nat} (h:a ^^^ b=0):a=b:=by
 have:a ^^^ b ^^^ b=b:=by rw [h,Nat.zero_xor]
 rwa [Nat.xor_assoc,Nat.xor_self,Nat.xor_zero] at this
theorem rT {x i:Nat} (h:x.testBit i=true):2 ^ i<=x:=Nat.le_of_not_lt fun q=>by rw [Nat.testBit_lt_two_pow q] at h; cases h
theorem pQ {x k:Nat} (h:x < 2 ^ (k+1)) (hb:x.testBit k=false):x < 2 ^ k:=Nat.lt_pow_two_of_testBit x fun i hi=>by
 by_cases e:i=k
 .rw [e]; exact hb
 .exact Nat.testBit_lt_two_pow (Nat.lt_of_lt_of_le h (Nat.pow_le_pow_right (by decide) (by omega)))
theorem Do (m k:Nat):(m % 2 ^ (k+1)).testBit k=m.testBit k:=by
 rw [Nat.testBit_mod_two_pow,decide_eq_true (Nat.lt_succ_self k),Bool.true_and]
theorem mW {h:Nat} (h0:0 < h) (m:Nat):min m (m ^^^ h)=if m.testBit h.log2=true then m ^^^ h else m:=by
 have hl:=Nat.lt_log2_self (n:=h);have hb:=Nat.testBit_log2 (n:=h) (Nat.ne_of_gt h0);generalize h.log2=k at hl hb;have d1:(m ^^^ h) / 2 ^ (k+1)=m / 2 ^ (k+1):=by rw [Nat.xor_div_two_pow,Nat.div_eq_of_lt hl,Nat.xor_zero]
 have d2:(m ^^^ h) % 2 ^ (k+1)=(m % 2 ^ (k+1)) ^^^ h:=by rw [Nat.xor_mod_two_pow,Nat.mod_eq_of_lt hl]
 have e1:=Nat.div_add_mod m (2 ^ (k+1));have e2:=Nat.div_add_mod (m ^^^ h) (2 ^ (k+1));rw [d1,d2] at e2;have b1:=Do m k;have l1:=Nat.mod_lt m (Nat.two_pow_pos (k+1));have l2:(m % 2 ^ (k+1)) ^^^ h < 2 ^ (k+1):=Nat.xor_lt_two_pow l1 hl;have b2:((m % 2 ^ (k+1)) ^^^ h).testBit k=!m.testBit k:=by rw [Nat.testBit_xor,b1,hb,Bool.xor_true]
 by_cases q:m.testBit k=true
 .rw [if_pos q];rw [q] at b1 b2;have:=rT b1;have:=pQ l2 b2;exact Nat.min_eq_right (by omega)
 .rw [if_neg q];rw [Bool.not_eq_true] at q;rw [q] at b1 b2;have:=pQ l1 b1;have:=rT (x:=(m % 2 ^ (k+1)) ^^^ h) (i:=k) b2;exact Nat.min_eq_left (by omega)
theorem kK (h:Nat) (hs:List Nat) (m:Nat):red (h::hs) m=red hs (min m (m ^^^ h)):=rfl
noncomputable def Clr (hs:List Nat) (m:Nat):Prop:=∀ h∈hs,m.testBit h.log2=false
theorem yG {hs:List Nat} {m:Nat} (hp:∀ h∈hs,0 < h) (c:Clr hs m):red hs m=m:=by
 induction hs with
 | nil=>rfl
 | cons h hs ih=>
  rw [kK,mW (hp h (.head _)),if_neg (by rw [c h (.head _)]; exact Bool.false_ne_true)];exact ih (fun x q=>hp x (.tail _ q)) fun x q=>c x (.tail _ q)
theorem C9 {hs:List Nat} (hp:∀ h∈hs,0 < h) (a b:Nat):red hs (a ^^^ b)=red hs a ^^^ red hs b:=by
 induction hs generalizing a b with
 | nil=>rfl
 | cons h hs ih=>
  have h0:=hp h (.head _);rw [kK,kK,kK,mW h0,mW h0,mW h0,← ih fun x q=>hp x (.tail _ q)];refine congrArg (red hs) ?_;rw [Nat.testBit_xor];cases a.testBit h.log2 <;> cases b.testBit h.log2
  .rfl
  .show (a ^^^ b) ^^^ h=a ^^^ (b ^^^ h);exact Nat.xor_assoc ..
  .show (a ^^^ b) ^^^ h=(a ^^^ h) ^^^ b;rw [Nat.xor_assoc,Nat.xor_assoc,Nat.xor_comm b h]
  .show a ^^^ b=(a ^^^ h) ^^^ (b ^^^ h);rw [Nat.xor_comm b h,Nat.xor_assoc,← Nat.xor_assoc h h b,Nat.xor_self,Nat.zero_xor]
noncomputable def Spn (ms:List Nat) (x:Nat):Prop:=∃ l:List Nat,(∀ m∈l,m∈ms)/\x=eu l
theorem Spn.zero (ms:List Nat):Spn ms 0:=⟨[],fun _ h=>(nomatch h),rfl⟩
theorem Spn.mem {ms:List Nat} {m:Nat} (h:m∈ms):Spn ms m:=⟨[m],fun _ q=>List.mem_singleton.mp q▸h,(Nat.zero_xor m).symm⟩
theorem Spn.add {ms:List Nat} {a b:Nat}:Spn ms a->Spn ms b->Spn ms (a ^^^ b):=fun ⟨l,h1,e1⟩ ⟨l',h2,e2⟩=>⟨l++l',fun m q=>(List.mem_append.mp q).elim (h1 m) (h2 m),by rw [e1,e2,p8]⟩
theorem Spn.sub {ms ns:List Nat} (h:∀ m∈ms,Spn ns m) {x:Nat}:Spn ms x->Spn ns x:=fun ⟨l,h1,e⟩=>by
 have:∀ l:List Nat,(∀ m∈l,m∈ms)->Spn ns (eu l):=fun l=>by
  induction l with
  | nil=>exact fun _=>.zero _
  | cons a l ih=>intro h1; rw [cA]; exact (h a (h1 a (.head _))).add (ih fun m q=>h1 m (.tail _ q))
 exact e▸this l h1
theorem Spn.iff_of {ms ns:List Nat} (h:∀ m∈ms,Spn ns m) (h2:∀ m∈ns,Spn ms m) (x:Nat):Spn ms x↔Spn ns x:=⟨.sub h,.sub h2⟩
theorem jr {a b:Nat}:(a ^^^ b) ^^^ b=a:=by rw [Nat.xor_assoc,Nat.xor_self,Nat.xor_zero]
theorem Spn.snoc {ms:List Nat} {a x:Nat}:Spn (ms++[a]) x↔Spn ms x\/Spn ms (x ^^^ a):=by
 constructor
 .rintro ⟨l,h,rfl⟩
  induction l with
  | nil=>exact .inl (.zero _)
  | cons b l ih=>
   rw [cA];have hi:=ih fun m q=>h m (.tail _ q);rcases List.mem_append.mp (h b (.head _)) with q | q
   .rcases hi with hi | hi
    .exact .inl ((Spn.mem q).add hi)
    .refine .inr ?_;rw [Nat.xor_assoc];exact (Spn.mem q).add hi
   .rw [List.mem_singleton.mp q];rcases hi with hi | hi
    .refine .inr ?_;rw [Nat.xor_comm a,jr];exact hi
    .refine .inl ?_;rw [Nat.xor_comm];exact hi
 .have hw:∀ {y},Spn ms y->Spn (ms++[a]) y:=Spn.sub fun m q=>.mem (List.mem_append_left _ q)
  rintro (h | h)
  .exact hw h
  .have:=(hw h).add (Spn.mem (List.mem_append_right ms (List.mem_singleton_self a)))
   rwa [jr] at this
structure Hd (hs ms:List Nat):Prop where
 pos:∀ h∈hs,0 < h
 clr:∀ m,Clr hs (red hs m)
 kill:∀ h∈hs,red hs h=0
 sp:∀ x,Spn hs x↔Spn ms x
theorem A7 {hs:List Nat}:∀ m,Spn hs (red hs m ^^^ m):=by
 have:∀ (us:List Nat),(∀ u∈us,u∈hs)->∀ m,Spn hs (red us m ^^^ m):=fun us=>by
  induction us with
  | nil=>exact fun _ m=>by rw [show red [] m=m from rfl,Nat.xor_self]; exact .zero _
  | cons u us ih=>
   intro h m;rw [kK];have h1:=ih (fun x q=>h x (.tail _ q)) (min m (m ^^^ u))
   have h2:Spn hs (min m (m ^^^ u) ^^^ m):=by
    rcases Nat.le_total m (m ^^^ u) with q | q
    .rw [Nat.min_eq_left q,Nat.xor_self]; exact .zero _
    .rw [Nat.min_eq_right q,Nat.xor_comm m,jr]; exact .mem (h u (.head _))
   have:=h1.add h2
   rwa [Nat.xor_assoc,← Nat.xor_assoc (min m (m ^^^ u)),Nat.xor_self,Nat.zero_xor] at this
 exact fun m=>this hs (fun _ q=>q) m
theorem Hd.zero {hs ms:List Nat} (H:Hd hs ms) {m:Nat}:red hs m=0↔Spn ms m:=by
 rw [← H.sp];constructor
 .intro e;have:=A7 (hs:=hs) m
  rwa [e,Nat.zero_xor] at this
 .rintro ⟨l,h,rfl⟩
  have h0:red hs 0=0:=yG H.pos fun h _=>Nat.zero_testBit _
  induction l with
  | nil=>exact h0
  | cons a l ih=>rw [cA,C9 H.pos,H.kill a (h a (.head _)),ih fun m q=>h m (.tail _ q)]; rfl
theorem Hd.of (ms:List Nat):Hd (cH ms) ms:=kL (P:=fun ms=>Hd (cH ms) ms) ms ⟨fun _ h=>(nomatch h),fun _ _ h=>(nomatch h),fun _ h=>(nomatch h),fun _=>Iff.rfl⟩ fun ms a H=>by
 rw [iP];unfold ow;by_cases q:0 < red (cH ms) a
 .rw [if_pos q];generalize cH ms=hs at H q;have hc:=H.clr a;have hpos:∀ h∈hs++[red hs a],0 < h:=fun h hh=>(List.mem_append.mp hh).elim (H.pos h) fun z=>List.mem_singleton.mp z▸q;have hb:=Nat.testBit_log2 (n:=red hs a) (Nat.ne_of_gt q);refine ⟨hpos,fun m h hh=>?_,fun h hh=>?_,fun x=>?_⟩
  .rw [p6,mW q];have hm:=H.clr m;rcases List.mem_append.mp hh with hh | hh
   .by_cases z:(red hs m).testBit (red hs a).log2=true
    .rw [if_pos z,Nat.testBit_xor,hm h hh,hc h hh]; rfl
    .rw [if_neg z]; exact hm h hh
   .rw [List.mem_singleton.mp hh];by_cases z:(red hs m).testBit (red hs a).log2=true
    .rw [if_pos z,Nat.testBit_xor,z,hb]; rfl
    .rw [if_neg z]; rwa [Bool.not_eq_true] at z
  .rw [p6];rcases List.mem_append.mp hh with hh | hh
   .rw [H.kill h hh]; exact Nat.zero_min _
   .rw [List.mem_singleton.mp hh,yG H.pos hc,Nat.xor_self]; exact Nat.min_zero _
  .rw [Spn.snoc,Spn.snoc,H.sp,H.sp];have hs1:Spn ms (red hs a ^^^ a):=(H.sp _).mp (A7 a);refine or_congr_right ⟨fun z=>?_,fun z=>?_⟩
   .have:=z.add hs1
    rwa [Nat.xor_assoc,← Nat.xor_assoc (red hs a),Nat.xor_self,Nat.zero_xor] at this
   .have:=z.add hs1
    rwa [Nat.xor_comm (red hs a),Nat.xor_assoc,← Nat.xor_assoc a a,Nat.xor_self,Nat.zero_xor] at this
 .rw [if_neg q];refine ⟨H.pos,H.clr,H.kill,fun x=>?_⟩;have hz:=H.zero.mp (Nat.eq_zero_of_not_pos q);rw [H.sp,Spn.snoc];refine ⟨.inl,fun z=>z.elim id fun z=>?_⟩;have:=z.add hz
  rwa [jr] at this
open Classical in
noncomputable def B8 (b:List Nat) (a:Nat):Nat:=if Spn b a then 0 else 1
noncomputable def rkG:List Nat->List Nat->Nat
 | _,[]=>0
 | b,a::l=>B8 b a+rkG (b++[a]) l
theorem aN (b:List Nat) (a:Nat) (l:List Nat):(Spn b a->rkG b (a::l)=rkG (b++[a]) l)/\(¬ Spn b a->rkG b (a::l)=1+rkG (b++[a]) l):=
 ⟨fun h=>by show B8 b a+_=_; unfold B8; rw [if_pos h,Nat.zero_add],fun h=>by show B8 b a+_=_; unfold B8; rw [if_neg h]⟩
theorem B0 {b b':List Nat} (h:∀ x,Spn b x↔Spn b' x) (l:List Nat):rkG b l=rkG b' l:=by
 induction l generalizing b b' with
 | nil=>rfl
 | cons a l ih=>
  have hn:∀ x,Spn (b++[a]) x↔Spn (b'++[a]) x:=fun x=>by rw [Spn.snoc,Spn.snoc,h,h]
  by_cases q:Spn b a
  .rw [(aN b a l).1 q,(aN b' a l).1 ((h a).mp q),ih hn]
  .rw [(aN b a l).2 q,(aN b' a l).2 (fun z=>q ((h a).mpr z)),ih hn]
theorem t8 (b l l':List Nat):rkG b (l++l')=rkG b l+rkG (b++l) l':=by
 induction l generalizing b with
 | nil=>rw [List.nil_append,List.append_nil]; show _=0+_; rw [Nat.zero_add]
 | cons a l ih=>
  rw [List.cons_append];by_cases q:Spn b a
  .rw [(aN b a _).1 q,(aN b a _).1 q,ih,List.append_assoc]; rfl
  .rw [(aN b a _).2 q,(aN b a _).2 q,ih,List.append_assoc,Nat.add_assoc]; rfl
theorem xX (ms:List Nat):(cH ms).length=rkG [] ms:=kL (P:=fun ms=>(cH ms).length=rkG [] ms) ms rfl fun ms a ih=>by
 rw [iP,t8,← ih,List.nil_append];have H:=Hd.of ms;unfold ow;by_cases q:Spn ms a
 .rw [(aN ms a []).1 q,H.zero.mpr q]; rfl
 .rw [(aN ms a []).2 q,if_pos (Nat.pos_of_ne_zero fun z=>q (H.zero.mp z)),List.length_append]; rfl
theorem Cq (b:List Nat) (x y:Nat) (l:List Nat):rkG b (y::x::l)=rkG b (x::y::l):=by
 have hs:∀ z,Spn ((b++[y])++[x]) z↔Spn ((b++[x])++[y]) z:=Spn.iff_of (fun m q=>.mem (by simp at q ⊢; rcases q with q | rfl | rfl <;> simp [*])) (fun m q=>.mem (by simp at q ⊢; rcases q with q | rfl | rfl <;> simp [*]));have e:=B0 hs l;by_cases hx:Spn b x <;> by_cases hy:Spn b y
 .rw [(aN b y _).1 hy,(aN _ x _).1 (Spn.snoc.mpr (.inl hx)),(aN b x _).1 hx,(aN _ y _).1 (Spn.snoc.mpr (.inl hy)),e]
 .have h1:¬ Spn (b++[x]) y:=fun q=>(Spn.snoc.mp q).elim hy fun q=>hy (by have:=q.add hx; rwa [jr] at this);rw [(aN b y _).2 hy,(aN _ x _).1 (Spn.snoc.mpr (.inl hx)),(aN b x _).1 hx,(aN _ y _).2 h1,e]
 .have h1:¬ Spn (b++[y]) x:=fun q=>(Spn.snoc.mp q).elim hx fun q=>hx (by have:=q.add hy; rwa [jr] at this);rw [(aN b y _).1 hy,(aN _ x _).2 h1,(aN b x _).2 hx,(aN _ y _).1 (Spn.snoc.mpr (.inl hy)),e]
 .by_cases hxy:Spn b (x ^^^ y)
  .rw [(aN b y _).2 hy,(aN _ x _).1 (Spn.snoc.mpr (.inr hxy)),(aN b x _).2 hx,(aN _ y _).1 (Spn.snoc.mpr (.inr (by rw [Nat.xor_comm]; exact hxy))),e]
  .have h1:¬ Spn (b++[y]) x:=fun q=>(Spn.snoc.mp q).elim hx hxy;have h2:¬ Spn (b++[x]) y:=fun q=>(Spn.snoc.mp q).elim hy fun q=>hxy (by rw [Nat.xor_comm]; exact q);rw [(aN b y _).2 hy,(aN _ x _).2 h1,(aN b x _).2 hx,(aN _ y _).2 h2,e]
theorem B6 {l l':List Nat} (p:l.Perm l'):∀ b,rkG b l=rkG b l':=by
 induction p with
 | nil=>exact fun _=>rfl
 | cons a p ih=>
  intro b;by_cases q:Spn b a
  .rw [(aN b a _).1 q,(aN b a _).1 q,ih]
  .rw [(aN b a _).2 q,(aN b a _).2 q,ih]
 | swap x y l=>exact fun b=>Cq b x y l
 | trans _ _ h1 h2=>exact fun b=>(h1 b).trans (h2 b)
noncomputable def dm (t:Nat):Nat:=((List.range 3).filter fun k=>dg t k==2).length
theorem FU:((List.range 27).all fun t=>(bd t).all fun f=>dm f+1==dm t)=true:=by kernel_rfl
theorem kR {t f:Nat} (h:t < 27) (hf:f∈bd t):dm f+1=dm t:=eq_of_beq (List.all_eq_true.mp (im FU h) f hf)
theorem FP:((List.range 27).all fun t=>(wd t).all fun a=>(bd a).contains t&&Nat.blt a 27)=true:=by kernel_rfl
theorem EH {t a:Nat} (h:t < 27) (ha:a∈wd t):t∈bd a:=List.contains_iff_mem.mp (Bool.and_eq_true_iff.mp (List.all_eq_true.mp (im FP h) a ha)).1
theorem BO:((List.range 27).all fun c=>(List.range 27).all fun t=>!par ((bd c).flatMap bd) t)=true:=by kernel_rfl
theorem GG {c:Nat} (h:c < 27) (t:Nat):par ((bd c).flatMap bd) t=false:=by
 by_cases ht:t < 27
 .have:=im (im BO h) ht
  rwa [Bool.not_eq_true'] at this
 .refine iL fun q=>?_;obtain ⟨f,h1,h2⟩:=List.mem_flatMap.mp q;exact ht (A4 (A4 h h1) h2)
theorem zv:((List.range 27).all fun a=>(bd a).all fun t=>(wd t).contains a)=true:=by kernel_rfl
theorem Gg {t a:Nat} (h:a < 27) (ht:t∈bd a):a∈wd t:=List.contains_iff_mem.mp (List.all_eq_true.mp (im zv h) t ht)
structure MH (C:List Nat) (ps:List Pr):Prop where
 nd:C.Nodup
 lt:∀ c∈C,c < 26
 cl:∀ c∈C,∀ f∈bd c,f∈C
 up:∀ p∈ps,p.1∈C/\p.2∈C/\p.1∈bd p.2
 pnd:(prd ps).Nodup
theorem gc {ps:List Pr} {x:Nat}:x∈prd ps↔∃ p∈ps,x=p.1\/x=p.2:=by
 unfold prd;rw [List.mem_flatMap];exact exists_congr fun p=>and_congr_right fun _=>by rw [List.mem_cons,List.mem_singleton]
theorem kY {ps:List Pr} (h:(prd ps).Nodup):∀ p∈ps,p.1≠p.2/\∀ q∈ps,p.1≠q.2/\(p.1=q.1->p=q)/\(p.2=q.2->p=q):=by
 induction ps with
 | nil=>exact fun _ h=>nomatch h
 | cons r ps ih=>
  have e:prd (r::ps)=r.1::r.2::prd ps:=rfl;rw [e,List.nodup_cons,List.nodup_cons,List.mem_cons,not_or] at h;obtain ⟨⟨h1,h2⟩,h3,h4⟩:=h;have ih:=ih h4;have hn:∀ q∈ps,r.1≠q.1/\r.1≠q.2/\r.2≠q.1/\r.2≠q.2:=fun q hq=>⟨fun e=>h2 (gc.mpr ⟨q,hq,.inl e⟩),fun e=>h2 (gc.mpr ⟨q,hq,.inr e⟩),fun e=>h3 (gc.mpr ⟨q,hq,.inl e⟩),fun e=>h3 (gc.mpr ⟨q,hq,.inr e⟩)⟩
  intro p hp;rcases List.mem_cons.mp hp with rfl | hp
  .refine ⟨h1,fun q hq=>?_⟩;rcases List.mem_cons.mp hq with rfl | hq
   .exact ⟨h1,fun _=>rfl,fun _=>rfl⟩
   .have:=hn q hq;exact ⟨this.2.1,fun e=>absurd e this.1,fun e=>absurd e this.2.2.2⟩
  .refine ⟨(ih p hp).1,fun q hq=>?_⟩;rcases List.mem_cons.mp hq with z | hq
   .have:=hn p hp;rw [z];exact ⟨fun e=>this.2.2.1 e.symm,fun e=>absurd e.symm this.1,fun e=>absurd e.symm this.2.2.2⟩
   .exact (ih p hp).2 q hq
theorem qF {ps:List Pr} (h:(prd ps).Nodup) {c a:Nat} (hm:(c,a)∈ps):ps.lookup c=some a:=by
 have hs:(ps.lookup c).isSome=true:=by
  cases e:ps.lookup c with
  | some _=>rfl
  | none=>
   have:∀ {qs:List Pr},(c,a)∈qs->qs.lookup c≠none:=fun {qs}=>by
    induction qs with
    | nil=>exact fun q=>nomatch q
    | cons r qs ih=>
     obtain ⟨x,y⟩:=r;intro q z;rw [List.lookup_cons] at z;by_cases w:c=x
     .rw [w,beq_self_eq_true] at z; cases z
     .rw [beq_eq_false_iff_ne.mpr w] at z;exact ih ((List.mem_cons.mp q).resolve_left fun t=>w (congrArg Prod.fst t)) z
   exact absurd e (this hm)
 obtain ⟨b,hb⟩:=Option.isSome_iff_exists.mp hs;have:=((kY h (c,a) hm).2 (c,b) (gL hb)).2.1 rfl;rw [hb,show a=b from congrArg Prod.snd this]
theorem nh {sc:Nat->List Nat} {blk:List Nat} (t:nn sc blk):(∃ rk:Nat->Nat,∀ p∈blk,∀ c∈sc p,rk p < rk c)/\∀ p∈blk,∀ c∈sc p,c∈blk:=by
 induction t with
 | nil=>exact ⟨⟨fun _=>0,fun _ h=>(nomatch h)⟩,fun _ h=>(nomatch h)⟩
 | @snoc blk h t hc ih=>
  obtain ⟨⟨rk,h1⟩,h2⟩:=ih;refine ⟨⟨fun x=>if x=h/\h∉blk then 0 else rk x+1,fun p hp c hcs=>?_⟩,fun p hp c hcs=>List.mem_append_left _ ((List.mem_append.mp hp).elim (fun q=>h2 p q c hcs) fun q=>hc c (List.mem_singleton.mp q▸hcs))⟩;show (if p=h/\h∉blk then 0 else rk p+1) < (if c=h/\h∉blk then 0 else rk c+1);by_cases hb:p∈blk
  .have hcb:=h2 p hb c hcs;rw [if_neg (fun q=>q.2 (q.1▸hb)),if_neg (fun q=>q.2 (q.1▸hcb))];exact Nat.succ_lt_succ (h1 p hb c hcs)
  .have e:p=h:=(List.mem_append.mp hp).elim (fun q=>absurd q hb) List.mem_singleton.mp;subst e;have hcb:=hc c hcs;rw [if_pos ⟨rfl,hb⟩,if_neg (fun q=>q.2 (q.1▸hcb))];exact Nat.succ_pos _
structure Ord (ps:List Pr) (sc:Nat->List Nat) (blk:List Nat):Prop where
 topo:nn sc blk
 nd:blk.Nodup
 edge:∀ c a,(c,a)∈ps->∀ f∈bd a,f≠c->c∈sc f
 dom:∀ c a,(c,a)∈ps->c∈blk/\∀ f∈bd a,f∈blk
section
variable {C:List Nat} {ps:List Pr} {sc:Nat->List Nat} {blk:List Nat} (M:MH C ps) (O:Ord ps sc blk)
include M
theorem MH.lt27 {c:Nat} (h:c∈C):c < 27:=Nat.lt_succ_of_lt (M.lt c h)
theorem MH.fn {c a b:Nat} (h1:(c,a)∈ps) (h2:(c,b)∈ps):a=b:=congrArg Prod.snd (((kY M.pnd _ h1).2 _ h2).2.1 rfl)
theorem MH.inj {c d a:Nat} (h1:(c,a)∈ps) (h2:(d,a)∈ps):c=d:=congrArg Prod.fst (((kY M.pnd _ h1).2 _ h2).2.2 rfl)
theorem MH.apart {c a d:Nat} (h1:(c,a)∈ps) (h2:(d,c)∈ps):False:=((kY M.pnd _ h1).2 _ h2).1 rfl
theorem MH.up' {c a:Nat} (h:(c,a)∈ps):c∈C/\a∈C/\c∈bd a:=M.up _ h
theorem MH.bdpar {c a:Nat} (h:(c,a)∈ps):par (bd a) c=true:=CY (yv (M.lt27 (M.up' h).2.1)) (M.up' h).2.2
include O
theorem Br {J:List Nat} (hJ:∀ x,par J x=true->∃ c,(c,x)∈ps) (h0:∀ c a,(c,a)∈ps->par (J.flatMap bd) c=false):∀ x,par J x=false:=by
 have key:∀ {bl:List Nat},nn sc bl->∀ c∈bl,∀ a,(c,a)∈ps->par J a=false:=fun {bl} t=>by
  induction t with
  | nil=>exact fun _ h=>nomatch h
  | @snoc bl h t hc ih=>
   intro c hcm a hp;rcases List.mem_append.mp hcm with q | q
   .exact ih c q a hp
   .rw [List.mem_singleton.mp q] at hp;have h1:=h0 h a hp;have h2:par (J.flatMap bd) h=xb J fun x=>par (bd x) h:=px _ _ _;rw [h2,CA (u:=a) (fun x hx hb hne=>?_),M.bdpar hp,Bool.and_true] at h1
    .exact h1
    .cases e:par J x with
     | false=>rfl
     | true=>
      obtain ⟨c',hc'⟩:=hJ x e;have hf:=qj hb;by_cases z:h=c'
      .exact absurd (M.fn (z▸hc') hp) hne
      .have:=ih c' (hc c' (O.edge c' x hc' h hf z)) x hc';rw [e] at this;cases this
 intro x;cases e:par J x with
 | false=>rfl
 | true=>
  obtain ⟨c,hc⟩:=hJ x e;rw [key O.topo c (O.dom c x hc).1 x hc] at e;cases e
theorem CQ {n:Nat} {z:List Nat} (hz:∀ t∈z,dm t=n):∃ J:List Nat,(∀ x∈J,(∃ c,(c,x)∈ps)/\dm x=n+1)/\∀ c a,(c,a)∈ps->par (z++J.flatMap bd) c=false:=by
 have key:∀ {bl:List Nat},nn sc bl->bl.Nodup->∃ J:List Nat,(∀ x∈J,(∃ c,(c,x)∈ps)/\dm x=n+1)/\∀ c∈bl,∀ a,(c,a)∈ps->par (z++J.flatMap bd) c=false:=fun {bl} t=>by
  induction t with
  | nil=>exact fun _=>⟨[],fun _ h=>(nomatch h),fun _ h=>(nomatch h)⟩
  | @snoc bl h t hc ih=>
   intro hnd;obtain ⟨hnb,_,hdis⟩:=List.nodup_append.mp hnd;have hh:h∉bl:=fun q=>hdis h q h (.head _) rfl;obtain ⟨J,h1,h2⟩:=ih hnb;by_cases q:∃ a,(h,a)∈ps/\par (z++J.flatMap bd) h=true
   .obtain ⟨a,hp,hpar⟩:=q
    have hdh:dm h=n:=by
     rcases List.mem_append.mp (qj hpar) with w | w
     .exact hz h w
     .obtain ⟨x,hx,hf⟩:=List.mem_flatMap.mp w;obtain ⟨⟨c,hcx⟩,hd⟩:=h1 x hx;have:=kR (M.lt27 (M.up' hcx).2.1) hf;omega
    have e:∀ c,par (z++(J++[a]).flatMap bd) c=(par (z++J.flatMap bd) c ^^ par (bd a) c):=fun c=>by
     rw [List.flatMap_append,← List.append_assoc,yx];rw [show [a].flatMap bd=bd a from by rw [List.flatMap_cons,List.flatMap_nil,List.append_nil]]
    refine ⟨J++[a],fun x hx=>?_,fun c hcm b hb=>?_⟩
    .rcases List.mem_append.mp hx with w | w
     .exact h1 x w
     .rw [List.mem_singleton.mp w];exact ⟨⟨h,hp⟩,by rw [← kR (M.lt27 (M.up' hp).2.1) (M.up' hp).2.2,hdh]⟩
    .rw [e];rcases List.mem_append.mp hcm with w | w
     .rw [h2 c w b hb,Bool.false_xor];refine iL fun hf=>hh ?_;exact (nh t).2 c w h (O.edge h a hp c hf fun z=>hh (z▸w))
     .rw [List.mem_singleton.mp w,hpar,M.bdpar hp];rfl
   .refine ⟨J,h1,fun c hcm b hb=>?_⟩;rcases List.mem_append.mp hcm with w | w
    .exact h2 c w b hb
    .rw [List.mem_singleton.mp w] at hb ⊢;cases e:par (z++J.flatMap bd) h with
     | false=>rfl
     | true=>exact absurd ⟨b,hb,e⟩ q
 obtain ⟨J,h1,h2⟩:=key O.topo O.nd;exact ⟨J,h1,fun c a hp=>h2 c (O.dom c a hp).1 a hp⟩
end
theorem pr {μ:Nat->Nat} {l:List Nat} {x:Nat}:Spn (l.map μ) x↔∃ J:List Nat,(∀ c∈J,c∈l)/\x=eu (J.map μ):=by
 constructor
 .rintro ⟨ms,h,rfl⟩
  induction ms with
  | nil=>exact ⟨[],fun _ h=>(nomatch h),rfl⟩
  | cons m ms ih=>
   obtain ⟨J,h1,h2⟩:=ih fun m q=>h m (.tail _ q);obtain ⟨c,hc,rfl⟩:=List.mem_map.mp (h m (.head _));exact ⟨c::J,fun d q=>(List.mem_cons.mp q).elim (fun e=>e▸hc) (h1 d),by rw [cA,h2,List.map_cons,cA]⟩
 .rintro ⟨J,h,rfl⟩
  exact ⟨J.map μ,fun m q=>by obtain ⟨c,hc,rfl⟩:=List.mem_map.mp q; exact List.mem_map_of_mem (h c hc),rfl⟩
theorem v5 {μ:Nat->Nat}:∀ {l b:List Nat},(∀ pre x post,l=pre++x::post->¬ Spn (b++pre.map μ) (μ x))->rkG b (l.map μ)=l.length
 | [],_,_=>rfl
 | a::l,b,h=>by
  rw [List.map_cons,(aN b _ _).2 (by have:=h [] a l rfl; rwa [List.map_nil,List.append_nil] at this),v5 (μ:=μ) (l:=l) fun pre x post e=>by
   have:=h (a::pre) x post (by rw [e]; rfl)
   rwa [List.map_cons,List.append_cons] at this,List.length_cons,Nat.add_comm]
theorem xN {μ μ':Nat->Nat}:∀ {l b b':List Nat},(∀ pre x post,l=pre++x::post->(Spn (b++pre.map μ) (μ x)↔Spn (b'++pre.map μ') (μ' x)))->rkG b (l.map μ)=rkG b' (l.map μ')
 | [],_,_,_=>rfl
 | a::l,b,b',h=>by
  have h0:=h [] a l rfl;rw [List.map_nil,List.map_nil,List.append_nil,List.append_nil] at h0
  have e:=xN (μ:=μ) (μ':=μ') (l:=l) (b:=b++[μ a]) (b':=b'++[μ' a]) fun pre x post e=>by
   have:=h (a::pre) x post (by rw [e]; rfl)
   rwa [List.map_cons,List.map_cons,List.append_cons,List.append_cons b'] at this
  rw [List.map_cons,List.map_cons];by_cases q:Spn b (μ a)
  .rw [(aN b _ _).1 q,(aN b' _ _).1 (h0.mp q),e]
  .rw [(aN b _ _).2 q,(aN b' _ _).2 (fun z=>q (h0.mpr z)),e]
theorem uC:∀ {l b:List Nat},(∀ x∈l,Spn b x)->rkG b l=0
 | [],_,_=>rfl
 | a::l,b,h=>by
  rw [(aN b a l).1 (h a (.head _)),uC fun x q=>Spn.snoc.mpr (.inl (h x (.tail _ q)))]
theorem ln (φ:Nat->Nat) (J:List Nat):eu (J.map (muL φ))=eu ((J.flatMap bd).map φ):=(Ah J bd φ).symm
theorem xK {C:List Nat} {x t:Nat} (hx:x∈C) (ht:t∈C):(pw C x).testBit (ixN C t)=decide (x=t):=by
 unfold pw;rw [Nat.testBit_two_pow];exact decide_eq_decide.mpr ⟨fun e=>Ef hx ht e,fun e=>e▸rfl⟩
theorem sN {C z:List Nat} (hz:∀ t∈z,t∈C):eu (z.map (pw C))=0↔∀ t,par z t=false:=by
 constructor
 .intro h t;by_cases ht:t∈C
  .have h1:(eu (z.map (pw C))).testBit (ixN C t)=xb z fun x=>(pw C x).testBit (ixN C t):=mU _ _ _;rw [h,Nat.zero_testBit,pG fun x hx=>xK (hz x hx) ht] at h1;exact h1.symm
  .exact iL fun q=>ht (hz t q)
 .intro h;exact jz (l':=[]) h _
section
variable {C left:List Nat} {ps:List Pr} {sc:Nat->List Nat} {blk:List Nat} {L:Nat->Nat}
structure LH (C left:List Nat) (ps:List Pr) (L:Nat->Nat):Prop where
 mem:∀ x,x∈left↔x∈C/\x∉prd ps
 lft:∀ x∈left,dm x<=1->L x=pw left x
 up:∀ c a,(c,a)∈ps->dm a<=1->L a=0
 dom:∀ c a,(c,a)∈ps->muL L a=0
theorem kinds (M:MH C ps) (H:LH C left ps L) {x:Nat} (hx:x∈C):x∈left\/(∃ a,(x,a)∈ps)\/∃ c,(c,x)∈ps:=by
 by_cases h:x∈prd ps
 .obtain ⟨p,hp,e⟩:=gc.mp h;rcases e with rfl | rfl
  .exact .inr (.inl ⟨p.2,hp⟩)
  .exact .inr (.inr ⟨p.1,hp⟩)
 .exact .inl ((H.mem x).mpr ⟨hx,h⟩)
theorem v8 (H:LH C left ps L) {c a:Nat} (h:(c,a)∈ps):c∉left/\a∉left:=⟨fun q=>((H.mem c).mp q).2 (gc.mpr ⟨_,h,.inl rfl⟩),fun q=>((H.mem a).mp q).2 (gc.mpr ⟨_,h,.inr rfl⟩)⟩
variable (M:MH C ps) (O:Ord ps sc blk) (H:LH C left ps L)
include M
theorem tQ {J:List Nat} (h:∀ c∈J,c∈C):∀ t∈J.flatMap bd,t∈C:=fun t q=>by
 obtain ⟨c,hc,hf⟩:=List.mem_flatMap.mp q;exact M.cl c (h c hc) t hf
theorem zK {J:List Nat} (h:∀ c∈J,c∈C) (t:Nat):par ((J.flatMap bd).flatMap bd) t=false:=by
 have e:par ((J.flatMap bd).flatMap bd) t=xb J fun y=>par ((bd y).flatMap bd) t:=by
  unfold par;rw [px,px];refine pG fun y _=>?_;rw [px]
 rw [e];exact tM fun y hy=>GG (M.lt27 (h y hy)) t
include O
theorem Fp {pre:List Nat} {u:Nat} (hp:∀ x∈pre,∃ c,(c,x)∈ps) (hu:∃ c,(c,u)∈ps) (hn:u∉pre):¬ Spn (pre.map (muL (pw C))) (muL (pw C) u):=fun q=>by
 obtain ⟨J,h1,h2⟩:=pr.mp q
 have hC:∀ x∈u::J,x∈C:=fun x hx=>by
  rcases List.mem_cons.mp hx with e | hx
  .obtain ⟨c,hc⟩:=hu;exact e▸(M.up' hc).2.1
  .obtain ⟨c,hc⟩:=hp x (h1 x hx);exact (M.up' hc).2.1
 have e0:eu (((u::J).flatMap bd).map (pw C))=0:=by rw [← ln,List.map_cons,cA,h2,Nat.xor_self]
 have hz:=(sN (tQ M hC)).mp e0
 have:=Br M O (J:=u::J) (fun x hx=>by
  rcases List.mem_cons.mp (qj hx) with e | q
  .exact e▸hu
  .exact hp x (h1 x q)) (fun c a _=>hz c) u
 rw [jq,decide_eq_true rfl,iL (fun q=>hn (h1 u q))] at this;cases this
include H
theorem GQ {n:Nat} (hn:n<=1) {J:List Nat} (hJ:∀ c∈J,c∈C/\dm c=n+1) (h0:eu (J.map (muL L))=0):∃ J2:List Nat,(∀ x∈J2,(∃ c,(c,x)∈ps)/\dm x=n+1)/\eu ((J++J2).map (muL (pw C)))=0:=by
 have hdz:∀ t∈J.flatMap bd,dm t=n:=fun t q=>by
  obtain ⟨c,hc,hf⟩:=List.mem_flatMap.mp q;have:=kR (M.lt27 (hJ c hc).1) hf;have:=(hJ c hc).2;omega
 obtain ⟨J2,h1,h2⟩:=CQ M O hdz
 have hC2:∀ c∈J++J2,c∈C/\dm c=n+1:=fun c q=>by
  rcases List.mem_append.mp q with q | q
  .exact hJ c q
  .obtain ⟨⟨d,hd⟩,e⟩:=h1 c q;exact ⟨(M.up' hd).2.1,e⟩
 have ez:J.flatMap bd++J2.flatMap bd=(J++J2).flatMap bd:=List.flatMap_append.symm;rw [ez] at h2;refine ⟨J2,h1,?_⟩;have hzC:=tQ M (J:=J++J2) fun c q=>(hC2 c q).1
 have hzd:∀ t∈(J++J2).flatMap bd,dm t<=1:=fun t q=>by
  obtain ⟨c,hc,hf⟩:=List.mem_flatMap.mp q;have:=kR (M.lt27 (hC2 c hc).1) hf;have:=(hC2 c hc).2;omega
 have hL:eu (((J++J2).flatMap bd).map L)=0:=by
  rw [← ln,List.map_append,p8,h0,Nat.zero_xor]
  have:∀ J2:List Nat,(∀ x∈J2,∃ c,(c,x)∈ps)->eu (J2.map (muL L))=0:=fun J2=>by
   induction J2 with
   | nil=>exact fun _=>rfl
   | cons x J2 ih=>
    intro h;obtain ⟨c,hc⟩:=h x (.head _);rw [List.map_cons,cA,H.dom c x hc,ih fun y q=>h y (.tail _ q)];rfl
  exact this J2 fun x q=>(h1 x q).1
 rw [ln]
 have hleft:∀ t∈left,par ((J++J2).flatMap bd) t=false:=fun t ht=>by
  by_cases hm:t∈(J++J2).flatMap bd
  .have hb:(eu (((J++J2).flatMap bd).map L)).testBit (ixN left t)=xb ((J++J2).flatMap bd) fun x=>(L x).testBit (ixN left t):=mU _ _ _;rw [hL,Nat.zero_testBit,CA (u:=t) (fun x hx hbit hne=>?_),H.lft t ht (hzd t hm),xK ht ht,decide_eq_true rfl,Bool.and_true] at hb
   .exact hb.symm
   .rcases kinds M H (hzC x hx) with q | ⟨a,q⟩ | ⟨c,q⟩
    .rw [H.lft x q (hzd x hx),xK q ht,decide_eq_false hne] at hbit;cases hbit
    .exact h2 x a q
    .rw [H.up c x q (hzd x hx),Nat.zero_testBit] at hbit;cases hbit
  .exact iL hm
 refine (sN hzC).mpr (Br M O (fun x hx=>?_) fun c a _=>zK M (fun c q=>(hC2 c q).1) c);rcases kinds M H (hzC x (qj hx)) with q | ⟨a,q⟩ | q
 .rw [hleft x q] at hx; cases hx
 .rw [h2 x a q] at hx; cases hx
 .exact q
end
theorem yo {l:List Nat} (h:l.Nodup) (t:Nat):par l t=decide (t∈l):=by
 by_cases q:t∈l
 .rw [CY h q,decide_eq_true q]
 .rw [iL q,decide_eq_false q]
theorem rR {l:List Nat} {c:Nat} (h:l.Nodup) (hc:c∈l) (t:Nat):par l t=par (c::l.filter fun f=>!decide (f=c)) t:=by
 have hn:(c::l.filter fun f=>!decide (f=c)).Nodup:=List.nodup_cons.mpr ⟨fun q=>(by have:=(List.mem_filter.mp q).2; rw [decide_eq_true rfl] at this; cases this),h.filter _⟩;rw [yo h,yo hn];refine decide_eq_decide.mpr ?_;rw [List.mem_cons,List.mem_filter,Bool.not_eq_true',decide_eq_false_iff_not];constructor
 .intro q;by_cases e:t=c
  .exact .inl e
  .exact .inr ⟨q,e⟩
 .rintro (e | q)
  .exact e▸hc
  .exact q.1
noncomputable def tkB (ps:List Pr) (x:Nat):Bool:=decide (x∈ps.map (·.2))
noncomputable def lfB (left:List Nat) (x:Nat):Bool:=decide (x∈left)
theorem lq {ps:List Pr} {x:Nat}:tkB ps x=true↔∃ c,(c,x)∈ps:=by
 unfold tkB;rw [decide_eq_true_eq,List.mem_map];exact ⟨fun ⟨⟨c,a⟩,h,e⟩=>⟨c,e▸h⟩,fun ⟨c,h⟩=>⟨_,h,rfl⟩⟩
noncomputable def bx (C:List Nat) (n:Nat):List Nat:=C.filter fun c=>decide (dm c=n)
theorem eP {C:List Nat} {n x:Nat}:x∈bx C n↔x∈C/\dm x=n:=by unfold bx; rw [List.mem_filter,decide_eq_true_eq]
noncomputable def p4 (C left:List Nat) (ps:List Pr) (n:Nat):List Nat:=((bx C n).filter fun x=>!tkB ps x).filter fun x=>!lfB left x
section
variable {C left:List Nat} {ps:List Pr} {sc:Nat->List Nat} {blk:List Nat} {L:Nat->Nat} (M:MH C ps) (O:Ord ps sc blk) (H:LH C left ps L)
include M H
omit M in
theorem u5 (n:Nat):(bx C n).Perm ((bx C n).filter (tkB ps)++((bx C n).filter (lfB left)++p4 C left ps n)):=by
 have p1:=(List.filter_append_perm (tkB ps) (bx C n)).symm;have p2:=(List.filter_append_perm (lfB left) ((bx C n).filter fun x=>!tkB ps x)).symm
 have e:((bx C n).filter fun x=>!tkB ps x).filter (lfB left)=(bx C n).filter (lfB left):=by
  rw [List.filter_filter];refine List.filter_congr fun x _=>?_;cases h:lfB left x with
  | false=>rfl
  | true=>
   cases h2:tkB ps x with
   | false=>rfl
   | true=>
    obtain ⟨c,hc⟩:=lq.mp h2;exact absurd (of_decide_eq_true h) (v8 H hc).2
 rw [e] at p2;exact p1.trans (p2.append_left _)
theorem sP {n x:Nat}:x∈p4 C left ps n↔dm x=n/\∃ a,(x,a)∈ps:=by
 unfold p4;rw [List.mem_filter,List.mem_filter,eP,Bool.not_eq_true',Bool.not_eq_true',lfB,decide_eq_false_iff_not];constructor
 .rintro ⟨⟨⟨h1,h2⟩,h3⟩,h4⟩
  refine ⟨h2,?_⟩;rcases kinds M H h1 with q | q | q
  .exact absurd q h4
  .exact q
  .rw [lq.mpr q] at h3; cases h3
 .rintro ⟨h1,a,h2⟩
  refine ⟨⟨⟨(M.up' h2).1,h1⟩,?_⟩,(v8 H h2).1⟩;cases e:tkB ps x with
  | false=>rfl
  | true=>
   obtain ⟨c,hc⟩:=lq.mp e;exact (M.apart h2 hc).elim
include O
theorem uw {n:Nat} (hn:n<=1):rkL (pw C) (bx C (n+1))=((bx C (n+1)).filter (tkB ps)).length+rkL L ((bx C (n+1)).filter (lfB left)):=by
 have hU:∀ x∈(bx C (n+1)).filter (tkB ps),x∈C/\dm x=n+1/\∃ c,(c,x)∈ps:=fun x q=>by
  obtain ⟨h1,h2⟩:=List.mem_filter.mp q;exact ⟨(eP.mp h1).1,(eP.mp h1).2,lq.mp h2⟩
 have hW:∀ x∈(bx C (n+1)).filter (lfB left),x∈C/\dm x=n+1/\x∈left:=fun x q=>by
  obtain ⟨h1,h2⟩:=List.mem_filter.mp q;exact ⟨(eP.mp h1).1,(eP.mp h1).2,of_decide_eq_true h2⟩
 unfold rkL;rw [xX,xX,B6 ((u5 H (n+1)).map (muL (pw C)))];rw [List.map_append,List.map_append,t8,t8,List.nil_append];have hUn:((bx C (n+1)).filter (tkB ps)).Nodup:=(M.nd.filter _).filter _
 have inU:∀ {x},(∃ c,(c,x)∈ps)->dm x=n+1->x∈(bx C (n+1)).filter (tkB ps):=fun {x} h e=>by
  obtain ⟨c,hc⟩:=h;exact List.mem_filter.mpr ⟨eP.mpr ⟨(M.up' hc).2.1,e⟩,lq.mpr ⟨c,hc⟩⟩
 have e1:rkG [] (((bx C (n+1)).filter (tkB ps)).map (muL (pw C)))=((bx C (n+1)).filter (tkB ps)).length:=v5 fun pre x post e=>by
  rw [e] at hUn hU;rw [List.nil_append];exact Fp M O (fun y q=>(hU y (List.mem_append_left _ q)).2.2) (hU x (List.mem_append_right _ (.head _))).2.2 fun q=>(List.nodup_append.mp hUn).2.2 x q x (.head _) rfl
 have e2:rkG (((bx C (n+1)).filter (tkB ps)).map (muL (pw C))) (((bx C (n+1)).filter (lfB left)).map (muL (pw C)))=rkG [] (((bx C (n+1)).filter (lfB left)).map (muL L)):=xN fun pre w post e=>by
  have hpre:∀ x∈pre,x∈C/\dm x=n+1/\x∈left:=fun x q=>hW x (by rw [e]; exact List.mem_append_left _ q);have hw:=hW w (by rw [e]; exact List.mem_append_right _ (.head _));rw [← List.map_append,List.nil_append];constructor
  .intro q;obtain ⟨J,h1,h2⟩:=pr.mp q;have hC:∀ x∈w::J,x∈C:=fun x hx=>(List.mem_cons.mp hx).elim (fun e=>e▸hw.1) fun hx=>(List.mem_append.mp (h1 x hx)).elim (fun q=>(hU x q).1) fun q=>(hpre x q).1;have e0:eu (((w::J).flatMap bd).map (pw C))=0:=by rw [← ln,List.map_cons,cA,h2,Nat.xor_self]
   have hz:=(sN (tQ M hC)).mp e0;have e3:eu (((w::J).flatMap bd).map L)=0:=jz (l':=[]) hz L;rw [← ln,List.map_cons,cA] at e3;rw [xG e3];refine Spn.sub (ms:=J.map (muL L)) (fun m hm=>?_) ⟨_,fun _ q=>q,rfl⟩;obtain ⟨c,hc,rfl⟩:=List.mem_map.mp hm;rcases List.mem_append.mp (h1 c hc) with q | q
   .obtain ⟨d,hd⟩:=(hU c q).2.2;rw [H.dom d c hd];exact .zero _
   .exact .mem (List.mem_map_of_mem q)
  .intro q;obtain ⟨J,h1,h2⟩:=pr.mp q;obtain ⟨J2,h3,h4⟩:=GQ M O H hn (J:=w::J) (fun c hc=>(List.mem_cons.mp hc).elim (fun e=>e▸⟨hw.1,hw.2.1⟩) fun q=>⟨(hpre c (h1 c q)).1,(hpre c (h1 c q)).2.1⟩) (by rw [List.map_cons,cA,h2,Nat.xor_self]);rw [List.cons_append,List.map_cons,cA] at h4;rw [xG h4];exact pr.mpr ⟨J++J2,fun c hc=>(List.mem_append.mp hc).elim (fun q=>List.mem_append_right _ (h1 c q)) fun q=>List.mem_append_left _ (inU (h3 c q).1 (h3 c q).2),rfl⟩
 have e3:rkG (((bx C (n+1)).filter (tkB ps)).map (muL (pw C))++((bx C (n+1)).filter (lfB left)).map (muL (pw C))) ((p4 C left ps (n+1)).map (muL (pw C)))=0:=uC fun x hx=>by
  obtain ⟨d,hd,rfl⟩:=List.mem_map.mp hx;rw [← List.map_append];obtain ⟨⟨rk,hrk⟩,_⟩:=nh O.topo
  have:∀ m d,rk d < m->d∈p4 C left ps (n+1)->Spn (((bx C (n+1)).filter (tkB ps)++(bx C (n+1)).filter (lfB left)).map (muL (pw C))) (muL (pw C) d):=fun m=>by
   induction m with
   | zero=>exact fun d h=>absurd h (Nat.not_lt_zero _)
   | succ m ih=>
    intro d hm hd;obtain ⟨hdn,a,ha⟩:=(sP M H).mp hd;obtain ⟨_,haC,hda⟩:=M.up' ha;have ha27:=M.lt27 haC
    have hsum:eu ((bd a).map (muL (pw C)))=0:=by
     rw [ln];exact jz (l':=[]) (GG ha27) _
    rw [jz (rR (yv ha27) hda),List.map_cons,cA] at hsum;rw [xG hsum];refine Spn.sub (ms:=((bd a).filter fun f=>!decide (f=d)).map (muL (pw C))) (fun y hy=>?_) ⟨_,fun _ q=>q,rfl⟩;obtain ⟨f,hf,rfl⟩:=List.mem_map.mp hy;obtain ⟨hf1,hf2⟩:=List.mem_filter.mp hf;rw [Bool.not_eq_true',decide_eq_false_iff_not] at hf2;have hfC:=M.cl a haC f hf1
    have hfd:dm f=n+1:=by
     have h1:=kR ha27 hf1;have h2:=kR ha27 hda;omega
    rcases kinds M H hfC with q | q | q
    .exact .mem (List.mem_map_of_mem (List.mem_append_right _ (List.mem_filter.mpr ⟨eP.mpr ⟨hfC,hfd⟩,decide_eq_true q⟩)))
    .exact ih f (Nat.lt_of_lt_of_le (hrk f ((O.dom d a ha).2 f hf1) d (O.edge d a ha f hf1 hf2)) (Nat.le_of_lt_succ hm)) ((sP M H).mpr ⟨hfd,q⟩)
    .exact .mem (List.mem_map_of_mem (List.mem_append_left _ (inU q hfd)))
  exact this _ d (Nat.lt_succ_self _) hd
 rw [e1,e2,e3];rfl
end
theorem i5:∀ {ps:List Pr},(prd ps).Nodup->(ps.map (·.1)).Nodup/\(ps.map (·.2)).Nodup
 | [],_=>⟨.nil,.nil⟩
 | p::ps,h=>by
  have e:prd (p::ps)=p.1::p.2::prd ps:=rfl;rw [e,List.nodup_cons,List.nodup_cons,List.mem_cons,not_or] at h;obtain ⟨⟨_,h2⟩,h3,h4⟩:=h;obtain ⟨i1,i2⟩:=i5 h4;refine ⟨List.nodup_cons.mpr ⟨fun q=>?_,i1⟩,List.nodup_cons.mpr ⟨fun q=>?_,i2⟩⟩
  .obtain ⟨r,hr,e⟩:=List.mem_map.mp q;exact h2 (gc.mpr ⟨r,hr,.inl e.symm⟩)
  .obtain ⟨r,hr,e⟩:=List.mem_map.mp q;exact h3 (gc.mpr ⟨r,hr,.inr e.symm⟩)
section
variable {C left:List Nat} {ps:List Pr} {sc:Nat->List Nat} {blk:List Nat} {L:Nat->Nat} (M:MH C ps) (O:Ord ps sc blk) (H:LH C left ps L)
include M H
theorem yV (n:Nat):(p4 C left ps n).length=(ps.filter fun p=>decide (dm p.1=n)).length:=by
 have p:(p4 C left ps n).Perm ((ps.filter fun p=>decide (dm p.1=n)).map (·.1)):=(List.perm_ext_iff_of_nodup (((M.nd.filter _).filter _).filter _) ((i5 M.pnd).1.sublist (List.Sublist.map _ List.filter_sublist))).mpr fun x=>by
  show x∈p4 C left ps n↔_;rw [sP M H,List.mem_map];constructor
  .rintro ⟨h1,a,h2⟩
   exact ⟨(x,a),List.mem_filter.mpr ⟨h2,decide_eq_true h1⟩,rfl⟩
  .rintro ⟨⟨c,a⟩,h,rfl⟩
   obtain ⟨h1,h2⟩:=List.mem_filter.mp h;exact ⟨of_decide_eq_true h2,a,h1⟩
 rw [p.length_eq,List.length_map]
omit H in
theorem wD (n:Nat):((bx C n).filter (tkB ps)).length=(ps.filter fun p=>decide (dm p.2=n)).length:=by
 have p:((bx C n).filter (tkB ps)).Perm ((ps.filter fun p=>decide (dm p.2=n)).map (·.2)):=(List.perm_ext_iff_of_nodup ((M.nd.filter _).filter _) ((i5 M.pnd).2.sublist (List.Sublist.map _ List.filter_sublist))).mpr fun x=>by
  show x∈(bx C n).filter (tkB ps)↔_;rw [List.mem_filter,eP,lq,List.mem_map];constructor
  .rintro ⟨⟨_,h1⟩,c,h2⟩
   exact ⟨(c,x),List.mem_filter.mpr ⟨h2,decide_eq_true h1⟩,rfl⟩
  .rintro ⟨⟨c,a⟩,h,rfl⟩
   obtain ⟨h1,h2⟩:=List.mem_filter.mp h;exact ⟨⟨(M.up' h1).2.1,of_decide_eq_true h2⟩,c,h1⟩
 rw [p.length_eq,List.length_map]
omit H in
theorem yf {c a:Nat} (h:(c,a)∈ps):dm a=dm c+1:=(kR (M.lt27 (M.up' h).2.1) (M.up' h).2.2).symm
omit M H in
theorem BQ:((List.range 26).all fun t=>Nat.ble (dm t) 2)=true:=by kernel_rfl
omit M H in
theorem Ea {t:Nat} (h:t < 26):dm t<=2:=Nat.ble_eq.mp (im BQ h)
theorem tC (n:Nat):(bx C n).length=((bx C n).filter (tkB ps)).length+(((bx C n).filter (lfB left)).length+(p4 C left ps n).length):=by
 have:=(u5 H n).length_eq
 rwa [List.length_append,List.length_append] at this
theorem CW (n:Nat):(p4 C left ps n).length=((bx C (n+1)).filter (tkB ps)).length:=by
 rw [yV M H,wD M];exact congrArg List.length (List.filter_congr fun p hp=>decide_eq_decide.mpr (by rw [yf M (c:=p.1) (a:=p.2) hp]; omega))
omit H in
theorem C1:((bx C 0).filter (tkB ps)).length=0:=by
 rw [wD M,List.filter_eq_nil_iff.mpr fun p hp q=>by rw [yf M (c:=p.1) (a:=p.2) hp] at q; exact Nat.succ_ne_zero _ (of_decide_eq_true q)];rfl
theorem Db:(p4 C left ps 2).length=0:=by
 rw [yV M H,List.filter_eq_nil_iff.mpr fun p hp q=>by
  have h1:=yf M (c:=p.1) (a:=p.2) hp;rw [of_decide_eq_true q] at h1;have:=Ea (M.lt _ (M.up' (c:=p.1) (a:=p.2) hp).2.1);omega]
 rfl
include O
theorem ET:hol ((bx C 0).filter (lfB left)).length ((bx C 1).filter (lfB left)).length ((bx C 2).filter (lfB left)).length (rkL L ((bx C 1).filter (lfB left))) (rkL L ((bx C 2).filter (lfB left)))=hol (bx C 0).length (bx C 1).length (bx C 2).length (rkL (pw C) (bx C 1)) (rkL (pw C) (bx C 2)):=by
 have a0:=tC M H 0;have a1:=tC M H 1;have a2:=tC M H 2;have b0:=CW M H 0;have b1:=CW M H 1;have z0:=C1 M;have z2:=Db M H;have r1:=uw M O H (n:=0) (by decide);have r2:=uw M O H (n:=1) (by decide);unfold hol;rw [r1,r2];simp only [Nat.zero_add,Nat.reduceAdd] at *
 congr 1
 .omega
 .congr 1
  .omega
  .congr 1
   omega
end
noncomputable def pY (C tk:List Nat) (c:Nat):List Nat:=(abv c C).filter fun o=>decide (o∈tk)
noncomputable def hZ (C tk:List Nat) (ws:List (List Nat)) (c:Nat):List (List Nat):=ws.flatMap fun w=>((pY C tk c).filter fun o=>!decide (o∈w)).map fun o=>w++[o]
noncomputable def fR (C tk cs:List Nat):List (List Nat):=cs.foldl (hZ C tk) [[]]
section
variable {C tk:List Nat}
theorem nG (cs:List Nat) (c:Nat):fR C tk (cs++[c])=hZ C tk (fR C tk cs) c:=by
 unfold fR;rw [List.foldl_append];rfl
theorem mj (cs:List Nat):cs.Nodup->∀ w,w∈fR C tk cs↔∃ g:Nat->Nat,w=cs.map g/\(cs.map g).Nodup/\∀ c∈cs,g c∈pY C tk c:=
 kL (P:=fun cs=>cs.Nodup->∀ w,w∈fR C tk cs↔∃ g:Nat->Nat,w=cs.map g/\(cs.map g).Nodup/\∀ c∈cs,g c∈pY C tk c) cs (fun _ w=>by
  show w∈[[]]↔_;rw [List.mem_singleton];exact ⟨fun e=>⟨fun _=>0,e,.nil,fun _ h=>(nomatch h)⟩,fun ⟨_,e,_⟩=>e⟩) fun cs c ih hn w=>by
  obtain ⟨hn1,_,hdis⟩:=List.nodup_append.mp hn;have hc:c∉cs:=fun q=>hdis c q c (.head _) rfl;rw [nG];unfold hZ;rw [List.mem_flatMap];constructor
  .rintro ⟨u,hu,hw⟩
   obtain ⟨o,ho,rfl⟩:=List.mem_map.mp hw;obtain ⟨ho1,ho2⟩:=List.mem_filter.mp ho;rw [Bool.not_eq_true',decide_eq_false_iff_not] at ho2;obtain ⟨g,rfl,h2,h3⟩:=(ih hn1 u).mp hu;have hg:cs.map (fun x=>if x=c then o else g x)=cs.map g:=List.map_congr_left fun x hx=>have hz:x≠c:=fun e=>hc (e▸hx); if_neg hz;refine ⟨fun x=>if x=c then o else g x,?_,?_,fun x hx=>?_⟩
   .rw [List.map_append,hg,List.map_cons,if_pos rfl,List.map_nil]
   .rw [List.map_append,hg,List.map_cons,if_pos rfl,List.map_nil];exact gy h2 ho2
   .show (if x=c then o else g x)∈_;rcases List.mem_append.mp hx with q | q
    .have hz:x≠c:=fun e=>hc (e▸q);rw [if_neg hz]; exact h3 x q
    .rw [List.mem_singleton.mp q,if_pos rfl]; exact ho1
  .rintro ⟨g,rfl,h2,h3⟩
   rw [List.map_append] at h2 ⊢;obtain ⟨h4,_,h5⟩:=List.nodup_append.mp h2;refine ⟨cs.map g,(ih hn1 _).mpr ⟨g,rfl,h4,fun x hx=>h3 x (List.mem_append_left _ hx)⟩,List.mem_map.mpr ⟨g c,List.mem_filter.mpr ⟨h3 c (List.mem_append_right _ (.head _)),?_⟩,rfl⟩⟩;rw [Bool.not_eq_true',decide_eq_false_iff_not];exact fun q=>h5 (g c) q (g c) (.head _) rfl
end
section
variable {C:List Nat} {ps:List Pr} (M:MH C ps)
noncomputable def abF (ps:List Pr) (c:Nat):Nat:=(ps.lookup c).getD 0
include M
theorem kt {c a:Nat} (h:(c,a)∈ps):abF ps c=a:=by unfold abF; rw [qF M.pnd h]; rfl
theorem pB:ps.map (·.2)=(ps.map (·.1)).map (abF ps):=by
 rw [List.map_map];exact List.map_congr_left fun p hp=>(kt M (c:=p.1) (a:=p.2) hp).symm
omit M in
theorem fX {c:Nat}:c∈ps.map (·.1)↔∃ a,(c,a)∈ps:=by
 rw [List.mem_map];exact ⟨fun ⟨⟨x,a⟩,h,e⟩=>⟨a,e▸h⟩,fun ⟨a,h⟩=>⟨_,h,rfl⟩⟩
omit M in
theorem D7 {a:Nat}:a∈ps.map (·.2)↔∃ c,(c,a)∈ps:=by
 rw [List.mem_map];exact ⟨fun ⟨⟨c,x⟩,h,e⟩=>⟨c,e▸h⟩,fun ⟨c,h⟩=>⟨_,h,rfl⟩⟩
theorem tD {c o:Nat} (hc:c < 27):o∈pY C (ps.map (·.2)) c↔c∈bd o/\∃ d,(d,o)∈ps:=by
 unfold pY abv;rw [List.mem_filter,List.mem_filter,decide_eq_true_eq,decide_eq_true_eq,D7];constructor
 .rintro ⟨⟨h1,_⟩,h2⟩
  exact ⟨EH hc h1,h2⟩
 .rintro ⟨h1,d,h2⟩
  have:=(M.up' h2).2.1;exact ⟨⟨Gg (M.lt27 this) h1,this⟩,d,h2⟩
theorem Dt:ps.map (·.2)∈fR C (ps.map (·.2)) (ps.map (·.1)):=(mj _ (i5 M.pnd).1 _).mpr ⟨abF ps,pB M,pB M▸(i5 M.pnd).2,fun c hc=>by
 obtain ⟨a,ha⟩:=fX.mp hc;rw [kt M ha];exact (tD M (M.lt27 (M.up' ha).1)).mpr ⟨(M.up' ha).2.2,c,ha⟩⟩
theorem Dm {sc:Nat->List Nat} {blk:List Nat} (O:Ord ps sc blk):∀ w∈fR C (ps.map (·.2)) (ps.map (·.1)),w=ps.map (·.2):=fun w hw=>by
 obtain ⟨g,rfl,hn,hg⟩:=(mj _ (i5 M.pnd).1 _).mp hw
 have hinj:∀ c∈ps.map (·.1),∀ d∈ps.map (·.1),g c=g d->c=d:=by
  have:∀ l:List Nat,(l.map g).Nodup->∀ c∈l,∀ d∈l,g c=g d->c=d:=fun l=>by
   induction l with
   | nil=>exact fun _ _ h=>nomatch h
   | cons a l ih=>
    intro h;rw [List.map_cons,List.nodup_cons] at h;intro c hc d hd e;rcases List.mem_cons.mp hc with rfl | hc
    .rcases List.mem_cons.mp hd with q | hd
     .exact q.symm
     .exact absurd (e▸List.mem_map_of_mem hd) h.1
    .rcases List.mem_cons.mp hd with q | hd
     .rw [q] at e;exact absurd (e▸List.mem_map_of_mem hc) h.1
     .exact ih h.2 c hc d hd e
  exact this _ hn
 have key:∀ {bl:List Nat},nn sc bl->∀ c∈bl,∀ a,(c,a)∈ps->g c=a:=fun {bl} t=>by
  induction t with
  | nil=>exact fun _ h=>nomatch h
  | @snoc bl h t hc ih=>
   intro c hcm a hp;rcases List.mem_append.mp hcm with q | q
   .exact ih c q a hp
   .have e:=List.mem_singleton.mp q;subst e;obtain ⟨h1,d,h2⟩:=(tD M (M.lt27 (M.up' hp).1)).mp (hg c (fX.mpr ⟨a,hp⟩));by_cases z:c=d
    .exact M.fn (z▸h2) hp
    .have:=ih d (hc d (O.edge d (g c) h2 c h1 z)) (g c) h2;exact absurd (hinj c (fX.mpr ⟨a,hp⟩) d (fX.mpr ⟨_,h2⟩) this.symm) z
 rw [pB M];refine List.map_congr_left fun c hc=>?_;obtain ⟨a,ha⟩:=fX.mp hc;rw [key O.topo c (O.dom c a ha).1 a ha,kt M ha]
end
theorem wv (it:Nat->Nat) {N:Nat} (hN:∀ n,it n < N):∃ m n,m < n/\it m=it n/\∀ i j,i < j->j < n->it i≠it j:=by
 have hex:∃ n,∃ m,m < n/\it m=it n:=Classical.byContradiction fun q=>by
  have hne:∀ i j,i < j->it i≠it j:=fun i j h e=>q ⟨j,i,h,e⟩
  have hnd:∀ k,((List.range k).map it).Nodup:=fun k=>by
   induction k with
   | zero=>exact .nil
   | succ k ih=>
    rw [List.range_succ,List.map_append];refine gy ih fun h=>?_;obtain ⟨i,hi,e⟩:=List.mem_map.mp h;exact hne i k (List.mem_range.mp hi) e
  have:=kc N _ (hnd (N+1)) fun k hk=>by
   obtain ⟨i,_,rfl⟩:=List.mem_map.mp hk;exact hN i
  rw [List.length_map,List.length_range] at this;omega
 have:∀ n,(∃ m,m < n/\it m=it n)->∃ m n,m < n/\it m=it n/\∀ i j,i < j->j < n->it i≠it j:=fun n=>by
  induction n using Nat.strongRecOn with
  | _ n ih=>
   rintro ⟨m,hm,e⟩
   by_cases q:∃ j,j < n/\∃ i,i < j/\it i=it j
   .obtain ⟨j,hj,i,hi,e2⟩:=q;exact ih j hj ⟨i,hi,e2⟩
   .exact ⟨m,n,hm,e,fun i j hij hj e2=>q ⟨j,hj,i,hij,e2⟩⟩
 obtain ⟨n,h⟩:=hex;exact this n h
section
variable {C:List Nat} {ps:List Pr} (M:MH C ps) {sc:Nat->List Nat} (hE:∀ f c,c∈sc f->∃ a,(c,a)∈ps/\f∈bd a/\f≠c)
include M hE
open Classical in
theorem Ee {v:Nat} (hw:Way sc v v):∃ w∈fR C (ps.map (·.2)) (ps.map (·.1)),w≠ps.map (·.2):=by
 have hpre:∀ k,Way sc v k/\Way sc k v->∃ p,(Way sc v p/\Way sc p v)/\k∈sc p:=fun k ⟨h1,h2⟩=>by
  cases h1 with
  | one e=>exact ⟨v,⟨hw,hw⟩,e⟩
  | more h e=>exact ⟨_,⟨h,(Way.one e).trans h2⟩,e⟩
 let f:Nat->Nat:=fun k=>if h:Way sc v k/\Way sc k v then Classical.choose (hpre k h) else k
 have hf:∀ k,Way sc v k/\Way sc k v->(Way sc v (f k)/\Way sc (f k) v)/\k∈sc (f k):=fun k h=>by
  have:f k=Classical.choose (hpre k h):=dif_pos h;rw [this];exact Classical.choose_spec (hpre k h)
 let it:Nat->Nat:=fun n=>Nat.rec v (fun _ k=>f k) n
 have it1:∀ n,it (n+1)=f (it n):=fun _=>rfl
 have hS:∀ n,Way sc v (it n)/\Way sc (it n) v:=fun n=>by
  induction n with
  | zero=>exact ⟨hw,hw⟩
  | succ n ih=>rw [it1]; exact (hf _ ih).1
 have hup:∀ n,∃ a,(it n,a)∈ps/\it (n+1)∈bd a/\it (n+1)≠it n:=fun n=>hE _ _ (hf _ (hS n)).2;obtain ⟨m,n,hmn,hback,hdis⟩:=wv it (N:=26) fun n=>by
  obtain ⟨a,ha,_⟩:=hup n;exact M.lt _ (M.up' ha).1
 clear_value it f
 have hinj:∀ i j,i < n->j < n->it i=it j->i=j:=fun i j hi hj e=>by
  rcases Nat.lt_trichotomy i j with q | q | q
  .exact absurd e (hdis i j q hj)
  .exact q
  .exact absurd e.symm (hdis j i q hi)
 have hback1:∀ i j,m<=i->i < n->m<=j->j < n->it (i+1)=it (j+1)->i=j:=fun i j h1 h2 h3 h4 e=>by
  by_cases q:i+1=n
  .by_cases q2:j+1=n
   .exact Nat.succ.inj (q.trans q2.symm)
   .rw [q,← hback] at e;exact absurd (Nat.le_trans (Nat.le_of_eq (hinj m (j+1) hmn (Nat.lt_of_le_of_ne h4 q2) e).symm) h3) (Nat.not_succ_le_self j)
  .by_cases q2:j+1=n
   .rw [q2,← hback] at e;exact absurd (Nat.le_trans (Nat.le_of_eq (hinj (i+1) m (Nat.lt_of_le_of_ne h2 q) hmn e)) h1) (Nat.not_succ_le_self i)
   .exact Nat.succ.inj (hinj (i+1) (j+1) (Nat.lt_of_le_of_ne h2 q) (Nat.lt_of_le_of_ne h4 q2) e)
 let pi:Nat->Nat:=fun c=>if h:∃ i,m<=i/\i < n/\c=it (i+1) then it (Classical.choose h) else c
 have pi1:∀ i,m<=i->i < n->pi (it (i+1))=it i:=fun i h1 h2=>by
  have h:∃ j,m<=j/\j < n/\it (i+1)=it (j+1):=⟨i,h1,h2,rfl⟩
  have e:pi (it (i+1))=it (Classical.choose h):=dif_pos h;obtain ⟨h3,h4,h5⟩:=Classical.choose_spec h;exact e.trans (congrArg it (hback1 i _ h1 h2 h3 h4 h5).symm)
 have pi0:∀ c,(¬ ∃ i,m<=i/\i < n/\c=it (i+1))->pi c=c:=fun c h=>dif_neg h
 have cyc:∀ i,m<=i->i < n->∃ j,m<=j/\j < n/\it i=it (j+1):=fun i h1 h2=>by
  by_cases q:i=m
  .refine ⟨n - 1,Nat.le_sub_one_of_lt hmn,Nat.sub_one_lt_of_lt hmn,?_⟩;rw [q,hback];exact congrArg it (Nat.sub_add_cancel (Nat.one_le_of_lt hmn)).symm
  .have h3:=Nat.lt_of_le_of_ne h1 (Ne.symm q);exact ⟨i - 1,Nat.le_sub_one_of_lt h3,Nat.lt_of_le_of_lt (Nat.sub_le i 1) h2,congrArg it (Nat.sub_add_cancel (Nat.one_le_of_lt h3)).symm⟩
 clear_value pi
 have pinj:∀ c d,pi c=pi d->c=d:=fun c d e=>by
  by_cases q:∃ i,m<=i/\i < n/\c=it (i+1)
  .obtain ⟨i,h1,h2,rfl⟩:=q;rw [pi1 i h1 h2] at e;by_cases q2:∃ i,m<=i/\i < n/\d=it (i+1)
   .obtain ⟨j,h3,h4,rfl⟩:=q2;rw [pi1 j h3 h4] at e;rw [hinj i j h2 h4 e]
   .rw [pi0 d q2] at e;obtain ⟨j,h3,h4,h5⟩:=cyc i h1 h2;exact absurd ⟨j,h3,h4,e▸h5⟩ q2
  .rw [pi0 c q] at e;by_cases q2:∃ i,m<=i/\i < n/\d=it (i+1)
   .obtain ⟨j,h3,h4,rfl⟩:=q2;rw [pi1 j h3 h4] at e;obtain ⟨i,h1,h2,h5⟩:=cyc j h3 h4;exact absurd ⟨i,h1,h2,e▸h5⟩ q
   .rw [pi0 d q2] at e;exact e
 have pup:∀ c a,(c,a)∈ps->∃ b,(pi c,b)∈ps/\c∈bd b:=fun c a h=>by
  by_cases q:∃ i,m<=i/\i < n/\c=it (i+1)
  .obtain ⟨i,h1,h2,rfl⟩:=q;rw [pi1 i h1 h2];obtain ⟨b,hb1,hb2,_⟩:=hup i;exact ⟨b,hb1,hb2⟩
  .rw [pi0 c q];exact ⟨a,h,(M.up' h).2.2⟩
 have gin:∀ c∈ps.map (·.1),∀ d∈ps.map (·.1),abF ps (pi c)=abF ps (pi d)->c=d:=fun c hc d hd e=>by
  obtain ⟨a,ha⟩:=fX.mp hc;obtain ⟨b,hb⟩:=fX.mp hd;obtain ⟨a',ha',_⟩:=pup c a ha;obtain ⟨b',hb',_⟩:=pup d b hb;rw [kt M ha',kt M hb'] at e;exact pinj c d (M.inj ha' (e▸hb'))
 refine ⟨(ps.map (·.1)).map fun c=>abF ps (pi c),(mj _ (i5 M.pnd).1 _).mpr ⟨_,rfl,?_,fun c hc=>?_⟩,fun e=>?_⟩
 .have:∀ l:List Nat,l.Nodup->(∀ c∈l,∀ d∈l,abF ps (pi c)=abF ps (pi d)->c=d)->(l.map fun c=>abF ps (pi c)).Nodup:=fun l=>by
   induction l with
   | nil=>exact fun _ _=>.nil
   | cons a l ih=>
    intro h1 h2;rw [List.nodup_cons] at h1;rw [List.map_cons,List.nodup_cons];refine ⟨fun q=>?_,ih h1.2 fun c hc d hd=>h2 c (.tail _ hc) d (.tail _ hd)⟩;obtain ⟨d,hd,e⟩:=List.mem_map.mp q;exact h1.1 (h2 d (.tail _ hd) a (.head _) e▸hd)
  exact this _ (i5 M.pnd).1 gin
 .obtain ⟨a,ha⟩:=fX.mp hc;obtain ⟨b,hb1,hb2⟩:=pup c a ha;show abF ps (pi c)∈_;rw [kt M hb1];exact (tD M (M.lt27 (M.up' ha).1)).mpr ⟨hb2,_,hb1⟩
 .rw [pB M] at e;obtain ⟨a,ha,_⟩:=hup (m+1);obtain ⟨b,hb,_,hne⟩:=hup m;have:=List.map_inj_left.mp e (it (m+1)) (fX.mpr ⟨a,ha⟩);rw [pi1 m (Nat.le_refl _) hmn,kt M hb,kt M ha] at this;exact hne (M.inj ha (this▸hb))
end
theorem nu:∀ {l m:List Nat},l.Nodup->(∀ x∈l,x∈m)->l.length<=m.length
 | [],_,_,_=>Nat.zero_le _
 | a::l,m,h,hs=>by
  rw [List.nodup_cons] at h;have ha:=hs a (.head _);have:=nu (m:=m.erase a) h.2 fun x hx=>(List.mem_erase_of_ne fun (e:x=a)=>h.1 (e▸hx)).mpr (hs x (.tail _ hx));rw [List.length_erase_of_mem ha] at this;have:=List.length_pos_of_mem ha;rw [List.length_cons];omega
theorem AK:((List.range 26).filter fun t=>decide (dm t=0)).length=8:=by kernel_rfl
theorem B4:((List.range 26).filter fun t=>decide (dm t=1)).length=12:=by kernel_rfl
theorem Bg:((List.range 26).filter fun t=>decide (dm t=2)).length=6:=by kernel_rfl
noncomputable def gB (C:List Nat):List Nat:=bx C 0++bx C 1
noncomputable def psN (C:List Nat) (x:Nat):List Pr:=prs (gB C) C x (List.range (gB C).length)
structure CH (C:List Nat):Prop where
 nd:C.Nodup
 lt:∀ c∈C,c < 26
 cl:∀ c∈C,∀ f∈bd c,f∈C
section
variable {C:List Nat} (K:CH C)
include K
theorem wo (n:Nat):(bx C n).length<=((List.range 26).filter fun t=>decide (dm t=n)).length:=nu (K.nd.filter _) fun x hx=>by
 obtain ⟨h1,h2⟩:=eP.mp hx;exact List.mem_filter.mpr ⟨List.mem_range.mpr (K.lt x h1),decide_eq_true h2⟩
theorem GC:(bx C 0).length<=8:=by have:=wo K 0; rwa [AK] at this
theorem Ha:(bx C 1).length<=12:=by have:=wo K 1; rwa [B4] at this
theorem GY:(bx C 2).length<=6:=by have:=wo K 2; rwa [Bg] at this
theorem BY:C.length<=26:=kc 26 C K.nd K.lt
theorem pq:(gB C).length<=20:=by
 unfold gB;rw [List.length_append];have:=GC K;have:=Ha K;omega
omit K in
theorem mc {c:Nat}:c∈gB C↔c∈C/\dm c<=1:=by
 unfold gB;rw [List.mem_append,eP,eP];constructor
 .rintro (h | h)
  .exact ⟨h.1,by omega⟩
  .exact ⟨h.1,by omega⟩
 .rintro ⟨h1,h2⟩
  by_cases e:dm c=0
  .exact .inl ⟨h1,e⟩
  .exact .inr ⟨h1,by omega⟩
theorem yD:∀ c∈gB C,c < 27:=fun c h=>Nat.lt_succ_of_lt (K.lt c (mc.mp h).1)
theorem wJ (x:Nat) (ys:List Nat):(prd (prs (gB C) C x ys)).Nodup/\∀ p∈prs (gB C) C x ys,p.1∈gB C/\p.2∈C/\p.1∈bd p.2:=
 kL (P:=fun ys=>(prd (prs (gB C) C x ys)).Nodup/\∀ p∈prs (gB C) C x ys,p.1∈gB C/\p.2∈C/\p.1∈bd p.2) ys ⟨.nil,fun _ h=>(nomatch h)⟩ fun ys t ih=>by
  rw [qx];generalize prs (gB C) C x ys=ps at ih;unfold iw;cases h1:(gB C)[t]? with
  | none=>exact ih
  | some c=>
   dsimp only;cases h2:(abv c C)[jy x t]? with
   | none=>exact ih
   | some a=>
    dsimp only;by_cases q:c∈prd ps\/a∈prd ps
    .rw [if_pos q]; exact ih
    .rw [if_neg q];rw [not_or] at q;have hc:=List.mem_of_getElem? h1;have ha:=List.mem_filter.mp (List.mem_of_getElem? h2);have haC:=of_decide_eq_true ha.2;have hb:=EH (yD K c hc) ha.1
     have hne:c≠a:=fun e=>by
      have:=kR (Nat.lt_succ_of_lt (K.lt a haC)) hb;rw [e] at this;omega
     refine ⟨?_,fun p hp=>?_⟩
     .rw [va];refine List.nodup_append.mpr ⟨ih.1,List.nodup_cons.mpr ⟨fun z=>hne (List.mem_singleton.mp z),List.nodup_cons.mpr ⟨List.not_mem_nil,.nil⟩⟩,fun u hu v hv e=>?_⟩;rw [e] at hu;rcases List.mem_cons.mp hv with z | z
      .exact q.1 (z▸hu)
      .exact q.2 (List.mem_singleton.mp z▸hu)
     .rcases List.mem_append.mp hp with z | z
      .exact ih.2 p z
      .rw [List.mem_singleton.mp z];exact ⟨hc,haC,hb⟩
theorem iW (x:Nat):MH C (psN C x):=⟨K.nd,K.lt,K.cl,fun p hp=>let h:=(wJ K x _).2 p hp; ⟨(mc.mp h.1).1,h.2⟩,(wJ K x _).1⟩
theorem xI {x:Nat}:∀ p∈psN C x,p.1∈gB C:=fun p hp=>((wJ K x _).2 p hp).1
noncomputable def j6 (C:List Nat) (x:Nat):List Nat:=C.filter fun c=>!decide (c∈prd (psN C x))
omit K in
theorem tA {x c:Nat}:c∈j6 C x↔c∈C/\c∉prd (psN C x):=by unfold j6; rw [List.mem_filter,Bool.not_eq_true',decide_eq_false_iff_not]
theorem th (x:Nat):LdH (psN C x) (gB C) (j6 C x):=⟨fun p hp=>K.lt _ ((iW K x).up p hp).2.1,yD K,pq K,xI K,Nat.le_trans (List.length_filter_le _ _) (Nat.le_trans (BY K) (by decide))⟩
noncomputable def grN (C:List Nat) (x:Nat):T3:=tG (prv (psN C x)) (gB C)
theorem yQ {x c f:Nat}:f∈prv (psN C x) c↔∃ a,(c,a)∈psN C x/\f∈bd a/\f≠c:=by
 unfold prv;constructor
 .intro h;cases e:(psN C x).lookup c with
  | none=>rw [e] at h; cases h
  | some a=>
   rw [e] at h;obtain ⟨h1,h2⟩:=List.mem_filter.mp h;rw [Bool.not_eq_true',decide_eq_false_iff_not] at h2;exact ⟨a,gL e,h1,h2⟩
 .rintro ⟨a,h1,h2,h3⟩
  rw [qF (iW K x).pnd h1];exact List.mem_filter.mpr ⟨h2,by rw [decide_eq_false h3]; rfl⟩
theorem xR {x c a:Nat} (h:(c,a)∈psN C x):∀ f∈bd a,f∈gB C:=fun f hf=>by
 have h27:=(iW K x).lt27 ((iW K x).up' h).2.1;have h26:=Ea (K.lt a ((iW K x).up' h).2.1);have:=kR h27 hf;exact mc.mpr ⟨K.cl a ((iW K x).up' h).2.1 f hf,by omega⟩
theorem pj {x k:Nat}:k∈(grN C x).keys↔k∈gB C:=by
 unfold grN;rw [yz];constructor
 .rintro ⟨c,hc,rfl | h⟩
  .exact hc
  .obtain ⟨a,h1,h2,_⟩:=(yQ K).mp h;exact xR K h1 k h2
 .exact fun h=>⟨k,h,.inl rfl⟩
theorem y2 {x p c:Nat}:c∈(grN C x).sc p↔∃ a,(c,a)∈psN C x/\p∈bd a/\p≠c:=by
 unfold grN;rw [y0,yQ K];exact ⟨fun h=>h.2,fun ⟨a,h1,h2⟩=>⟨xI K _ h1,a,h1,h2⟩⟩
theorem BP {x:Nat} {blk:List Nat} (t:nn (grN C x).sc blk) (hn:blk.Nodup) (hk:∀ h,h∈blk↔h∈(grN C x).keys):Ord (psN C x) (grN C x).sc blk:=
 ⟨t,hn,fun _ a h _ hf hne=>(y2 K).mpr ⟨a,h,hf,hne⟩,fun c _ h=>⟨(hk c).mpr ((pj K).mpr (xI K _ h)),fun f hf=>(hk f).mpr ((pj K).mpr (xR K h f hf))⟩⟩
theorem Gz {x:Nat} {kvs:List (KK×D)} {L:Nat->Nat} (I:LdK (psN C x) (j6 C x) (fun k=>k∈(grN C x).keys) kvs L):LH C (j6 C x) (psN C x) L:=by
 have M:=iW K x;have hkey:∀ {k},k∈C->dm k<=1->k∈(grN C x).keys:=fun h1 h2=>(pj K).mpr (mc.mpr ⟨h1,h2⟩)
 have hno:∀ {k},(∀ a,(k,a)∉psN C x)->((psN C x).lookup k).isSome=false:=fun {k} h=>by
  cases e:(psN C x).lookup k with
  | none=>rfl
  | some a=>exact absurd (gL e) (h a)
 refine ⟨fun y=>tA,fun y hy hd=>?_,fun c a h hd=>?_,fun c a h=>?_⟩
 .obtain ⟨h1,h2⟩:=tA.mp hy;rw [I.eq y (hkey h1 hd)];unfold Lr;rw [hno fun a q=>h2 (gc.mpr ⟨_,q,.inl rfl⟩),if_neg Bool.false_ne_true,if_pos hy]
 .rw [I.eq a (hkey (M.up' h).2.1 hd)];unfold Lr;rw [hno fun b q=>(M.apart q h).elim,if_neg Bool.false_ne_true,if_neg fun q=>(tA.mp q).2 (gc.mpr ⟨_,h,.inr rfl⟩)]
 .unfold muL;have h27:=M.lt27 (M.up' h).2.1;rw [jz (rR (yv h27) (M.up' h).2.2),List.map_cons,cA];have e:((bd a).filter fun f=>!decide (f=c))=prv (psN C x) c:=by unfold prv; rw [qF M.pnd h]
  have hc:=I.eq c (hkey (M.up' h).1 (by have:=kR h27 (M.up' h).2.2; have:=Ea (M.lt a (M.up' h).2.1); omega));unfold Lr at hc;rw [qF M.pnd h,Option.isSome_some,if_pos rfl] at hc;rw [e,← hc,Nat.xor_self]
end
theorem DY:((List.range 26).all fun t=>Nat.ble (wd t).length (if dm t=0 then 3 else if dm t=1 then 2 else 1))=true:=by kernel_rfl
noncomputable def C7 (t:Nat):Nat:=if dm t=0 then 3 else if dm t=1 then 2 else 1
theorem C4 {C tk:List Nat} {c:Nat} (h:c < 26):(pY C tk c).length<=C7 c:=Nat.le_trans (Nat.le_trans (List.length_filter_le _ _) (List.length_filter_le _ _)) (Nat.ble_eq.mp (im DY h))
theorem uz {α β:Type} {k:Nat} (l:List α) (f:α->List β) (h:∀ a∈l,(f a).length<=k):(l.flatMap f).length<=l.length * k:=by
 induction l with
 | nil=>exact Nat.zero_le _
 | cons a l ih=>
  rw [List.flatMap_cons,List.length_append,List.length_cons,Nat.succ_mul];have:=h a (.head _);have:=ih fun b q=>h b (.tail _ q);omega
noncomputable def wbd (cs:List Nat):Nat:=3 ^ (cs.filter fun c=>decide (dm c=0)).length * 2 ^ (cs.filter fun c=>decide (dm c=1)).length
theorem EM {p:Nat->Bool} {c:Nat} (h:p c=true):[c].filter p=[c]:=List.filter_cons_of_pos h
theorem AB {p:Nat->Bool} {c:Nat} (h:p c=false):[c].filter p=[]:=List.filter_cons_of_neg (by rw [h]; exact Bool.false_ne_true)
theorem Bo (cs:List Nat) (c:Nat):wbd cs * C7 c=wbd (cs++[c]):=by
 unfold wbd C7;rw [List.filter_append,List.filter_append,List.length_append,List.length_append];by_cases h0:dm c=0
 .have h1:¬ dm c=1:=by omega
  rw [EM (p:=fun c=>decide (dm c=0)) (decide_eq_true h0),AB (p:=fun c=>decide (dm c=1)) (decide_eq_false h1),if_pos h0,List.length_singleton,Nat.pow_succ,Nat.mul_right_comm];rfl
 .rw [AB (p:=fun c=>decide (dm c=0)) (decide_eq_false h0),if_neg h0];by_cases h1:dm c=1
  .rw [EM (p:=fun c=>decide (dm c=1)) (decide_eq_true h1),if_pos h1,List.length_singleton,Nat.pow_succ,Nat.mul_assoc];rfl
  .rw [AB (p:=fun c=>decide (dm c=1)) (decide_eq_false h1),if_neg h1,Nat.mul_one];rfl
theorem Dn {C tk:List Nat} (cs:List Nat):(∀ c∈cs,c < 26)->(fR C tk cs).length<=wbd cs:=
 kL (P:=fun cs=>(∀ c∈cs,c < 26)->(fR C tk cs).length<=wbd cs) cs (fun _=>Nat.le_refl 1) fun cs c ih h=>by
  have i1:=ih fun c q=>h c (List.mem_append_left _ q);rw [nG];unfold hZ;refine Nat.le_trans (uz _ _ (k:=C7 c) fun w _=>?_) (Nat.le_trans (Nat.mul_le_mul_right _ i1) (Nat.le_of_eq (Bo cs c)));rw [List.length_map];exact Nat.le_trans (List.length_filter_le _ _) (C4 (h c (List.mem_append_right _ (.head _))))
theorem Fu {cs:List Nat} {a b:Nat} (h0:(cs.filter fun c=>decide (dm c=0)).length<=a) (h1:(cs.filter fun c=>decide (dm c=1)).length<=b):wbd cs<=3 ^ a * 2 ^ b:=Nat.mul_le_mul (Nat.pow_le_pow_right (by decide) h0) (Nat.pow_le_pow_right (by decide) h1)
theorem uv {C:List Nat} (K:CH C) {x:Nat} {ys zs:List Nat} (e:(psN C x).map (·.1)=ys++zs):(fR C ((psN C x).map (·.2)) ys).length<=419904:=by
 have M:=iW K x
 have hin:∀ c∈(psN C x).map (·.1),c∈C:=fun c hc=>by
  obtain ⟨a,ha⟩:=fX.mp hc;exact (M.up' ha).1
 refine Nat.le_trans (Dn ys fun c hc=>K.lt c (hin c (by rw [e]; exact List.mem_append_left _ hc))) ?_;have hle:∀ p:Nat->Bool,(ys.filter p).length<=(((psN C x).map (·.1)).filter p).length:=fun p=>by rw [e,List.filter_append,List.length_append]; exact Nat.le_add_right ..
 refine Nat.le_trans (Fu (a:=8) (b:=6) (Nat.le_trans (hle _) ?_) (Nat.le_trans (hle _) ?_)) (by decide)
 .refine Nat.le_trans (nu ((i5 M.pnd).1.filter _) fun c hc=>?_) (GC K);obtain ⟨h1,h2⟩:=List.mem_filter.mp hc;exact eP.mpr ⟨hin c h1,of_decide_eq_true h2⟩
 .rw [List.filter_map,List.length_map]
  have e2:((psN C x).filter ((fun c=>decide (dm c=1)) ∘ (·.1)))=(psN C x).filter fun p=>decide (dm p.2=2):=List.filter_congr fun p hp=>by
   have:=yf M (c:=p.1) (a:=p.2) hp;show decide (dm p.1=1)=decide (dm p.2=2);exact decide_eq_decide.mpr (by omega)
  rw [e2,← wD M];exact Nat.le_trans (List.length_filter_le _ _) (GY K)
theorem tq:((List.range 27).all fun d=>(List.range 26).all fun c=>!i9 d c||(bd c).all fun f=>i9 d f&&Nat.blt f 26)=true:=by kernel_rfl
noncomputable def qc (dr:List Nat):List Nat:=dr.flatMap fun d=>(List.range 26).filter (i9 d)
noncomputable def o6 (dr:List Nat):List Nat:=dd (qc dr)
theorem pu {dr:List Nat} {c:Nat}:c∈o6 dr↔c < 26/\∃ d∈dr,i9 d c=true:=by
 unfold o6 qc;rw [nD,List.mem_flatMap];constructor
 .rintro ⟨d,h1,h2⟩
  obtain ⟨h3,h4⟩:=List.mem_filter.mp h2;exact ⟨List.mem_range.mp h3,d,h1,h4⟩
 .rintro ⟨h3,d,h1,h4⟩
  exact ⟨d,h1,List.mem_filter.mpr ⟨List.mem_range.mpr h3,h4⟩⟩
theorem FS {dr:List Nat} (h:∀ d∈dr,d < 27):CH (o6 dr):=⟨q6 _,fun c q=>(pu.mp q).1,fun c q f hf=>by
 obtain ⟨h1,d,h2,h3⟩:=pu.mp q;have:=im (im tq (h d h2)) h1;rw [h3,Bool.not_true,Bool.false_or] at this;have:=Bool.and_eq_true_iff.mp (List.all_eq_true.mp this f hf);exact pu.mpr ⟨Nat.blt_eq.mp this.2,d,h2,this.1⟩⟩
noncomputable def AZ (d t:Nat):List Nat:=(List.range 3).filter fun k=>!(dg d k==2||dg d k==dg t k)
theorem DI {d t:Nat}:AZ d t=[]↔i9 d t=true:=by
 unfold AZ i9;rw [List.filter_eq_nil_iff,List.all_eq_true];exact forall_congr' fun k=>forall_congr' fun _=>by rw [Bool.not_eq_true',Bool.not_eq_false]
noncomputable def Ff (dr:List Nat) (t:Nat):List Nat:=dr.filter fun d=>(AZ d t).isEmpty
noncomputable def xp (dr:List Nat):List Nat:=(List.range 26).filter fun t=>!(Ff dr t).isEmpty
theorem Bl (dr:List Nat):lC (o6 dr) (xp dr)=true:=by
 refine jh.mpr fun c=>?_;unfold xp;rw [pu,List.mem_filter,List.mem_range,Bool.not_eq_true',List.isEmpty_eq_false_iff_exists_mem];refine and_congr_right fun _=>exists_congr fun d=>?_;unfold Ff;rw [List.mem_filter,List.isEmpty_iff,DI]
theorem yF {f g:AM D} {y:Int} {m:Nat} {st st1 st2:ASt} (hf:f st=some (.ok (.py (.int y)),st1)) (hg:g st1=some (.ok (.py (.int (m:Int))),st2)) (hm:0 < m):bO .Mod f g st=some (.ok (.py (.int (((y % (m:Int)).toNat:Nat):Int))),st2):=
 jI hf hg (by
  have hne:(m:Int)≠0:=by omega
  have h:rI .Mod y (m:Int)=some ((((y % (m:Int)).toNat:Nat)):Int):=by
   show (if (m:Int)=0 then none else some (y.fmod m))=_;rw [if_neg hne,Int.fmod_eq_emod_of_nonneg _ (Int.natCast_nonneg m),Int.toNat_of_nonneg (Int.emod_nonneg y hne)]
  show (orO ((rI .Mod y (m:Int)).map PyData.int) _).map _=_;rw [h];rfl)
theorem r4 (y:Int) {m:Nat} (hm:0 < m):(y % (m:Int)).toNat < m:=by
 have h1:=Int.emod_nonneg y (b:=(m:Int)) (by omega);have h2:=Int.emod_lt_of_pos y (b:=(m:Int)) (by omega);omega
noncomputable def Gv:List Int:=[24,2,19,11,115]
noncomputable def qz (ns:List Int):List Int:=ns.take 5++Gv.drop (ns.take 5).length
theorem vt (ns:List Int):(qz ns).length=5:=by
 have h:(ns.take 5).length<=5:=List.length_take_le 5 ns;unfold qz;rw [List.length_append,List.length_drop];show _+(5 - _)=5;omega
theorem C3 {ns:List Int} (hl:ns.length<=63) {ρ:aq} {σ:List O} (h:ρ.lookup "script" =some (.py (.list (ns.map .int)))):
  (bO .Add (cJ (ad "script") (pure (.py .none)) (pure (.py (.int 5)))) (cJ (dl (ao (pure (.py (.int 24))) (ao (pure (.py (.int 2))) (ao (pure (.py (.int 19))) (ao (pure (.py (.int 11))) (ao (pure (.py (.int 115))) (pure []))))))) ((ao (cJ (ad "script") (pure (.py .none)) (pure (.py (.int 5)))) (pure []))>>=gQ) (pure (.py .none)))) ⟨ρ,σ⟩=some (.ok (.py (.list ((qz ns).map .int))),⟨ρ,σ⟩):=by
 have h5:(ns.take 5).length<=5:=List.length_take_le 5 ns;have e1:=jE (ah (σ:=σ) h) (ga:=pure (.py .none)) (gb:=pure (.py (.int 5))) rfl rfl (lo:=none) (hi:=some ((5:Nat):Int)) rfl rfl (by rw [List.length_map]; exact Nat.le_trans hl (by decide));rw [y1,← List.map_take] at e1;have e2:=mq e1 (by rw [List.length_map]; exact Nat.le_trans h5 (by decide));rw [List.length_map] at e2;have e3:=jE (ll (g:=(ao (pure (.py (.int 24))) (ao (pure (.py (.int 2))) (ao (pure (.py (.int 19))) (ao (pure (.py (.int 11))) (ao (pure (.py (.int 115))) (pure []))))))) (st:=⟨ρ,σ⟩) (ps:=Gv.map .int) rfl (by decide:5<=ar)) e2 (gb:=pure (.py .none)) rfl (lo:=some (((ns.take 5).length:Nat):Int)) (hi:=none) rfl rfl (by decide:5<=ar);rw [nc,← List.map_drop] at e3;have e4:=kz e1 e3 (by rw [List.length_map,List.length_map,List.length_drop]; exact Nat.le_trans (Nat.add_le_add h5 (Nat.sub_le _ _)) (by decide));rw [← List.map_append] at e4;exact e4
noncomputable def drN (ns:List Int):List Nat:=((qz ns).take 4).map fun y=>(y % ((27:Nat):Int)).toNat
theorem GS {ns:List Int}:∀ d∈drN ns,d < 27:=fun d h=>by
 obtain ⟨y,_,rfl⟩:=List.mem_map.mp h;exact r4 y (by decide)
theorem Fo (ns:List Int):(drN ns).length<=4:=by unfold drN; rw [List.length_map]; exact List.length_take_le 4 _
section
variable {ns:List Int} {ρ:aq} {σ:List O}
theorem Ck (h:ρ.lookup "numbers" =some (.py (.list ((qz ns).map .int)))):
  bf false [] ⟨((cJ (ad "numbers") (pure (.py .none)) (pure (.py (.int 4))))>>=aM),(aQ "x"),[]⟩ [] ((ao (bO .Mod (ad "x") (pure (.py (.int 27)))) (pure []))>>=bV fc) ⟨ρ,σ⟩=some (.ok (.py (.list ((drN ns).map nE))),⟨ρ,σ⟩):=by
 have e1:=jE (ah (σ:=σ) h) (ga:=pure (.py .none)) (gb:=pure (.py (.int 4))) rfl rfl (lo:=none) (hi:=some ((4:Nat):Int)) rfl rfl (by rw [List.length_map,vt]; decide);rw [y1,← List.map_take] at e1
 have hc:=fh (fs:=[]) (v:= "x") (el:=((ao (bO .Mod (ad "x") (pure (.py (.int 27)))) (pure []))>>=bV fc)) ((qz ns).take 4) PyData.int (fun y=>nE (y % ((27:Nat):Int)).toNat) (mC e1) (fun h=>nomatch h) (Nat.le_trans (List.length_take_le 4 _) (by decide)) fun y hy ρ' hA hv=>
  jj (yF (m:=27) (g:=pure (.py (.int 27))) (ah hv) rfl (by decide)) (yC (r4 y (by decide)))
 rw [hc];unfold drN;rw [List.map_map];rfl
theorem xd (st:ASt):(okA (ao (pure (.py (.int 26))) (pure []))>>=dw) st=some (.ok ((List.range 26).map fun (i:Nat)=>.py (.int (i:Int)),fun _=>pure ()),st):=rfl
theorem Ce:bf false [] ⟨(okA (ao (pure (.py (.int 26))) (pure []))>>=dw),(aQ "x"),[]⟩ [] ((ao (ad "x") (pure []))>>=bV fc) ⟨ρ,σ⟩=some (.ok (.py (.list ((List.range 26).map nE))),⟨ρ,σ⟩):=
 fh (fs:=[]) (v:= "x") (List.range 26) (fun (i:Nat)=>.int (i:Int)) nE (xd _) (fun h=>nomatch h) (by decide) fun t ht ρ' hA hv=>jj (ah hv) (yC (Nat.lt_succ_of_lt (List.mem_range.mp ht)))
variable {dr:List Nat} (h27:∀ d∈dr,d < 27) (h4:dr.length<=4)
include h27 h4
theorem C8 (h:ρ.lookup "drawn" =some (.py (.list (dr.map nE)))):
  bf false [] ⟨((ad "drawn")>>=aM),(aQ "one"),[]⟩ [] ((ao ((ao (ad "one") (pure []))>>=bV i0) (pure []))>>=bV gN) ⟨ρ,σ⟩=some (.ok (.py (.list (dr.map o0))),⟨ρ,σ⟩):=
 fh (fs:=[]) (v:= "one") dr nE o0 (di (e:=nE) h) (fun h=>nomatch h) (Nat.le_trans h4 (by decide)) fun d hd ρ' hA hv=>jj (q:=.str (BD d)) (jj (q:=nE d) (ah hv) (sM (h27 d hd))) (z6 (h27 d hd))
theorem vj:(qc dr).length<=ar:=Nat.le_trans (uz dr _ (k:=26) fun d _=>List.length_filter_le _ (List.range 26)) (Nat.le_trans (Nat.mul_le_mul_right 26 h4) (by decide))
theorem Be (h:ρ.lookup "told" =some (.py (.list (dr.map o0)))) (h2:ρ.lookup "texts" =some (.py (.list ((List.range 26).map nE)))):
  ((ao (bf false ["texts"] ⟨((ad "told")>>=aM),(aQ "pieces"),[]⟩ [⟨((ad "texts")>>=aM),(aQ "text"),[(iz ((ao (ad "pieces") (ao (ad "text") (pure [])))>>=bV f8))]⟩] (ad "text")) (pure []))>>=bV cb) ⟨ρ,σ⟩=some (.ok (.py (.list ((o6 dr).map nE))),⟨ρ,σ⟩):=by
 have eM:(dr.flatMap fun d=>((List.range 26).filter (i9 d)).map nE)=(qc dr).map nE:=by
  unfold qc;rw [List.map_flatMap]
 have hc:=sE (fs:=["texts"]) (st:=⟨ρ,σ⟩) (σ:=σ) (v:= "pieces") (w:= "text") (ts:=[(iz ((ao (ad "pieces") (ao (ad "text") (pure [])))>>=bV f8))]) (el:=ad "text") dr o0 (fun _=>List.range 26) nE i9 (fun _ t=>nE t) (di (e:=o0) h) (by decide) (by decide) (by decide) (by
   have:=vj h27 h4;have e:=congrArg List.length eM;rw [List.length_map] at e;exact e▸this)
  (fun d hd ρ' hA hv=>di (e:=nE) (hA.get h2 (by decide))) fun d hd t ht ρ' hA hv hw=>⟨g5 (qT (uq (q:=o0 d) (r:=nE t) (ah hv) (ah hw) (Bb (h27 d hd) (Nat.lt_succ_of_lt (List.mem_range.mp ht))))),fun _=>ah hw⟩
 rw [eM] at hc;exact jj (q:=.list ((qc dr).map nE)) hc (uj eCl (by decide) (qc dr) (vj h27 h4))
end
theorem FI (σ:List O) {a b:Nat} (ha:a < 3) (hb:b < 3):inA σ (.py (.str (chS a))) (.py (.tuple [.str (Str.o "?"),.str (chS b)]))=some (a==2||a==b):=match a,b,ha,hb with
 | 0,0,_,_=>by kernel_rfl
 | 0,1,_,_=>by kernel_rfl
 | 0,2,_,_=>by kernel_rfl
 | 1,0,_,_=>by kernel_rfl
 | 1,1,_,_=>by kernel_rfl
 | 1,2,_,_=>by kernel_rfl
 | 2,0,_,_=>by kernel_rfl
 | 2,1,_,_=>by kernel_rfl
 | 2,2,_,_=>by kernel_rfl
section
variable {ρ:aq} {σ:List O} {dr:List Nat} (h27:∀ d∈dr,d < 27) (h4:dr.length<=4)
theorem Fd {fs:List String} {d t:Nat} (hd:d < 27) (ht:t < 27) (h1:ρ.lookup "one" =some (.py (nE d))) (h2:ρ.lookup "text" =some (.py (nE t))):
  bf false ["one", "text"] ⟨(okA (ao (pure (.py (.int 3))) (pure []))>>=dw),(aQ "k"),[(aJ .NotIn (bu (ad "one") (ad "k")) (j9 (ao (pure (.py (.str (Str.o "?")))) (ao (bu (ad "text") (ad "k")) (pure [])))))]⟩ [] (ad "k") ⟨ρ,σ⟩=some (.ok (.py (kn.e (AZ d t))),⟨ρ,σ⟩):=
 d9 (fs:=["one", "text"]) (v:= "k") (List.range 3) (fun (i:Nat)=>.int (i:Int)) (fun k=>!(dg d k==2||dg d k==dg t k)) (fun (i:Nat)=>.int (i:Int)) (nx _) (by decide) (by decide) fun k hk ρ' hA hv=>by
  have hk:=List.mem_range.mp hk;have e1:=sX (st2:=⟨ρ',σ⟩) hd (ah (hA.get h1 (by decide))) (ah hv) hk
  have e2:j9 (ao (pure (.py (.str (Str.o "?")))) (ao (bu (ad "text") (ad "k")) (pure []))) ⟨ρ',σ⟩=some (.ok (.py (.tuple [.str (Str.o "?"),.str (chS (dg t k))])),⟨ρ',σ⟩):=
   bnd (lG (f:=pure (.py (.str (Str.o "?")))) rfl (sX (st2:=⟨ρ',σ⟩) ht (ah (hA.get h2 (by decide))) (ah hv) hk)) (if_pos (show 2<=ar by decide))
  exact ⟨g5 (gW e1 e2 (congrArg (Option.map (!·)) (FI σ (yq d k) (yq t k)))),fun _=>ah hv⟩
include h27 h4
theorem Fl (h:ρ.lookup "drawn" =some (.py (.list (dr.map nE)))) (h2:ρ.lookup "texts" =some (.py (.list ((List.range 26).map nE)))):
  (bf false ["drawn"] ⟨((ad "texts")>>=aM),(aQ "text"),[(aJ .NotEq (bf false ["text"] ⟨((ad "drawn")>>=aM),(aQ "one"),[(aJ .Eq (bf false ["one", "text"] ⟨(okA (ao (pure (.py (.int 3))) (pure []))>>=dw),(aQ "k"),[(aJ .NotIn (bu (ad "one") (ad "k")) (j9 (ao (pure (.py (.str (Str.o "?")))) (ao (bu (ad "text") (ad "k")) (pure [])))))]⟩ [] (ad "k")) (dl (pure [])))]⟩ [] (ad "one")) (dl (pure [])))]⟩ [] (ad "text")) ⟨ρ,σ⟩=some (.ok (.py (.list ((xp dr).map nE))),⟨ρ,σ⟩):=
 d9 (fs:=["drawn"]) (v:= "text") (List.range 26) nE (fun t=>!(Ff dr t).isEmpty) nE (di (e:=nE) h2) (by decide) (by decide) fun t ht ρ' hA hv=>by
  have ht:=Nat.lt_succ_of_lt (List.mem_range.mp ht)
  have hc:=d9 (fs:=["text"]) (st:=⟨ρ',σ⟩) (σ:=σ) (v:= "one") (ts:=[(aJ .Eq (bf false ["one", "text"] ⟨(okA (ao (pure (.py (.int 3))) (pure []))>>=dw),(aQ "k"),[(aJ .NotIn (bu (ad "one") (ad "k")) (j9 (ao (pure (.py (.str (Str.o "?")))) (ao (bu (ad "text") (ad "k")) (pure [])))))]⟩ [] (ad "k")) (dl (pure [])))]) (el:=ad "one") dr nE (fun d=>(AZ d t).isEmpty) nE (di (e:=nE) (hA.get h (by decide))) (by decide) (Nat.le_trans h4 (by decide)) fun d hd ρ2 hA2 hv2=>by
   have e:=BV (Fd (fs:=[]) (σ:=σ) (h27 d hd) ht hv2 (hA2.get hv (by decide))) (g:=dl (pure [])) (qt _) (kn.ok (by decide) _) rfl (yy _);rw [ny] at e;exact ⟨g5 e,fun _=>ah hv2⟩
  have e:=yt hc (g:=dl (pure [])) (qt _) (eCl.okL (by decide) _) rfl (yy _);rw [ny] at e;exact ⟨g5 e,fun _=>ah hv⟩
end
theorem zz:((List.range 27).all fun t=>decide ((pD (.py (nE t)) (.py (.str (Str.o "?")))).bind D.int?=some ((dm t:Nat):Int)))=true:=by kernel_rfl
theorem CJ {t:Nat} (h:t < 27):pD (.py (nE t)) (.py (.str (Str.o "?")))=some (.py (.int (dm t:Nat))):=by
 obtain ⟨d,e1,e2⟩:=Option.bind_eq_some_iff.mp (of_decide_eq_true (im zz h));rw [e1];cases d with
 | py p=>cases p with
  | int _=>cases e2; rfl
  | _=>cases e2
 | _=>cases e2
theorem Es {C:List Nat} {ρ:aq} {σ:List O} (hC:∀ c∈C,c < 27) (hl:C.length<=60) (h:ρ.lookup "cells" =some (.py (.list (C.map nE)))):
  bf false ["cells"] ⟨(okA (ao (pure (.py (.int 3))) (pure []))>>=dw),(aQ "n"),[]⟩ [] (bf false ["n"] ⟨((ad "cells")>>=aM),(aQ "cell"),[(aJ .Eq (bN "str" (ad "cell") (ao (pure (.py (.str (Str.o "?")))) (pure [])) ue) (ad "n"))]⟩ [] (ad "cell")) ⟨ρ,σ⟩=some (.ok (.py (.list ([bx C 0,bx C 1,bx C 2].map fun r=>.list (r.map nE)))),⟨ρ,σ⟩):=
 fh (fs:=["cells"]) (v:= "n") (List.range 3) (fun (i:Nat)=>.int (i:Int)) (fun n=>.list ((bx C n).map nE)) (nx _) (by decide) (by decide) fun n hn ρ' hA hv=>
  d9 (fs:=["n"]) (st:=⟨ρ',σ⟩) (σ:=σ) (v:= "cell") (el:=ad "cell") C nE (fun c=>decide (dm c=n)) nE (di (e:=nE) (hA.get h (by decide))) (by decide) (Nat.le_trans hl (by decide)) fun c hc ρ2 hA2 hv2=>by
   have e:=xt (dR (T:= "str") (k:=ue) (ah (σ:=σ) hv2) rfl (dL (f:=pure (.py (.str (Str.o "?")))) rfl) (cM (f:=fun _=>pD (.py (nE c)) (.py (.str (Str.o "?")))) (CJ (hC c hc)))) (ah (hA2.get hv (by decide)));rw [EV] at e;exact ⟨g5 e,fun _=>ah hv2⟩
theorem Cs {C:List Nat} {ρ:aq} {σ:List O} (hl:C.length<=60) (h:ρ.lookup "rows" =some (.py (.list ([bx C 0,bx C 1,bx C 2].map fun r=>.list (r.map nE))))):
  bO .Add (bu (ad "rows") (pure (.py (.int 0)))) (bu (ad "rows") (pure (.py (.int 1)))) ⟨ρ,σ⟩=some (.ok (.py (.list ((gB C).map nE))),⟨ρ,σ⟩):=by
 have e:=kz (ji (k:=0) (g:=pure (.py (.int 0))) (ah (σ:=σ) h) rfl rfl (by decide:3<=ar)) (ji (k:=1) (g:=pure (.py (.int 1))) (ah (σ:=σ) h) rfl rfl (by decide:3<=ar)) (by
  rw [List.length_map,List.length_map];exact Nat.le_trans (Nat.add_le_add (Nat.le_trans (List.length_filter_le _ _) hl) (Nat.le_trans (List.length_filter_le _ _) hl)) (by decide))
 rw [← List.map_append] at e;exact e
theorem uL {ps:List Pr} {ep n:Nat} {σ:List O} {ρ:aq} (h1:ρ.lookup "above" =some (.obj n)) (h:σ[n]?=some (.dict ep (dkv ps))):((ad "above")>>=aM) ⟨ρ,σ⟩=some (.ok (ps.map fun p=>.py (nE p.1),fun _=>gx n (.dict ep (dkv ps))),⟨ρ,σ⟩):=by
 have:=yP (ah (σ:=σ) h1) h;unfold dkv at this ⊢;rw [List.map_map] at this;exact this
theorem BB {ps:List Pr} (hp:∀ p∈ps,ps.lookup p.1=some p.2) (hl:ps.length<=60) {ep:Nat} {σ:List O} {ρ:aq} (h1:ρ.lookup "above" =some (.obj 0)) (h:σ[0]?=some (.dict ep (dkv ps))):
  bf false ["above"] ⟨((ad "above")>>=aM),(aQ "cell"),[]⟩ [] (bu (ad "above") (ad "cell")) ⟨ρ,σ⟩=some (.ok (.py (eCs.e (ps.map (·.2)))),⟨ρ,σ⟩):=by
 have:=uU (fs:=["above"]) (st:=⟨ρ,σ⟩) (ρ:=ρ) (σ:=σ) (v:= "cell") (ts:=[]) (el:=(bu (ad "above") (ad "cell"))) ps (fun p=>.py (nE p.1)) (fun _=>true) (fun p=>nE p.2) (uL h1 h) (by decide) (Nat.le_trans hl (by decide)) (fun k ρ=>kZ h) fun p hpm ρ' hA hv=>
  ⟨rfl,fun _=>nj (ah (hA.get h1 (by decide))) (ah hv) h (hp p hpm)⟩
 rw [Cy] at this;rw [this,show eCs.e (ps.map (·.2))=.list ((ps.map (·.2)).map nE) from rfl,List.map_map];rfl
section
variable {C:List Nat} {tk:List Nat} {ρ:aq} {σ:List O}
theorem Ed {c:Nat} (hc:c < 27) (h1:ρ.lookup "cell" =some (.py (nE c))) (h2:ρ.lookup "cells" =some (.py (.list (C.map nE)))) (h3:ρ.lookup "taken" =some (.py (eCs.e tk))):
  bf false ["taken"] ⟨(((ao (ad "cell") (ao (ad "cells") (pure [])))>>=bV fq)>>=aM),(aQ "other"),[(aJ .In (ad "other") (ad "taken"))]⟩ [] (ad "other") ⟨ρ,σ⟩=some (.ok (.py (.list ((pY C tk c).map nE))),⟨ρ,σ⟩):=
 d9 (fs:=["taken"]) (v:= "other") (abv c C) nE (fun o=>decide (o∈tk)) nE (mC (uq (q:=nE c) (r:=.list (C.map nE)) (ah h1) (ah h2) (uI hc))) (by decide)
  (Nat.le_trans (List.length_filter_le _ _) (by unfold wd; rw [List.length_map]; exact Nat.le_trans (List.length_filter_le _ (List.range 3)) (by decide))) fun o ho ρ' hA hv=>⟨g5 (mv eCl (by decide) (ah hv) (ah (hA.get h3 (by decide)))),fun _=>ah hv⟩
theorem Eb {c:Nat} {ws:List (List Nat)} (hw:∀ w∈ws,w.length<=60) (hl:(hZ C tk ws c).length<=ar) (h1:ρ.lookup "fits" =some (.py (.list ((pY C tk c).map nE)))) (h2:ρ.lookup "ways" =some (.py (wy.e ws))):
  bf false ["fits"] ⟨((ad "ways")>>=aM),(aQ "way"),[]⟩ [⟨((ad "fits")>>=aM),(aQ "other"),[(aJ .NotIn (ad "other") (ad "way"))]⟩] (bO .Add (ad "way") (dl (ao (ad "other") (pure [])))) ⟨ρ,σ⟩=some (.ok (.py (wy.e (hZ C tk ws c))),⟨ρ,σ⟩):=by
 have eM:(ws.flatMap fun w=>((pY C tk c).filter fun o=>!decide (o∈w)).map fun o=>eCs.e (w++[o]))=(hZ C tk ws c).map eCs.e:=by
  unfold hZ;rw [List.map_flatMap];refine congrArg (ws.flatMap ·) (funext fun w=>?_);rw [List.map_map];rfl
 have hc:=sE (fs:=["fits"]) (st:=⟨ρ,σ⟩) (σ:=σ) (v:= "way") (w:= "other") (ts:=[(aJ .NotIn (ad "other") (ad "way"))]) (el:=(bO .Add (ad "way") (dl (ao (ad "other") (pure []))))) ws eCs.e (fun _=>pY C tk c) nE (fun w o=>!decide (o∈w)) (fun w o=>eCs.e (w++[o])) (di (e:=eCs.e) h2) (by decide) (by decide) (by decide) (by
   have e:=congrArg List.length eM;rw [List.length_map] at e;exact e▸hl)
  (fun w hw ρ' hA hv=>di (e:=nE) (hA.get h1 (by decide))) fun w hwm o ho ρ' hA hv ho=>⟨g5 (iO eCl (by decide) (ah ho) (ah hv)),fun _=>by
   have e:=kz (ah (σ:=σ) hv) (ll (g:=ao (ad "other") (pure [])) (ps:=[nE o]) (dL (ah ho)) (by decide:1<=ar)) (by rw [List.length_map]; exact Nat.le_trans (Nat.add_le_add_right (hw w hwm) 1) (by decide));rw [show w.map eCl.e++[nE o]=(w++[o]).map nE by rw [List.map_append]; rfl] at e;exact e⟩
 rw [eM] at hc;exact hc
end
noncomputable def wyV (C tk:List Nat) (ws:List (List Nat)) (E:aq):aq:=put "ways" (.py (wy.e ws)) (put "taken" (.py (eCs.e tk)) E)
theorem zB {C:List Nat} (K:CH C) {x ep:Nat} {σ:List O} {ρ:aq} {b:aq} {g:AM aj} {P:Except Value aj->ASt->Prop} (E:Ex1 (wyV C ((psN C x).map (·.2)) [[]] b) ρ) (h:σ[0]?=some (.dict ep (dkv (psN C x)))) (hb:∀ v∈["cell", "fits"],∀ ws,(wyV C ((psN C x).map (·.2)) ws b).lookup v=none)
  (hc:b.lookup "cells" =some (.py (.list (C.map nE)))) (ha:b.lookup "above" =some (.obj 0))
  (hP:∀ ρ',Ex1 (wyV C ((psN C x).map (·.2)) (fR C ((psN C x).map (·.2)) ((psN C x).map (·.1))) b) ρ'->Out (g ⟨ρ',σ⟩) P):
  Out (ak (ik ((ad "above")>>=aM) (fun d=>(aQ "cell") d>>=fun _=>(ak (bG "fits" (bf false ["taken"] ⟨(((ao (ad "cell") (ao (ad "cells") (pure [])))>>=bV fq)>>=aM),(aQ "other"),[(aJ .In (ad "other") (ad "taken"))]⟩ [] (ad "other")))
 (ak (bG "ways" (bf false ["fits"] ⟨((ad "ways")>>=aM),(aQ "way"),[]⟩ [⟨((ad "fits")>>=aM),(aQ "other"),[(aJ .NotIn (ad "other") (ad "way"))]⟩] (bO .Add (ad "way") (dl (ao (ad "other") (pure []))))))
 (pure .next)))) (pure .next)) g ⟨ρ,σ⟩) P:=by
 have M:=iW K x;have hlk:∀ {v d ws},b.lookup v=some d->v≠ "ways" ->v≠ "taken" ->(wyV C ((psN C x).map (·.2)) ws b).lookup v=some d:=fun e h1 h2=>aY (aY e h2) h1;have htk:∀ ws,(wyV C ((psN C x).map (·.2)) ws b).lookup "taken" =some (.py (eCs.e ((psN C x).map (·.2)))):=fun ws=>aY aD (by decide);refine dF (psN C x) (fun p=>.py (nE p.1)) (fun ys=>At (wyV C ((psN C x).map (·.2)) (fR C ((psN C x).map (·.2)) (ys.map (·.1))) b) σ) (uL (E "above" _ (hlk ha (by decide) (by decide))) h) (fun ys st q k=>by obtain ⟨_⟩:=q; exact kZ h) (.mk E) (fun ys p zs st hx q=>?_) fun st q=>?_
 .obtain ⟨E⟩:=q;obtain ⟨c,a⟩:=p;have hpm:(c,a)∈psN C x:=by rw [hx]; exact List.mem_append_right _ (.head _)
  have e1:(psN C x).map (·.1)=(ys++[(c,a)]).map (·.1)++zs.map (·.1):=by rw [← List.map_append,List.append_assoc]; exact congrArg _ hx
  have e0:(psN C x).map (·.1)=ys.map (·.1)++(c::zs.map (·.1)):=by rw [hx,List.map_append]; rfl
  have E1:=E.skip (v:= "cell") (d:=.py (nE c)) (hb _ (.head _) _);refine dH rfl (bk (Ed (C:=C) (tk:=(psN C x).map (·.2)) (M.lt27 (M.up' hpm).1) aD (E1 "cells" _ (hlk hc (by decide) (by decide))) (E1 "taken" _ (htk _))) ?_);have E2:=E1.skip (v:= "fits") (d:=.py (.list ((pY C ((psN C x).map (·.2)) c).map nE))) (hb _ (.tail _ (.head _)) _);have hst:hZ C ((psN C x).map (·.2)) (fR C ((psN C x).map (·.2)) (ys.map (·.1))) c=fR C ((psN C x).map (·.2)) ((ys++[(c,a)]).map (·.1)):=by rw [List.map_append]; exact (nG _ _).symm
  have hnd:(ys.map (·.1)).Nodup:=by
   have:=(i5 M.pnd).1;rw [e0] at this;exact (List.nodup_append.mp this).1
  have hyl:(ys.map (·.1)).length<=26:=kc 26 _ hnd fun k hk=>by
   obtain ⟨b',hb'⟩:=fX.mp (show k∈(psN C x).map (·.1) by rw [e0]; exact List.mem_append_left _ hk);exact M.lt _ (M.up' hb').1
  have e3:=Eb (σ:=σ) (C:=C) (tk:=(psN C x).map (·.2)) (c:=c) (ws:=fR C ((psN C x).map (·.2)) (ys.map (·.1))) (fun w hw=>by
   obtain ⟨g,rfl,_⟩:=(mj _ hnd w).mp hw;rw [List.length_map];exact Nat.le_trans hyl (by decide)) (by rw [hst]; exact Nat.le_trans (uv K e1) (by decide)) aD (E2 "ways" _ aD)
  rw [hst] at e3;refine bk e3 (aw (cS.mpr (.mk ?_)));have E3:=E2.put (v:= "ways") (d:=.py (wy.e (fR C ((psN C x).map (·.2)) ((ys++[(c,a)]).map (·.1)))));refine ExB E3 fun v d e=>?_;unfold wyV at e ⊢;rw [dX] at e ⊢;by_cases z:v= "ways"
  .rw [if_pos z] at e ⊢; exact e
  .rw [if_neg z] at e ⊢;rw [aY e z]
 .obtain ⟨E⟩:=q;exact hP _ E
theorem Ay (a b:Bool):isA (.py (.bool a)) (.py (.bool b))=some (a==b):=by cases a <;> cases b <;> rfl
theorem EI {f g i:AM D} {d e k:D} {st st1 st2 st3:ASt} (h:f st=some (.ok d,st1)) (h2:g st1=some (.ok e,st2)) (h3:i st2=some (.ok k,st3)):ao f (ao g (ao i (pure []))) st=some (.ok [d,e,k],st3):=bnd h (bnd (lG h2 h3) rfl)
theorem Bx (l:List Int):PyData.eqv (.list (l.map .int)) (.list (l.map .int))=true:=(Gf.list.eqv l l).trans (decide_eq_true rfl)
theorem xZ (l:List Int):okP (.list (l.map .int))=true:=Gf.okL (by decide) l
theorem vX {σ:List O} {ρ:aq} {n:Nat} {ep:Nat} {kvs:List (KK×D)} {i:D} {k:KK} {v:D} (h:σ[n]?=some (.dict ep kvs)) (hk:ic i=some k) (hl:kvs.length<=ar):pp (.obj n) i v ⟨ρ,σ⟩=some (.ok (),⟨ρ,σ.set n (.dict (epK kvs k ep) (eg kvs k v))⟩):=jR (q:=(.dict (epK kvs k ep) (eg kvs k v),())) h (by
 show ((O.dict? (.dict ep kvs)).bind fun q=>(ic i).bind fun k=>ir q.1 q.2 k v).map _=_;show ((ic i).bind fun k=>ir ep kvs k v).map _=_;rw [hk,Option.bind_some];unfold ir;rw [if_pos hl];rfl)
theorem AL {C:List Nat} (hl:C.length<=60) {ρ:aq} {σ:List O} (h:ρ.lookup "cells" =some (.py (.list (C.map nE)))):
  ∃ ep kvs,tH ["cells"] ((ad "cells")>>=aM) (aQ "cell") (ad "cell") (bO .Pow (pure (.py (.int 2))) (bN "list" (ad "cells") (ao (ad "cell") (pure [])) gZ)) ⟨ρ,σ⟩=some (.ok (.obj σ.length),⟨ρ,σ++[.dict ep kvs]⟩)/\∀ c∈C,eh kvs (kE c)=some (.py (.int (pw C c:Nat))):=by
 have loop:∀ (zs ys:List Nat) (k ep:Nat) (kvs:List (KK×D)) (ρ':aq),C=ys++zs->Ag ["cells"] ρ ρ'->kvs.length<=ys.length->(∀ c∈ys,eh kvs (kE c)=some (.py (.int (pw C c:Nat))))->
   ∃ ρ2 ep2 kvs2,m7 (fun _=>pure ()) (tm σ.length (aQ "cell") (ad "cell") (bO .Pow (pure (.py (.int 2))) (bN "list" (ad "cells") (ao (ad "cell") (pure [])) gZ))) k (zs.map fun c=>.py (nE c)) ⟨ρ',σ++[.dict ep kvs]⟩=some (.ok (),⟨ρ2,σ++[.dict ep2 kvs2]⟩)/\∀ c∈C,eh kvs2 (kE c)=some (.py (.int (pw C c:Nat))):=fun zs=>by
  induction zs with
  | nil=>exact fun ys k ep kvs ρ' e _ _ hd=>⟨ρ',ep,kvs,rfl,fun c hc=>hd c (by rw [e,List.append_nil] at hc; exact hc)⟩
  | cons c zs ih=>
   intro ys k ep kvs ρ' e hA hk hd;have hc:c∈C:=by rw [e]; exact List.mem_append_right _ (.head _)
   have hkl:kvs.length<=ar:=Nat.le_trans hk (Nat.le_trans (by rw [e,List.length_append] at hl; omega) (show 60<=ar by decide));have hA2:=hA.put (v:= "cell") (.py (nE c)) (by decide);obtain ⟨ρ2,ep2,kvs2,h1,h2⟩:=ih (ys++[c]) (k+1) (epK kvs (kE c) ep) (eg kvs (kE c) (.py (.int (pw C c:Nat)))) (put "cell" (.py (nE c)) ρ') (by rw [e,List.append_assoc]; rfl) hA2 (by rw [List.length_append]; exact Nat.le_trans (lQ _ _ _) (Nat.succ_le_succ hk)) fun d hdm=>by
    rw [lO];by_cases z:d=c
    .rw [z,if_pos rfl]
    .rw [if_neg (fun q=>z (jQ q))];exact hd d ((List.mem_append.mp hdm).resolve_right fun q=>z (List.mem_singleton.mp q))
   refine ⟨ρ2,ep2,kvs2,?_,h2⟩;refine bnd (b:=()) rfl (bnd (b:=()) (st1:=⟨put "cell" (.py (nE c)) ρ',σ++[.dict (epK kvs (kE c) ep) (eg kvs (kE c) (.py (.int (pw C c:Nat))))]⟩) ?_ h1);refine bnd (b:=()) (st1:=⟨put "cell" (.py (nE c)) ρ',σ++[.dict ep kvs]⟩) rfl (bnd (ah aD) (bnd (AN (ah (hA2.get h (by decide))) (ah aD) hc hl) ?_));have:=vX (ρ:=put "cell" (.py (nE c)) ρ') (i:=.py (nE c)) (k:=kE c) (v:=.py (.int (pw C c:Nat))) (d6 (σ:=σ) (o:=.dict ep kvs)) rfl hkl;rw [lZ] at this;exact this
 obtain ⟨ρ2,ep2,kvs2,h1,h2⟩:=loop C [] 0 0 [] (restr ["cells"] ρ) rfl (Ag.restr _ _) (Nat.le_refl _) fun _ q=>(nomatch q)
 refine ⟨ep2,kvs2,bnd (di (e:=nE) h) ?_,h2⟩;show (m7 _ _ 0 _ ⟨restr ["cells"] ρ,σ++[.dict 0 []]⟩).bind _=_;rw [h1];rfl
noncomputable def rwP (C:List Nat):PyData:=.list ([bx C 0,bx C 1,bx C 2].map fun r=>.list (r.map nE))
noncomputable def boV (C:List Nat) (x:Nat) (ring:Bool):aq:=[("cells",.py (.list (C.map nE))),("rows",.py (rwP C)),("above",.obj 0),("paired",.py (.list ((prd (psN C x)).map nE))),("sorter",.obj 1),("ring",.py (.bool ring))]
theorem DM {C:List Nat} {x:Nat} (hl:C.length<=60) {ρ:aq} {σ:List O} (h1:ρ.lookup "cells" =some (.py (.list (C.map nE)))) (h2:ρ.lookup "paired" =some (.py (.list ((prd (psN C x)).map nE)))):
  bf false ["paired"] ⟨((ad "cells")>>=aM),(aQ "cell"),[(aJ .NotIn (ad "cell") (ad "paired"))]⟩ [] (ad "cell") ⟨ρ,σ⟩=some (.ok (.py (.list ((j6 C x).map nE))),⟨ρ,σ⟩):=
 d9 (fs:=["paired"]) (v:= "cell") C nE (fun c=>!decide (c∈prd (psN C x))) nE (di (e:=nE) h1) (by decide) (Nat.le_trans hl (by decide)) fun c hc ρ' hA hv=>⟨g5 (iO eCl (by decide) (ah hv) (ah (hA.get h2 (by decide)))),fun _=>ah hv⟩
theorem CL {C left:List Nat} (hl:C.length<=60) {ρ:aq} {σ:List O} (h1:ρ.lookup "rows" =some (.py (rwP C))) (h2:ρ.lookup "left" =some (.py (.list (left.map nE)))):
  bf false ["left"] ⟨((ad "rows")>>=aM),(aQ "row"),[]⟩ [] (bf false ["left"] ⟨((ad "row")>>=aM),(aQ "cell"),[(aJ .In (ad "cell") (ad "left"))]⟩ [] (ad "cell")) ⟨ρ,σ⟩=some (.ok (.py (.list ([(bx C 0).filter (lfB left),(bx C 1).filter (lfB left),(bx C 2).filter (lfB left)].map fun r=>.list (r.map nE)))),⟨ρ,σ⟩):=
 fh (fs:=["left"]) (v:= "row") [bx C 0,bx C 1,bx C 2] (fun r=>.list (r.map nE)) (fun r=>.list ((r.filter (lfB left)).map nE)) (di (e:=fun r:List Nat=>PyData.list (r.map nE)) h1) (by decide) (by decide:3<=ar) fun r hr ρ' hA hv=>
  d9 (fs:=["left"]) (st:=⟨ρ',σ⟩) (σ:=σ) (v:= "cell") (el:=ad "cell") r nE (lfB left) nE (di (e:=nE) hv) (by decide) (by
   have:r.length<=C.length:=by
    rcases List.mem_cons.mp hr with rfl | hr
    .exact List.length_filter_le _ _
    .rcases List.mem_cons.mp hr with rfl | hr
     .exact List.length_filter_le _ _
     .rw [List.mem_singleton.mp hr]; exact List.length_filter_le _ _
   exact Nat.le_trans this (Nat.le_trans hl (by decide))) fun c hc ρ2 hA2 hv2=>⟨g5 (mv eCl (by decide) (ah hv2) (ah (hA2.get (hA.get h2 (by decide)) (by decide)))),fun _=>ah hv2⟩
noncomputable def RgQ (C:List Nat) (x:Nat):Bool->Prop
 | false=>∃ blk,nn (grN C x).sc blk/\blk.Nodup/\∀ h,h∈blk↔h∈(grN C x).keys
 | true=>∃ v∈(grN C x).keys,Way (grN C x).sc v v
theorem zj {C:List Nat} (K:CH C) {x:Nat}:∀ {ring:Bool},RgQ C x ring->lC (fR C ((psN C x).map (·.2)) ((psN C x).map (·.1))) [(psN C x).map (·.2)]=!ring
 | false,⟨blk,h1,h2,h3⟩=>by
  refine jh.mpr fun w=>?_;rw [List.mem_singleton];exact ⟨Dm (iW K x) (BP K h1 h2 h3) w,fun e=>e▸Dt (iW K x)⟩
 | true,⟨v,_,h⟩=>by
  obtain ⟨w,h1,h2⟩:=Ee (iW K x) (sc:=(grN C x).sc) (fun f c q=>(y2 K).mp q) h;cases e:lC (fR C ((psN C x).map (·.2)) ((psN C x).map (·.1))) [(psN C x).map (·.2)] with
  | false=>rfl
  | true=>exact absurd (List.mem_singleton.mp ((jh.mp e w).mp h1)) h2
theorem Ad {C:List Nat} (K:CH C) {x:Nat} {kvs:List (KK×D)} {L:Nat->Nat} (h:RgQ C x false) (I:LdK (psN C x) (j6 C x) (fun k=>k∈(grN C x).keys) kvs L):
  hol ((bx C 0).filter (lfB (j6 C x))).length ((bx C 1).filter (lfB (j6 C x))).length ((bx C 2).filter (lfB (j6 C x))).length (rkL L ((bx C 1).filter (lfB (j6 C x)))) (rkL L ((bx C 2).filter (lfB (j6 C x))))=hol (bx C 0).length (bx C 1).length (bx C 2).length (rkL (pw C) (bx C 1)) (rkL (pw C) (bx C 2)):=by
 obtain ⟨blk,h1,h2,h3⟩:=h;exact ET (iW K x) (BP K h1 h2 h3) (Gz K I)
theorem Du (C tk:List Nat) (ws:List (List Nat)) (b:aq):(wyV C tk ws b).lookup "ways" =some (.py (.list (ws.map eCs.e))):=aD
theorem A8 (C tk:List Nat) (ws:List (List Nat)) (b:aq):(wyV C tk ws b).lookup "taken" =some (.py (eCs.e tk)):=aY aD (by decide)
theorem CP {tk:List Nat} {ws:List (List Nat)} {ρ:aq} {σ:List O} (h1:ρ.lookup "ways" =some (.py (.list (ws.map eCs.e)))) (h2:ρ.lookup "taken" =some (.py (eCs.e tk))) (hl:ws.length<=ar):((ao (ad "ways") (ao (dl (ao (ad "taken") (pure []))) (pure [])))>>=bV cc) ⟨ρ,σ⟩=some (.ok (.py (.bool (lC ws [tk]))),⟨ρ,σ⟩):=by
 have el:dl (ao (ad "taken") (pure [])) ⟨ρ,σ⟩=some (.ok (.py (.list ([tk].map eCs.e))),⟨ρ,σ⟩):=ll (ps:=[eCs.e tk]) (dL (ah h2)) (by decide:1<=ar);exact uq (ah h1) el (sx eCs (by decide) ws [tk] hl (by decide:1<=ar))
theorem wj {L:Nat->Nat} {r0 r1 r2:List Nat} {j ep:Nat} {kvs:List (KK×D)} {σ:List O} (ρ:aq) (h0:r0.length<=60) (h1:r1.length<=60) (h2:r2.length<=60) (hj:σ[j]?=some (.dict ep kvs)) (hc:∀ c,c∈r1\/c∈r2->c < 27/\∀ f∈bd c,eh kvs (kE f)=some (.py (.int (L f:Nat)))):
  ∃ st',dI fw dq [.py (.list ([r0,r1,r2].map fun r=>.list (r.map nE))),.obj j] ⟨ρ,σ⟩=some (.ok (.py (.list ((hol r0.length r1.length r2.length (rkL L r1) (rkL L r2)).map .int))),st'):=by
 have h:=sr h0 h1 h2 hj hc;generalize hol r0.length r1.length r2.length (rkL L r1) (rkL L r2)=v at h;obtain ⟨r,st',e,h⟩:=iq (bind:=fw) (fb:=dq) (ds:=[.py (.list ([r0,r1,r2].map fun r=>.list (r.map nE))),.obj j]) (st:=⟨ρ,σ⟩) (P:=fun r st'=>r=.ok (.py (.list (v.map .int)))) rfl (h.mono fun r st' q=>by
  obtain ⟨rfl,_⟩:=q;rfl)
 exact ⟨st',by rw [e,h]⟩
theorem vE {C:List Nat} (K:CH C) {x ep rl:Nat} {ring:Bool} {ni li:Nat->Nat} {σ:List O} {ρ:aq} (E:Ex1 (boV C x ring) ρ)
  (T:bQ [.dict ep (dkv (psN C x))] σ 1 2 ni li (grN C x).keys (grN C x).np (grN C x).sc (.obj rl) (0,0)) (R:Rd [.dict ep (dkv (psN C x))] σ (grN C x).keys li rl ((grN C x).keys.filter fun h=>decide ((grN C x).np h=0))) (hr:RgQ C x ring):
  Out ((ak (bF (j9 (ao (bf false ["above"] ⟨((ad "above")>>=aM),(aQ "cell"),[]⟩ [] (bu (ad "above") (ad "cell"))) (ao (dl (ao (dl (pure [])) (pure []))) (pure [])))) [(qq [(aQ "taken"),(aQ "ways")])])
 (ak (ik ((ad "above")>>=aM) (fun d=>(aQ "cell") d>>=fun _=>(ak (bG "fits" (bf false ["taken"] ⟨(((ao (ad "cell") (ao (ad "cells") (pure [])))>>=bV fq)>>=aM),(aQ "other"),[(aJ .In (ad "other") (ad "taken"))]⟩ [] (ad "other")))
 (ak (bG "ways" (bf false ["fits"] ⟨((ad "ways")>>=aM),(aQ "way"),[]⟩ [⟨((ad "fits")>>=aM),(aQ "other"),[(aJ .NotIn (ad "other") (ad "way"))]⟩] (bO .Add (ad "way") (dl (ao (ad "other") (pure []))))))
 (pure .next)))) (pure .next))
 (ak (ifA (aJ .Is ((ao (ad "ways") (ao (dl (ao (ad "taken") (pure []))) (pure [])))>>=bV cc) (ad "ring")) (ak (ft (pure (.py (.bool false))))
 (pure .next)) (pure .next))
 (ak (ifA (iz (ad "ring")) (ak (ft (pure (.py (.bool true))))
 (pure .next)) (pure .next))
 (ak (bG "left" (bf false ["paired"] ⟨((ad "cells")>>=aM),(aQ "cell"),[(aJ .NotIn (ad "cell") (ad "paired"))]⟩ [] (ad "cell")))
 (ak (bG "leads" ((ao (ad "sorter") (ao (ad "above") (ao (ad "left") (pure []))))>>=dI mF fZ))
 (ak (bG "holes" ((ao (bf false ["left"] ⟨((ad "rows")>>=aM),(aQ "row"),[]⟩ [] (bf false ["left"] ⟨((ad "row")>>=aM),(aQ "cell"),[(aJ .In (ad "cell") (ad "left"))]⟩ [] (ad "cell"))) (ao (ad "leads") (pure [])))>>=dI fw dq))
 (ak (ft (tS .Eq (ad "holes") ((ao (ad "rows") (ao (tH ["cells"] ((ad "cells")>>=aM) (aQ "cell") (ad "cell") (bO .Pow (pure (.py (.int 2))) (bN "list" (ad "cells") (ao (ad "cell") (pure [])) gZ))) (pure [])))>>=dI fw dq)))
 (pure .next))))))))) ⟨ρ,σ⟩) fun r _=>r=.ok (.ret (.py (.bool true))):=by
 have M:=iW K x;have hz:(O.dict ep (dkv (psN C x)))≠.dead:=fun e=>nomatch e;have h0:=T.old 0 _ rfl hz;have hC:=BY K;have hC60:C.length<=60:=Nat.le_trans hC (by decide);have hps:(psN C x).length<=60:=Nat.le_trans (yl _ _ _ _) (by rw [List.length_range]; exact Nat.le_trans (pq K) (by decide));refine A2 (BB (fun p hp=>qF M.pnd hp) hps (E "above" _ rfl) h0) (e:=.py (wy.e [[]])) (ll (ps:=[.list []]) (dL (qt _)) (by decide:1<=ar)) ?_;have E1:Ex1 (wyV C ((psN C x).map fun p:Pr=>p.2) [[]] (boV C x ring)) (put "ways" (.py (wy.e [[]])) (put "taken" (.py (eCs.e ((psN C x).map fun p:Pr=>p.2))) ρ)):=(E.put (v:= "taken") (d:=.py (eCs.e ((psN C x).map fun p:Pr=>p.2)))).put (v:= "ways") (d:=.py (wy.e [[]]));refine zB K E1 h0 (fun v hv ws=>?_) rfl rfl fun ρ' E2=>?_
 .rcases List.mem_cons.mp hv with rfl | hv
  .rfl
  .rw [List.mem_singleton.mp hv]; rfl
 clear E E1
 have E3:Ex1 (boV C x ring) ρ':=ExB E2 fun v d e=>by
  have hv:v≠ "ways" /\v≠ "taken" :=⟨fun z=>(by rw [z] at e; cases e),fun z=>(by rw [z] at e; cases e)⟩
  exact aY (aY e hv.2) hv.1
 have hwl:(fR C ((psN C x).map (·.2)) ((psN C x).map (·.1))).length<=ar:=Nat.le_trans (uv K (ys:=(psN C x).map (·.1)) (zs:=[]) (List.append_nil _).symm) (by decide);have ec:=CP (σ:=σ) (E2 "ways" _ (Du _ _ _ _)) (E2 "taken" _ (A8 _ _ _ _)) hwl;rw [zj K hr] at ec;refine aH (du (qh ec (ah (E3 "ring" _ rfl)) (Ay _ _)) (fun h=>?_) fun _=>aw (aO.mpr ?_))
 .cases ring <;> cases h
 refine aH (du (qT (ah (E3 "ring" _ rfl))) (fun _=>eF rfl (m4.mpr rfl)) fun hf=>aw (aO.mpr ?_));subst hf;refine bk (DM (x:=x) hC60 (E3 "cells" _ rfl) (E3 "paired" _ rfl)) ?_;have E4:=E3.skip (v:= "left") (d:=.py (.list ((j6 C x).map nE))) rfl;have hlf:(put "left" (.py (.list ((j6 C x).map nE))) ρ').lookup "left" =some (.py (.list ((j6 C x).map nE))):=aD;obtain ⟨blk,hb1,hb2,hb3⟩:=id hr;obtain ⟨⟨rk,hrk⟩,_⟩:=nh hb1;refine je (dH (EI (ah (E4 "sorter" _ rfl)) (ah (E4 "above" _ rfl)) (ah hlf)) (iq rfl ((zJ (th K x) T R (rk:=rk) fun p c hc=>hrk p ((hb3 p).mpr (wn (th K x) hc)) c hc).mono fun r st q=>?_)));obtain ⟨j,kvs,ep',L,rfl,s0,sj,I⟩:=q;have E5:=E4.skip (v:= "leads") (d:=.obj j) rfl
 have hL:∀ c,c∈(bx C 1).filter (lfB (j6 C x))\/c∈(bx C 2).filter (lfB (j6 C x))->c < 27/\∀ f∈bd c,eh kvs (kE f)=some (.py (.int (L f:Nat))):=fun c hc=>by
  have hcC:c∈C:=by rcases hc with q | q <;> exact (eP.mp (List.mem_filter.mp q).1).1
  refine ⟨M.lt27 hcC,fun f hf=>I.get f ((pj K).mpr (mc.mpr ⟨K.cl c hcC f hf,?_⟩))⟩;have:=kR (M.lt27 hcC) hf;have:=Ea (K.lt c hcC);omega
 have hr60:∀ n,(bx C n).length<=60:=fun n=>Nat.le_trans (List.length_filter_le _ _) hC60;have hf60:∀ n,((bx C n).filter (lfB (j6 C x))).length<=60:=fun n=>Nat.le_trans (List.length_filter_le _ _) (hr60 n);refine je (dH (lG (CL hC60 (E5 "rows" _ rfl) (aY aD (by decide))) (ah aD)) (iq rfl ((sr (hf60 0) (hf60 1) (hf60 2) sj hL).mono fun r st2 q=>?_)));obtain ⟨rfl,hold⟩:=q;rw [Ad K hr I];have E6:=E5.skip (v:= "holes") (d:=.py (.list ((hol (bx C 0).length (bx C 1).length (bx C 2).length (rkL (pw C) (bx C 1)) (rkL (pw C) (bx C 2))).map .int))) rfl;obtain ⟨ep2,kvs2,ed,hd⟩:=AL (σ:=st2.σ) hC60 (E6 "cells" _ rfl)
 have hP:∀ c,c∈bx C 1\/c∈bx C 2->c < 27/\∀ f∈bd c,eh kvs2 (kE f)=some (.py (.int (pw C f:Nat))):=fun c hc=>by
  have hcC:c∈C:=by rcases hc with q | q <;> exact (eP.mp q).1
  exact ⟨M.lt27 hcC,fun f hf=>hd f (K.cl c hcC f hf)⟩
 obtain ⟨st3,e3⟩:=wj (put "holes" (.py (.list ((hol (bx C 0).length (bx C 1).length (bx C 2).length (rkL (pw C) (bx C 1)) (rkL (pw C) (bx C 2))).map .int))) (put "leads" (.obj j) (put "left" (.py (.list ((j6 C x).map nE))) ρ'))) (hr60 0) (hr60 1) (hr60 2) (j:=st2.σ.length) (d6 (σ:=st2.σ) (o:=.dict ep2 kvs2)) hP;exact eF (yI (BV (ah aD) (bnd (lG (ah (E6 "rows" _ rfl)) ed) e3) (xZ _) (xZ _) (Bx _))) rfl
theorem wl {lower cells:List Nat} {x:Nat} (ρ:aq) (hc:∀ c∈lower,c < 27) (hl:lower.length<=20):
  ∃ ep,dI jL fk [.py (.list (lower.map nE)),.py (.list (cells.map nE)),.py (.int (x:Int))] ⟨ρ,[]⟩=some (.ok (.tup [.obj 0,.py (.list ((prd (prs lower cells x (List.range lower.length))).map nE))]),⟨ρ,[.dict ep (dkv (prs lower cells x (List.range lower.length)))]⟩):=by
 have h:=Ai (cells:=cells) (x:=x) hc hl;generalize prs lower cells x (List.range lower.length)=ps at h;obtain ⟨r,st',e,h1,ep,h2,h3⟩:=iq (bind:=jL) (fb:=fk) (ds:=[.py (.list (lower.map nE)),.py (.list (cells.map nE)),.py (.int (x:Int))]) (st:=⟨ρ,[]⟩) (P:=fun r st'=>r=.ok (.tup [.obj 0,.py (.list ((prd ps).map nE))])/\∃ ep,st'.σ=[.dict ep (dkv ps)]/\st'.ρ=ρ) rfl (h.mono fun r st' q=>by
  obtain ⟨rfl,ep,q⟩:=q;exact ⟨rfl,ep,q,rfl⟩)
 obtain ⟨ρ',σ'⟩:=st';subst h2;subst h3;exact ⟨ep,by rw [e,h1]⟩
theorem uN {lower:List Nat} {ps:List Pr} {ep:Nat} (ρ:aq) (hc:∀ c∈lower,c < 27) (hl:lower.length<=20) (ha:∀ p∈ps,p.2 < 26):
  ∃ σ ni li,dI i8 eI [.py (.list (lower.map nE)),.obj 0] ⟨ρ,[.dict ep (dkv ps)]⟩=some (.ok (.obj 1),⟨ρ,σ⟩)/\TSt [.dict ep (dkv ps)] σ 1 2 ni li (tG (prv ps) lower) (.py .none) (0,0):=by
 have h:=xa (ep:=ep) hc hl ha;obtain ⟨r,st',e,h1,h2,ni,li,T⟩:=iq (bind:=i8) (fb:=eI) (ds:=[.py (.list (lower.map nE)),.obj 0]) (st:=⟨ρ,[.dict ep (dkv ps)]⟩) (P:=fun r st'=>r=.ok (.obj 1)/\st'.ρ=ρ/\∃ ni li,TSt [.dict ep (dkv ps)] st'.σ 1 2 ni li (tG (prv ps) lower) (.py .none) (0,0)) rfl (h.mono fun r st' q=>by
  obtain ⟨rfl,q⟩:=q;exact ⟨rfl,rfl,q⟩)
 obtain ⟨ρ',σ'⟩:=st';subst h2;exact ⟨σ',ni,li,by rw [e,h1],T⟩
theorem eR {v:String} {d:D} {b ρ:aq} (h:ρ.lookup v=some d) (hb:Ex1 b ρ):Ex1 ((v,d)::b) ρ:=fun u e q=>by
 rw [List.lookup_cons] at q;by_cases z:u=v
 .rw [z,beq_self_eq_true] at q;rw [z];cases q;exact h
 .rw [beq_eq_false_iff_ne.mpr z] at q;exact hb u e q
theorem CG {f:AM D} {g:AM aj} {a b:String} {d e:D} {st st1:ASt} {P:Except Value aj->ASt->Prop} (h:f st=some (.ok (.tup [d,e]),st1)) (hg:Out (g ⟨put b e (put a d st1.ρ),st1.σ⟩) P):Out (ak (bF f [qq [aQ a,aQ b]]) g st) P:=
 dc h (bnd (nY (ds:=[d,e]) rfl rfl) rfl) hg
theorem Co (ns:List Int) (hns:ns.length<=63):EB [.list (ns.map .int)]=some (.bool true):=by
 have h27:=GS (ns:=ns);have h4:=Fo ns;have hn5:=vt ns;refine k9 (bs:=[("script",.py (.list (ns.map .int)))]) rfl ?_;refine bk (C3 (ns:=ns) hns rfl) ?_;have E0:Ex1 [("numbers",.py (.list ((qz ns).map .int)))] (put "numbers" (.py (.list ((qz ns).map .int))) [("script",.py (.list (ns.map .int)))]):=(Ex1.nil _).put;generalize put "numbers" (.py (.list ((qz ns).map .int))) [("script",.py (.list (ns.map .int)))]=ρ0 at E0;refine bk (Ck (E0 "numbers" _ rfl)) ?_;have E1:=E0.put (v:= "drawn") (d:=.py (.list ((drN ns).map nE)));generalize drN ns=dr at h27 h4 E1 ⊢;refine bk Ce ?_;have E2:=E1.put (v:= "texts") (d:=.py (.list ((List.range 26).map nE)));refine bk (C8 h27 h4 (E2 "drawn" _ rfl)) ?_;have E3:=E2.put (v:= "told") (d:=.py (.list (dr.map o0)));refine bk (Be h27 h4 (E3 "told" _ rfl) (E3 "texts" _ rfl)) ?_;have E4:=E3.put (v:= "cells") (d:=.py (.list ((o6 dr).map nE)));refine bk (Fl h27 h4 (E4 "drawn" _ rfl) (E4 "texts" _ rfl)) ?_;have E5:=E4.put (v:= "due") (d:=.py (.list ((xp dr).map nE)));have K:=FS h27;have hC:=BY K;have hC60:(o6 dr).length<=60:=Nat.le_trans hC (by decide);have ec:=uq (ah (σ:=[]) (E5 "cells" _ rfl)) (ah (E5 "due" _ rfl)) (sx eCl (by decide) (o6 dr) (xp dr) (Nat.le_trans hC60 (by decide)) (Nat.le_trans (List.length_filter_le _ (List.range 26)) (by decide)));rw [Bl] at ec;refine Cw ec rfl ?_;have E6:Ex1 [("numbers",.py (.list ((qz ns).map .int))),("cells",.py (.list ((o6 dr).map nE)))] (put "due" (.py (.list ((xp dr).map nE))) (put "cells" (.py (.list ((o6 dr).map nE))) (put "told" (.py (.list (dr.map o0))) (put "texts" (.py (.list ((List.range 26).map nE))) (put "drawn" (.py (.list (dr.map nE))) ρ0))))):=eR (E5 "numbers" _ rfl) (eR (E5 "cells" _ rfl) (Ex1.nil _));generalize put "due" (.py (.list ((xp dr).map nE))) (put "cells" (.py (.list ((o6 dr).map nE))) (put "told" (.py (.list (dr.map o0))) (put "texts" (.py (.list ((List.range 26).map nE))) (put "drawn" (.py (.list (dr.map nE))) ρ0))))=ρ1 at E6 ⊢;generalize o6 dr=C at K hC hC60 E6 ⊢;have hC27:∀ c∈C,c < 27:=fun c h=>Nat.lt_succ_of_lt (K.lt c h);refine bk (Es hC27 hC60 (E6 "cells" _ rfl)) ?_;have E7:=E6.put (v:= "rows") (d:=.py (rwP C));refine bk (Cs hC60 (E7 "rows" _ rfl)) ?_;have E8:=E7.put (v:= "lower") (d:=.py (.list ((gB C).map nE)));have hx:∃ y:Int,(qz ns)[4]?=some y:=⟨_,List.getElem?_eq_getElem (by rw [hn5]; decide)⟩
 obtain ⟨y,hy⟩:=hx;have ex:=yF (m:=4 ^ 20) (ji (k:=4) (p:=.int y) (g:=pure (.py (.int 4))) (ah (σ:=[]) (E8 "numbers" _ rfl)) rfl (by rw [List.getElem?_map,hy]; rfl) (by rw [List.length_map,hn5]; decide)) (ti (a:=4) (b:=20) (f:=pure (.py (.int 4))) (g:=pure (.py (.int 20))) rfl rfl (by decide) (by decide)) (by decide);generalize (y % ((4 ^ 20:Nat):Int)).toNat=x at ex;obtain ⟨ep,ep1⟩:=wl (lower:=gB C) (cells:=C) (x:=x) (put "lower" (.py (.list ((gB C).map nE))) (put "rows" (.py (rwP C)) ρ1)) (yD K) (pq K);refine CG (bnd (EI (ah (E8 "lower" _ rfl)) (ah (E8 "cells" _ rfl)) ex) ep1) ?_;have E9:=(E8.put (v:= "above") (d:=.obj 0)).put (v:= "paired") (d:=.py (.list ((prd (psN C x)).map nE)));obtain ⟨σ,ni,li,es,T⟩:=uN (lower:=gB C) (ps:=psN C x) (ep:=ep) (put "paired" (.py (.list ((prd (psN C x)).map nE))) (put "above" (.obj 0) (put "lower" (.py (.list ((gB C).map nE))) (put "rows" (.py (rwP C)) ρ1)))) (yD K) (pq K) (th K x).ha;refine sy (bnd (lG (ah (E9 "lower" _ rfl)) (ah (E9 "above" _ rfl))) es) (d:=.obj 1) (e:=.py (.bool false)) rfl ?_;have E10:=(E9.put (v:= "ring") (d:=.py (.bool false))).put (v:= "sorter") (d:=.obj 1);have T:bQ [.dict ep (dkv (psN C x))] σ 1 2 ni li (grN C x).keys (grN C x).np (grN C x).sc (.py .none) (0,0):=T;have hbo:Ex1 (boV C x false) _:=eR (E10 "cells" _ rfl) (eR (E10 "rows" _ rfl) (eR (E10 "above" _ rfl) (eR (E10 "paired" _ rfl) (eR (E10 "sorter" _ rfl) (eR (E10 "ring" _ rfl) (Ex1.nil _))))));generalize put "sorter" (.obj 1) (put "ring" (.py (.bool false)) (put "paired" (.py (.list ((prd (psN C x)).map nE))) (put "above" (.obj 0) (put "lower" (.py (.list ((gB C).map nE))) (put "rows" (.py (rwP C)) ρ1)))))=ρ2 at hbo ⊢;have H:=th K x;refine aH (tW (m6 (kO (ah (hbo "sorter" _ rfl)) T.inst (show "prepare" ∉q8 by decide) rfl rfl ((wI T (Nat.le_trans (sV H) (by decide)) (fun h _ c hc=>(qO _ _).cl h c hc) (fun h=>Nat.le_trans (EJ H h) (by decide))).mono fun r st' ⟨rl,T2,R2,q⟩=>?_))));rcases q with ⟨rfl,q⟩ | ⟨rfl,q⟩
 .exact aw (aO.mpr (vE K (ring:=false) hbo T2 R2 q))
 .refine ⟨rfl,bk (d:=.py (.bool true)) rfl (aw ⟨⟨_,rfl⟩,aO.mpr (vE K (ring:=true) ?_ T2 R2 q)⟩)⟩;exact eR (aY (hbo "cells" _ rfl) (by decide)) (eR (aY (hbo "rows" _ rfl) (by decide)) (eR (aY (hbo "above" _ rfl) (by decide)) (eR (aY (hbo "paired" _ rfl) (by decide)) (eR (aY (hbo "sorter" _ rfl) (by decide)) (eR aD (Ex1.nil _))))))
theorem F8 (hP:∀ ns:List Int,ns.length<=63->EB [.list (ns.map .int)]=some (.bool true)):PySem.Challenge.rw_aa0061_02.Holds:=hd3 (by
 intro w s₀ s₁ mg mb G Y fa o pm cd doc dV kV ho hd hcd hD hmg hg args vals as hpre hlay hrd hwl hlo;have KX:=kIn_of Y;refine Ground.open G ?_;intro T B D TE TW;have TR:=topRead_of T;have sys:=(T.seer (by decide)).mods
 wrow_args hpre hlay hrd hwl hlo
 rename_i wN hs hl0 hL1 hrA hl2 a1 a2 wA wV a3 hL ra wW r0 hI hrW hc hc1
 have hLst:s₁.heap.get? wA=some {cls:=.type "list",data:=.seq wV.toArray}:=by
  obtain ⟨oL,h1,h2,n,h3⟩:=hL;cases wW with
  | list h4 h5=>
   rw [h1] at h4;cases h4;injection h3 with h6 h7
   rw [h1,h6]
 refine Ao (n:=14) (pg:=PySem.Challenge.rw_aa0061_02.row.prog) TR KX (let ⟨_,h1,_⟩:=sys; let ⟨o1,_,_,h2,_⟩:=h1; ⟨o1,h2⟩) hmg (dU (nL w.params).2).1 hI hLst (fun c hF=>@Fj c w.params hF) (by decide) (hP _ (by omega)) ?_
 .intro s' keep hgens hos;refine GoodW.toG ⟨.inl ⟨_,_,_,rfl,?_,ReadsW.bool _,?_,?_⟩,keep,hos,hgens.trans hg⟩
  .intro cls; rfl
  .first | rfl | wrow_post
  .intro _; exact ⟨List.nodup_nil,fun _ hm=>(nomatch hm)⟩)
end Mine
end S12609
open PySem PySem.W PySem.Calls PyProof.Rows
theorem PySem.Challenge.cw_aa0061_02_holds : PySem.Challenge.rw_aa0061_02.Holds :=
 Mine.F8 Mine.Co
