import PyProof.Rows.All
import Wide.All
import OpenK.AllK
import Wide.FinOn
import Lean
import PySem.Challenge.RW_pe0268_01
set_option Elab.async false
set_option linter.unusedVariables false
set_option compiler.extract_closed false
set_option genSizeOf false
set_option genInjectivity false
set_option tactic.hygienic false
noncomputable section
local macro_rules | `(tactic| omega) => `(tactic| lia)
namespace Mine
theorem hide {B : Prop} (h : let G := B; G) : B := h
@[elab_as_elim] theorem rwg {α : Sort u} {a : α} {motive : α → Prop} {b : α} (e : a = b) (h : motive b) : motive a := e ▸ h
theorem oNope {α : Type} {a b : Option α} {P : Prop} (h : a = b) (q : (a.isSome != b.isSome) = true) : P := by
  subst h
  rw [bne_self_eq_false] at q
  cases q
theorem bNope {a b : Bool} {P : Prop} (h : a = b) (q : (a != b) = true) : P := by
  subst h
  rw [bne_self_eq_false] at q
  cases q
set_option hygiene false
local macro_rules | `(tactic| left) => `(tactic| (apply hide; intro GG))
local macro_rules | `(tactic| right) => `(tactic| (unfold GG; clear GG))
local macro_rules | `(tactic| cases $x:ident) => `(tactic| first | exact oNope $x rfl | exact bNope $x rfl | (replace $x := Option.some.inj $x; subst $x:ident) | (exfalso; cases ($x); done) | cases ($x))
local macro_rules | `(tactic| rewrite [$e:term]) => `(tactic| first | (with_reducible refine rwg $e ?_) | rewrite [$e:term] at ⊢)
local macro_rules | `(tactic| rewrite [$r, $rs,*]) => `(tactic| (rewrite [$r]; rewrite [$rs,*]))
local macro_rules | `(tactic| rw [$rs,*]) => `(tactic| (rewrite [$rs,*]; with_reducible try rfl))
local macro_rules | `(tactic| show $t:term) => `(tactic| refine (?_ : $t))
def byRfl : Lean.Syntax := Lean.Unhygienic.run `(Lean.Parser.Tactic.tacticSeq| rfl)
def byDec : Lean.Syntax := Lean.Unhygienic.run `(Lean.Parser.Tactic.tacticSeq| decide)
def byIR : Lean.Syntax := Lean.Unhygienic.run `(Lean.Parser.Tactic.tacticSeq| intro _; rfl)
def byIIR : Lean.Syntax := Lean.Unhygienic.run `(Lean.Parser.Tactic.tacticSeq| intro _ _; rfl)
def byPl : Lean.Syntax := Lean.Unhygienic.run `(Lean.Parser.Tactic.tacticSeq| exact ⟨.inr ⟨_, _, rfl, rfl⟩, rfl⟩)
def byPl2 : Lean.Syntax := Lean.Unhygienic.run `(Lean.Parser.Tactic.tacticSeq| exact ⟨by first | exact .inl rfl | exact .inr ⟨_, _, rfl, rfl⟩, rfl⟩)
def byIF : Lean.Syntax := Lean.Unhygienic.run `(Lean.Parser.Tactic.tacticSeq| intro _ _; first | exact .inl rfl | exact .inr rfl)
def byPl3 : Lean.Syntax := Lean.Unhygienic.run `(Lean.Parser.Tactic.tacticSeq| exact ⟨.inl rfl, rfl⟩)
open PySem PySem.W PyProof.Rows PySem.Calls PySem.Spec PySem.Builtin PySem.Builtin.Str
set_option maxRecDepth 100000
section
open PySem PySem.W PyProof.Rows PySem.Calls PySem.Spec
inductive D where
 | none
 | bool (b:Bool)
 | int (i:Int)
 | str (x:Str)
 | tup (ds:List D)
 | lst (ds:List D)
 | dct (kvs:List (Str × D))
 | inst (c:Addr) (kvs:List (Str × D))
noncomputable def Keep (own:List Addr) (h h':Heap):Prop:=∀ b o,b ∉ own→h.get? b = some o→h'.get? b = some o
noncomputable abbrev Ext (h h':Heap):Prop:=∀ b o,h.get? b = some o→h'.get? b = some o
theorem Ext.keep {own:List Addr} {h h':Heap} (e:Ext h h'):Keep own h h':=fun b o _ x => e b o x
theorem Ext.refl (h:Heap):Ext h h:=fun _ _ e => e
theorem Ext.trans {a b c:Heap} (x:Ext a b) (y:Ext b c):Ext a c:=fun p o e => y p o (x p o e)
theorem ext_push (h:Heap) (o:Obj):Ext h (h.push o):=fun _ _ e => Heap.get?_push_of_some _ e
mutual
inductive Rd (P:Params) (own:List Addr) (h:Heap):Value→D→Prop
 | none:Rd P own h .none .none
 | bool (b:Bool):Rd P own h (.bool b) (.bool b)
 | int (i:Int) (t:Tok):Rd P own h (.int i t) (.int i)
 | str (x:Str) (t:Tok):Rd P own h (.str x t) (.str x)
 | tup {a:Addr} {o:Obj} {n:Nat} {vs:List Value} {ds:List D}:h.get? a = some o→o.cls = .type "tuple"→o.data = .seq vs.toArray n→RdAll P own h vs ds→Rd P own h (.ref a) (.tup ds)
 | lst {a:Addr} {o:Obj} {n:Nat} {vs:List Value} {ds:List D}:a ∉ own→h.get? a = some o→o.cls = .type "list"→o.data = .seq vs.toArray n→RdAll P own h vs ds→Rd P own h (.ref a) (.lst ds)
 | dct {a:Addr} {n:Nat} {es:List DictEntry} {kvs:List (Str × D)}:(a ∉ own∧a ≠ sysModules)→h.get? a = some { cls:=.type "dict",data:=.dict es.toArray n }→RdKv P own h es kvs→Rd P own h (.ref a) (.dct kvs)
 | inst {a dx c:Addr} {n:Nat} {es:List DictEntry} {kvs:List (Str × D)}:a ∉ own→dx ∉ own→h.get? a = some { cls:=.ref c,dict:=some dx,data:=.plain } →
   h.get? dx = some { cls:=.type "dict",data:=.dict es.toArray n }→RdKv P own h es kvs→Rd P own h (.ref a) (.inst c kvs)
inductive RdAll (P:Params) (own:List Addr) (h:Heap):List Value→List D→Prop
 | nil:RdAll P own h [] []
 | cons {v:Value} {vs:List Value} {d:D} {ds:List D}:Rd P own h v d→RdAll P own h vs ds→RdAll P own h (v :: vs) (d :: ds)
inductive RdKv (P:Params) (own:List Addr) (h:Heap):List DictEntry→List (Str × D)→Prop
 | nil:RdKv P own h [] []
 | cons {k:Str} {t:Tok} {v:Value} {es:List DictEntry} {d:D} {kvs:List (Str × D)}:Rd P own h v d→RdKv P own h es kvs→RdKv P own h (⟨PyData.keyHash P k,.str k t,v⟩ :: es) ((k,d) :: kvs)
end
noncomputable def OwnOk (own:List Addr) (h:Heap):Prop:=∀ a ∈ own,∃ o,h.get? a = some o∧¬ (o.cls = .type "tuple"∧∃ vs n,o.data = .seq vs n)
section
variable {P:Params} {own own':List Addr} {h h':Heap}
theorem RdAll.ind {m:List Value→List D→Prop} (h0:m [] []) (h1:∀ v vs d ds,Rd P own h v d→RdAll P own h vs ds→m vs ds→m (v :: vs) (d :: ds)) {vs:List Value} {ds:List D} (r:RdAll P own h vs ds):m vs ds:=
 RdAll.rec (motive_1:=fun _ _ _ => True) (motive_2:=fun vs ds _ => m vs ds) (motive_3:=fun _ _ _ => True) trivial (fun _ => trivial) (fun _ _ => trivial) (fun _ _ => trivial) (fun _ _ _ _ _ => trivial) (fun _ _ _ _ _ _ => trivial) (fun _ _ _ _ => trivial) (fun _ _ _ _ _ _ => trivial)
  h0 (fun x r _ ih => h1 _ _ _ _ x r ih) trivial (fun _ _ _ _ => trivial) r
theorem RdKv.ind {m:List DictEntry→List (Str × D)→Prop} (h0:m [] []) (h1:∀ k t v d es kvs,Rd P own h v d→RdKv P own h es kvs→m es kvs→m (⟨PyData.keyHash P k,.str k t,v⟩ :: es) ((k,d) :: kvs)) {es:List DictEntry} {kvs:List (Str × D)} (r:RdKv P own h es kvs):m es kvs:=
 RdKv.rec (motive_1:=fun _ _ _ => True) (motive_2:=fun _ _ _ => True) (motive_3:=fun vs ds _ => m vs ds) trivial (fun _ => trivial) (fun _ _ => trivial) (fun _ _ => trivial) (fun _ _ _ _ _ => trivial) (fun _ _ _ _ _ _ => trivial) (fun _ _ _ _ => trivial) (fun _ _ _ _ _ _ => trivial)
  trivial (fun _ _ _ _ => trivial) h0 (fun x r _ ih => h1 _ _ _ _ _ _ x r ih) r
theorem RdAll.imp (f:∀ v d,Rd P own h v d→Rd P own' h' v d) {vs:List Value} {ds:List D} (r:RdAll P own h vs ds):RdAll P own' h' vs ds:=r.ind .nil fun _ _ _ _ x _ ih => .cons (f _ _ x) ih
theorem RdKv.imp (f:∀ v d,Rd P own h v d→Rd P own' h' v d) {es:List DictEntry} {kvs:List (Str × D)} (r:RdKv P own h es kvs):RdKv P own' h' es kvs:=r.ind .nil fun _ _ _ _ _ _ x _ ih => .cons (f _ _ x) ih
structure Kept (own own':List Addr) (h h':Heap):Prop where
 tup:∀ a o vs n,h.get? a = some o→o.cls = .type "tuple"→o.data = .seq vs n→h'.get? a = some o
 off:∀ a o,a ∉ own→h.get? a = some o→(∀ vs,o.data ≠ .fields vs)→h'.get? a = some o∧a ∉ own'
theorem Rd.map (k:Kept own own' h h') {v:Value} {d:D} (r:Rd P own h v d):Rd P own' h' v d:=
 Rd.rec (motive_1:=fun v d _ => Rd P own' h' v d) (motive_2:=fun vs ds _ => RdAll P own' h' vs ds) (motive_3:=fun es kvs _ => RdKv P own' h' es kvs) .none (fun b => .bool b) (fun i t => .int i t) (fun x t => .str x t)
  (fun e c d _ r => .tup (k.tup _ _ _ _ e c d) c d r) (fun n e c d _ r => have q:=k.off _ _ n e (fun _ z => nomatch d.symm.trans z); .lst q.2 q.1 c d r)
  (fun n e _ r => have q:=k.off _ _ n.1 e (fun _ z => nomatch z); .dct ⟨q.2,n.2⟩ q.1 r) (fun n m e f _ r => have q:=k.off _ _ n e (fun _ z => nomatch z); have q':=k.off _ _ m f (fun _ z => nomatch z); .inst q.2 q'.2 q.1 q'.1 r)
  .nil (fun _ _ x r => .cons x r) .nil (fun _ _ x r => .cons x r) r
theorem Keep.kept (ok:OwnOk own h) (k:Keep own h h'):Kept own own h h':=
 ⟨fun a o vs n e c d => k _ _ (fun hm => by left;rcases ok a hm with ⟨o',ho,hc⟩;right; rw [e] at ho; cases ho; exact hc ⟨c,_,_,d⟩) e,fun a o n e _ => ⟨k _ _ n e,n⟩⟩
theorem Ext.kept (k:Ext h h'):Kept own own h h':=⟨fun _ _ _ _ e _ _ => k _ _ e,fun _ _ n e _ => ⟨k _ _ e,n⟩⟩
theorem kept_sub (k:∀ a ∈ own',a ∈ own):Kept own own' h h:=⟨fun _ _ _ _ e _ _ => e,fun _ _ n e _ => ⟨e,fun hm => n (k _ hm)⟩⟩
theorem not_fresh {more:List Addr} (k:∀ a ∈ more,h.get? a = Option.none) {a:Addr} {o:Obj} (n:a ∉ own) (e:h.get? a = some o):a ∉ more ++ own:=fun hm => by
  rcases List.mem_append.mp hm with hm | hm
  ·rw [k a hm] at e; cases e
  ·exact n hm
theorem kept_fresh {more:List Addr} (k:∀ a ∈ more,h.get? a = Option.none):Kept own (more ++ own) h h:=⟨fun _ _ _ _ e _ _ => e,fun _ _ n e _ => ⟨e,not_fresh k n e⟩⟩
theorem Rd.keep (ok:OwnOk own h) (k:Keep own h h') {v:Value} {d:D} (r:Rd P own h v d):Rd P own h' v d:=r.map (k.kept ok)
theorem Rd.ext (k:Ext h h') {v:Value} {d:D} (r:Rd P own h v d):Rd P own h' v d:=r.map (Ext.kept k)
theorem Rd.sub (k:∀ a ∈ own',a ∈ own) {v:Value} {d:D} (r:Rd P own h v d):Rd P own' h v d:=r.map (kept_sub k)
theorem Rd.fresh {more:List Addr} (k:∀ a ∈ more,h.get? a = Option.none) {v:Value} {d:D} (r:Rd P own h v d):Rd P (more ++ own) h v d:=r.map (kept_fresh k)
theorem RdAll.keep (ok:OwnOk own h) (k:Keep own h h') {vs:List Value} {ds:List D} (r:RdAll P own h vs ds):RdAll P own h' vs ds:=r.imp fun _ _ x => x.map (k.kept ok)
theorem RdAll.ext (k:Ext h h') {vs:List Value} {ds:List D} (r:RdAll P own h vs ds):RdAll P own h' vs ds:=r.imp fun _ _ x => x.map (Ext.kept k)
theorem RdAll.sub (k:∀ a ∈ own',a ∈ own) {vs:List Value} {ds:List D} (r:RdAll P own h vs ds):RdAll P own' h vs ds:=r.imp fun _ _ x => x.map (kept_sub k)
theorem RdAll.fresh {more:List Addr} (k:∀ a ∈ more,h.get? a = Option.none) {vs:List Value} {ds:List D} (r:RdAll P own h vs ds):RdAll P (more ++ own) h vs ds:=r.imp fun _ _ x => x.map (kept_fresh k)
theorem RdKv.keep (ok:OwnOk own h) (k:Keep own h h') {es:List DictEntry} {kvs:List (Str × D)} (r:RdKv P own h es kvs):RdKv P own h' es kvs:=r.imp fun _ _ x => x.map (k.kept ok)
theorem RdKv.ext (k:Ext h h') {es:List DictEntry} {kvs:List (Str × D)} (r:RdKv P own h es kvs):RdKv P own h' es kvs:=r.imp fun _ _ x => x.map (Ext.kept k)
theorem RdKv.sub (k:∀ a ∈ own',a ∈ own) {es:List DictEntry} {kvs:List (Str × D)} (r:RdKv P own h es kvs):RdKv P own' h es kvs:=r.imp fun _ _ x => x.map (kept_sub k)
theorem RdKv.fresh {more:List Addr} (k:∀ a ∈ more,h.get? a = Option.none) {es:List DictEntry} {kvs:List (Str × D)} (r:RdKv P own h es kvs):RdKv P (more ++ own) h es kvs:=r.imp fun _ _ x => x.map (kept_fresh k)
theorem RdAll.length {vs:List Value} {ds:List D} (r:RdAll P own h vs ds):vs.length = ds.length:=r.ind (m:=fun vs ds => vs.length = ds.length) rfl fun _ _ _ _ _ _ ih => congrArg (· + 1) ih
theorem RdAll.get {vs:List Value} {ds:List D} (r:RdAll P own h vs ds) {i:Nat} {d:D} (e:ds[i]? = some d):∃ v,vs[i]? = some v∧Rd P own h v d:=
 r.ind (m:=fun vs ds => ∀ i d,ds[i]? = some d→∃ v,vs[i]? = some v∧Rd P own h v d) (fun _ _ e => by simp at e) (fun v vs d ds x _ ih i d' e => by
  cases i with
  | zero => exact ⟨v,rfl,Option.some.inj e ▸ x⟩
  | succ i => exact ih i d' e) i d e
theorem RdAll.append {vs ws:List Value} {ds es:List D} (r:RdAll P own h vs ds) (q:RdAll P own h ws es):RdAll P own h (vs ++ ws) (ds ++ es):=r.ind (m:=fun vs ds => RdAll P own h (vs ++ ws) (ds ++ es)) q fun _ _ _ _ x _ ih => .cons x ih
theorem RdAll.reverse {vs:List Value} {ds:List D} (r:RdAll P own h vs ds):RdAll P own h vs.reverse ds.reverse:=r.ind (m:=fun vs ds => RdAll P own h vs.reverse ds.reverse) .nil fun _ _ _ _ x _ ih => by
 rw [List.reverse_cons,List.reverse_cons]
 exact ih.append (.cons x .nil)
theorem RdAll.set {vs:List Value} {ds:List D} (r:RdAll P own h vs ds) {i:Nat} {v:Value} {d:D} (x:Rd P own h v d):RdAll P own h (vs.set i v) (ds.set i d):=
 r.ind (m:=fun vs ds => ∀ i,RdAll P own h (vs.set i v) (ds.set i d)) (fun _ => .nil) (fun _ _ _ _ y r ih i => by
  cases i with
  | zero => exact .cons x r
  | succ i => exact .cons y (ih i)) i
end
end
section
open PySem PySem.W PyProof.Rows PySem.Calls PySem.Spec
theorem Keeps.refl' (s:Shared):Keeps s s:=⟨s.heap,s.toks,rfl,fun _ _ e => e⟩
theorem keeps_toks (s:Shared) (n:Nat):Keeps s { s with toks:=n }:=⟨s.heap,n,rfl,fun _ _ e => e⟩
theorem keeps_heap (s:Shared) {h:Heap} (n:Nat) (e:Ext s.heap h):Keeps s { s with heap:=h,toks:=n }:=⟨h,n,rfl,e⟩
theorem keeps_push (s:Shared) (o:Obj) (n:Nat):Keeps s { s with heap:=s.heap.push o,toks:=n }:=⟨_,n,rfl,fun _ _ e => Heap.get?_push_of_some _ e⟩
theorem Keeps.trans' {a b c:Shared} (x:Keeps a b) (y:Keeps b c):Keeps a c:=by
 left;rcases x with ⟨h,t,z0_,k⟩;right;subst z0_
 left;rcases y with ⟨h',t',z0_,k'⟩;right;subst z0_
 exact ⟨h',t',rfl,fun p o e => k' p o (k p o e)⟩
theorem Keeps.ext {a b:Shared} (x:Keeps a b):Ext a.heap b.heap:=by
 left;rcases x with ⟨h,t,z0_,k⟩;right;subst z0_
 exact k
noncomputable def lim:Nat:=100000
noncomputable def small (i:Int):Bool:=decide (i.natAbs < 2 ^ 60)
namespace D
noncomputable def int?:D→Option Int
 | .int i => some i
 | _ => Option.none
noncomputable def str?:D→Option Str
 | .str x => some x
 | _ => Option.none
noncomputable def lst?:D→Option (List D)
 | .lst x => some x
 | _ => Option.none
noncomputable def tup?:D→Option (List D)
 | .tup x => some x
 | _ => Option.none
theorem of_int? {d:D} {i:Int} (h:d.int? = some i):d = .int i:=by cases d <;> cases h; rfl
theorem of_str? {d:D} {x:Str} (h:d.str? = some x):d = .str x:=by cases d <;> cases h; rfl
theorem of_lst? {d:D} {x:List D} (h:d.lst? = some x):d = .lst x:=by cases d <;> cases h; rfl
theorem of_tup? {d:D} {x:List D} (h:d.tup? = some x):d = .tup x:=by cases d <;> cases h; rfl
end D
noncomputable def addD (b:D):D→Option D
 | .int i => b.int?.map fun j => .int (i + j)
 | .str x => b.str?.bind fun y => if x.length + y.length ≤ lim then some (.str (x ++ y)) else none
 | .lst xs => b.lst?.bind fun ys => if xs.length + ys.length ≤ lim then some (.lst (xs ++ ys)) else none
 | _ => none
noncomputable def mulD (b:D):D→Option D
 | .int i => b.int?.bind fun j => if small i then some (.int (i * j)) else none
 | .str x => b.int?.bind fun n => if x.length ≤ 1000∧-1000 ≤ n∧n ≤ 1000 then some (.str (Txt.mul x n)) else none
 | _ => none
noncomputable def intsD {α:Type} (f:Int→Int→Option α) (a b:D):Option α:=a.int?.bind fun i => b.int?.bind fun j => f i j
noncomputable def binD:Operator→D→D→Option D
 | .Add,a,b => addD b a
 | .Sub,a,b => intsD (fun i j => some (.int (i - j))) a b
 | .Mult,a,b => mulD b a
 | .FloorDiv,a,b => intsD (fun i j => if j = 0 ∨ small j = false then none else some (.int (i.fdiv j))) a b
 | .Mod,a,b => intsD (fun i j => if j = 0 then none else some (.int (i.fmod j))) a b
 | .Pow,a,b => intsD (fun i j => if i.natAbs ≤ 8∧0 ≤ j∧j ≤ 1000 then some (.int (i ^ j.toNat)) else none) a b
 | _,_,_ => none
theorem intBits_small {i:Int} (h:small i = true):Builtin.Int.intBits i ≤ 64:=by
 have h':i.natAbs < 2 ^ 60:=of_decide_eq_true h
 exact intBits_le_64 (by omega) (by omega)
theorem log2_small {i:Int} (h:small i = true):i.natAbs.log2 < 9000:=by
 have h':i.natAbs < 2 ^ 60:=of_decide_eq_true h
 by_cases z:i.natAbs = 0
 ·rw [z]; decide
 ·exact Nat.lt_of_lt_of_le ((Nat.log2_lt z).mpr h') (by decide)
section
variable {prog:Program} {w:World} {A:Around} {E:Value→Shared→Prop} {s:Shared} {P:Params} {own:List Addr} {Q:Value→Shared→Prop}
theorem Rd.int_inv {h:Heap} {v:Value} {i:Int} (r:Rd P own h v (.int i)):∃ t,v = .int i t:=by cases r; exact ⟨_,rfl⟩
theorem Rd.str_inv {h:Heap} {v:Value} {x:Str} (r:Rd P own h v (.str x)):∃ t,v = .str x t:=by cases r; exact ⟨_,rfl⟩
theorem Rd.lst_inv {h:Heap} {v:Value} {ds:List D} (r:Rd P own h v (.lst ds)):∃ a o n vs,v = .ref a∧a ∉ own∧h.get? a = some o∧o.cls = .type "list"∧o.data = .seq vs.toArray n∧RdAll P own h vs ds:=by
 cases r with | lst n e c d r => exact ⟨_,_,_,_,rfl,n,e,c,d,r⟩
theorem Rd.tup_inv {h:Heap} {v:Value} {ds:List D} (r:Rd P own h v (.tup ds)):∃ a o n vs,v = .ref a∧h.get? a = some o∧o.cls = .type "tuple"∧o.data = .seq vs.toArray n∧RdAll P own h vs ds:=by
 cases r with | tup e c d r => exact ⟨_,_,_,_,rfl,e,c,d,r⟩
theorem Rd.dct_inv {h:Heap} {v:Value} {kvs:List (Str × D)} (r:Rd P own h v (.dct kvs)):∃ a n es,v = .ref a∧(a ∉ own∧a ≠ sysModules)∧h.get? a = some { cls:=.type "dict",data:=.dict (es:List DictEntry).toArray n }∧RdKv P own h es kvs:=by
 cases r with | dct n e r => exact ⟨_,_,_,rfl,n,e,r⟩
theorem RdAll.one {h:Heap} {vs:List Value} {d:D} (r:RdAll P own h vs [d]):∃ v,vs = [v]∧Rd P own h v d:=by
 cases r with | cons x r => cases r; exact ⟨_,rfl,x⟩
theorem RdAll.two {h:Heap} {vs:List Value} {d e:D} (r:RdAll P own h vs [d,e]):∃ v u,vs = [v,u]∧Rd P own h v d∧Rd P own h u e:=by
 cases r with | cons x r => cases r with | cons y r => cases r; exact ⟨_,_,rfl,x,y⟩
theorem intsD_inv {α:Type} {f:Int→Int→Option α} {a b:D} {d:α} (h:intsD f a b = some d):∃ i j,a = .int i∧b = .int j∧f i j = some d:=by
 left;rcases Option.bind_eq_some_iff.mp h with ⟨i,hi,h⟩;right
 left;rcases Option.bind_eq_some_iff.mp h with ⟨j,hj,h⟩;right
 exact ⟨i,j,D.of_int? hi,D.of_int? hj,h⟩
theorem addD_inv {a b d:D} (h:addD b a = some d):(∃ i j,a = .int i∧b = .int j∧d = .int (i + j)) ∨ (∃ x y,a = .str x∧b = .str y∧x.length + y.length ≤ lim∧d = .str (x ++ y)) ∨ ∃ xs ys,a = .lst xs∧b = .lst ys∧xs.length + ys.length ≤ lim∧d = .lst (xs ++ ys):=by
 cases a with
 | int i =>
  left;rcases Option.map_eq_some_iff.mp h with ⟨j,hj,z0_⟩;right;subst z0_
  exact .inl ⟨i,j,rfl,D.of_int? hj,rfl⟩
 | str x =>
  left;rcases Option.bind_eq_some_iff.mp h with ⟨y,hy,h⟩;right
  split at h <;> cases h
  exact .inr (.inl ⟨x,y,rfl,D.of_str? hy,‹_›,rfl⟩)
 | lst xs =>
  left;rcases Option.bind_eq_some_iff.mp h with ⟨ys,hy,h⟩;right
  split at h <;> cases h
  exact .inr (.inr ⟨xs,ys,rfl,D.of_lst? hy,‹_›,rfl⟩)
 | _ => cases h
theorem mulD_inv {a b d:D} (h:mulD b a = some d):(∃ i j,a = .int i∧b = .int j∧small i = true∧d = .int (i * j)) ∨ ∃ x n,a = .str x∧b = .int n∧(x.length ≤ 1000∧-1000 ≤ n∧n ≤ 1000)∧d = .str (Txt.mul x n):=by
 cases a with
 | int i =>
  left;rcases Option.bind_eq_some_iff.mp h with ⟨j,hj,h⟩;right
  split at h <;> cases h
  exact .inl ⟨i,j,rfl,D.of_int? hj,‹_›,rfl⟩
 | str x =>
  left;rcases Option.bind_eq_some_iff.mp h with ⟨n,hn,h⟩;right
  split at h <;> cases h
  exact .inr ⟨x,n,rfl,D.of_int? hn,‹_›,rfl⟩
 | _ => cases h
noncomputable def Held (own:List Addr) (h:Heap):Prop:=∀ a ∈ own,a < h.objs.size
theorem OwnOk.held {h:Heap} (x:OwnOk own h):Held own h:=fun a ha => by left;rcases x a ha with ⟨o,ho,_⟩;right; exact Heap.lt_size ho
theorem Held.new {h:Heap} (x:Held own h):h.objs.size ∉ own:=fun hm => Nat.lt_irrefl _ (x _ hm)
theorem rd_newList {h:Heap} {vs:List Value} {ds:List D} {n:Nat} (x:Held own h) (r:RdAll P own h vs ds) :
  Rd P own (h.push { cls:=.type "list",data:=.seq vs.toArray n }) (.ref h.objs.size) (.lst ds):=
 .lst x.new (Heap.get?_push_size _ rfl) rfl rfl (RdAll.ext (ext_push _ _) r)
theorem rd_newTup {h:Heap} {vs:List Value} {ds:List D} {n:Nat} (r:RdAll P own h vs ds) :
  Rd P own (h.push { cls:=.type "tuple",data:=.seq vs.toArray n }) (.ref h.objs.size) (.tup ds):=
 .tup (Heap.get?_push_size _ rfl) rfl rfl (RdAll.ext (ext_push _ _) r)
theorem lim_line:lim ≤ sizeLine:=by decide
theorem add_sound {va vb:Value} {da db d:D} (hd:addD db da = some d) (ok:OwnOk own s.heap) (ra:Rd P own s.heap va da) (rb:Rd P own s.heap vb db)
  (h:∀ v s',Keeps s s'→Rd P own s'.heap v d→Q v s'):wpAny (model prog w) A (binaryOp .Add va vb) Q E s:=by
 rcases addD_inv hd with ⟨i,j,rfl,rfl,rfl⟩ | ⟨x,y,rfl,rfl,hs,rfl⟩ | ⟨xs,ys,rfl,rfl,hs,rfl⟩
 ·obtain ⟨_,rfl⟩:=ra.int_inv
  obtain ⟨_,rfl⟩:=rb.int_inv
  exact wpAny_add_int (h _ _ (keeps_toks _ _) (.int _ _))
 ·obtain ⟨_,rfl⟩:=ra.str_inv
  obtain ⟨_,rfl⟩:=rb.str_inv
  exact SBL.add (fun t' k _ => h _ _ (keeps_toks _ _) (.str _ _)) (Nat.le_trans hs lim_line)
 ·left;rcases ra.lst_inv with ⟨a,⟨_,dd,_,sl⟩,nA,vs,z0_,na,ea,z1_,z2_,xa⟩;right;subst z0_;subst z1_;subst z2_
  left;rcases rb.lst_inv with ⟨b,⟨_,dd2,_,sl2⟩,nB,ws,z0_,nb,eb,z1_,z2_,xb⟩;right;subst z0_;subst z1_;subst z2_
  have e:vs.toArray ++ ws.toArray = (vs ++ ws).toArray:=List.append_toArray ..
  refine concat_meets ⟨_,ea,rfl⟩ ⟨_,eb,rfl⟩ noFill_list_add seq_list_add PySem.F.slot_list_add PySem.F.entry_list_add (PySem.F.args_list_add_2 _ _)
   (list_addW a b vs.toArray ws.toArray nA nB dd dd2 sl sl2 (by rw [List.size_toArray,List.size_toArray,xa.length,xb.length]; exact Nat.le_trans hs lim_line)) ⟨ea,eb,?_⟩
  rw [e]
  exact h _ _ (keeps_push _ _ _) (rd_newList ok.held (xa.append xb))
theorem mul_ok {x:Str} {n:Int} (hs:x.length ≤ 1000∧-1000 ≤ n∧n ≤ 1000) (h1:0 < n):(x.length:Int) ≤ 9223372036854775807 / n:=by
 rw [Int.le_ediv_iff_mul_le h1]
 have:(x.length:Int) * n ≤ 1000 * 1000:=Int.mul_le_mul (by omega) hs.2.2 (by omega) (by decide)
 omega
theorem mult_sound {va vb:Value} {da db d:D} (hd:mulD db da = some d) (ra:Rd P own s.heap va da) (rb:Rd P own s.heap vb db)
  (h:∀ v s',Keeps s s'→Rd P own s'.heap v d→Q v s'):wpAny (model prog w) A (binaryOp .Mult va vb) Q E s:=by
 rcases mulD_inv hd with ⟨i,j,rfl,rfl,hs,rfl⟩ | ⟨x,n,rfl,rfl,hs,rfl⟩
 ·obtain ⟨_,rfl⟩:=ra.int_inv
  obtain ⟨_,rfl⟩:=rb.int_inv
  exact mul_int (h _ _ (keeps_toks _ _) (.int _ _)) (IntMulOk.of_left (intBits_small hs))
 ·obtain ⟨_,rfl⟩:=ra.str_inv
  obtain ⟨_,rfl⟩:=rb.int_inv
  refine SB.mul ⟨by simp; omega,fun h1 _ => Int.not_lt.mpr (mul_ok hs (by omega)),fun h1 _ => ?_⟩ fun t' k => h _ _ (keeps_toks _ _) (.str _ _)
  have h2:x.length * n.toNat ≤ 1000 * 1000:=Nat.mul_le_mul hs.1 (by omega)
  unfold Builtin.Str.tooLong sizeLine
  exact decide_eq_false (by omega)
set_option tactic.hygienic true in
theorem binD_sound {op:Operator} {va vb:Value} {da db d:D} (hd:binD op da db = some d) (ok:OwnOk own s.heap) (ra:Rd P own s.heap va da) (rb:Rd P own s.heap vb db)
  (h:∀ v s',Keeps s s'→Rd P own s'.heap v d→Q v s'):wpAny (model prog w) A (binaryOp op va vb) Q E s:=by
 have hi:∀ {f:Int→Int→Option D} (op:Operator),(∀ i j t u,f i j = some d→wpAny (model prog w) A (binaryOp op (.int i t) (.int j u)) Q E s)→intsD f da db = some d→wpAny (model prog w) A (binaryOp op va vb) Q E s:=fun op k hd => by
  left;rcases intsD_inv hd with ⟨i,j,z0_,z1_,hf⟩;right;subst z0_;subst z1_
  obtain ⟨t,rfl⟩:=ra.int_inv
  obtain ⟨u,rfl⟩:=rb.int_inv
  exact k i j t u hf
 cases op with
 | Add => exact add_sound hd ok ra rb h
 | Mult => exact mult_sound hd ra rb h
 | Sub => exact hi _ (fun i j t u hf => by cases hf; exact sub_int' (h _ _ (keeps_toks _ _) (.int _ _))) hd
 | FloorDiv =>
  refine hi _ (fun i j t u hf => ?_) hd
  split at hf <;> cases hf
  rename_i hs
  rw [not_or] at hs
  exact floordiv_int hs.1 (h _ _ (keeps_toks _ _) (.int _ _)) (.inl (PyProof.noPylong_of_log2 (log2_small (by simpa using hs.2))))
 | Mod =>
  refine hi _ (fun i j t u hf => ?_) hd
  split at hf <;> cases hf
  exact mod_int' ‹_› (h _ _ (keeps_toks _ _) (.int _ _))
 | Pow =>
  refine hi _ (fun i j t u hf => ?_) hd
  split at hf <;> cases hf
  rename_i hs
  have hb:Builtin.Int.intBits i ≤ 64:=intBits_le_64 (by omega) (by omega)
  refine pow_int hs.2.1 ?_ (h _ _ (keeps_toks _ _) (.int _ _))
  have h1:(Builtin.Int.intBits i:Int) * j ≤ 64 * j:=Int.mul_le_mul_of_nonneg_right (by omega) hs.2.1
  omega
 | _ => cases hd
end
end
section
open PySem PySem.W PyProof.Rows PySem.Calls PySem.Spec
mutual
noncomputable def toPy:D→PyData
 | .none => .none
 | .bool b => .bool b
 | .int i => .int i
 | .str x => .str x
 | .tup ds => .tuple (toPys ds)
 | .lst ds => .list (toPys ds)
 | .dct _ => .dict []
 | .inst _ _ => .dict []
noncomputable def toPys:List D→List PyData
 | [] => []
 | d :: r => toPy d :: toPys r
end
noncomputable def okD (d:D):Bool:=(toPy d).canLay0 && decide ((toPy d).depth ≤ 64)
noncomputable def eqD (a b:D):Bool:=PyData.eqv (toPy a) (toPy b)
noncomputable def inStr (y x:Str):Bool:=!(Builtin.Str.occurrences x y 0 x.length 1).isEmpty
noncomputable def isNone:D→Bool
 | .none => true
 | _ => false
noncomputable def eqC (b:D):D→Option Bool
 | .int i => b.int?.map fun j => i == j
 | .str x => b.str?.map fun y => x.cps.toList == y.cps.toList
 | .lst xs => b.lst?.bind fun ys => if okD (.lst xs) && okD (.lst ys) then some (eqD (.lst xs) (.lst ys)) else none
 | .tup xs => b.tup?.bind fun ys => if okD (.tup xs) && okD (.tup ys) then some (eqD (.tup xs) (.tup ys)) else none
 | _ => none
noncomputable def neC:D→D→Option Bool
 | .int i,b => b.int?.map fun j => i != j
 | .str x,b => b.str?.map fun y => x.cps.toList != y.cps.toList
 | .bool x,.bool y => some (x != y)
 | _,_ => none
noncomputable def inC (d:D):D→Option Bool
 | .str x => d.str?.map fun y => inStr y x
 | .lst xs => if okD d && (PyData.canLayAll0 (toPys xs)) then some ((toPys xs).any fun y => PyData.eqv y (toPy d)) else none
 | _ => none
noncomputable def cmpD (op:CmpOp) (a b:D):Option Bool:=match op with
 | .Eq => eqC b a
 | .NotEq => neC a b
 | .Lt => intsD (fun i j => some (decide (i < j))) a b
 | .LtE => intsD (fun i j => some (decide (i ≤ j))) a b
 | .Gt => intsD (fun i j => some (decide (i > j))) a b
 | .GtE => intsD (fun i j => some (decide (i ≥ j))) a b
 | .In => inC a b
 | .Is => if isNone b then some (isNone a) else none
 | .IsNot => if isNone b then some (!isNone a) else none
 | _ => none
noncomputable def truthD:D→Option Bool
 | .none => some false
 | .bool b => some b
 | .int i => some (i != 0)
 | .str x => if x.length ≤ lim then some ((x.length:Int) != 0) else none
 | _ => none
section
variable {prog:Program} {w:World} {A:Around} {E:Value→Shared→Prop} {s:Shared} {P:Params} {own:List Addr}
theorem Rd.reads {h:Heap} {v:Value} {d:D} (r:Rd P own h v d) (ok:(toPy d).canLay0 = true):∃ as,Reads h v (toPy d) as:=
 Rd.rec (motive_1:=fun v d _ => (toPy d).canLay0 = true→∃ as,Reads h v (toPy d) as) (motive_2:=fun vs ds _ => PyData.canLayAll0 (toPys ds) = true→∃ as,ReadsAll h vs (toPys ds) as) (motive_3:=fun _ _ _ => True) (fun _ => ⟨_,.none⟩) (fun b _ => ⟨_,.bool b⟩) (fun i t _ => ⟨_,.int i t⟩) (fun x t _ => ⟨_,.str x t⟩)
  (fun e c d _ r ok => (r ok).elim fun _ q => ⟨_,.tuple e c d q⟩) (fun _ e c d _ r ok => (r ok).elim fun _ q => ⟨_,.list e c d q⟩) (fun _ _ _ _ f => nomatch f) (fun _ _ _ _ _ _ f => nomatch f)
  (fun _ => ⟨_,.nil⟩) (fun _ _ x r ok => (x (Bool.and_eq_true_iff.mp ok).1).elim fun _ q => (r (Bool.and_eq_true_iff.mp ok).2).elim fun _ q' => ⟨_,.cons q q'⟩) trivial (fun _ _ _ _ => trivial) r ok
theorem is_none_value {h:Heap} {v:Value} {d:D} (r:Rd P own h v d):(v == Value.none) = isNone d:=by
 cases r <;> rfl
theorem reads_eq {va vb:Value} {da db:D} {Q:Value→Shared→Prop} (hs:(okD da && okD db) = true) (ra:Rd P own s.heap va da) (rb:Rd P own s.heap vb db) (hu:A.units + 128 < cLine)
  (h:Q (.bool (eqD da db)) s):wpAny (model prog w) A (compareOp .Eq va vb) Q E s:=by
 obtain ⟨h1,h2⟩:=Bool.and_eq_true_iff.mp hs
 obtain ⟨h1,h3⟩:=Bool.and_eq_true_iff.mp h1
 obtain ⟨h2,_⟩:=Bool.and_eq_true_iff.mp h2
 have h3:=of_decide_eq_true h3
 obtain ⟨as,qa⟩:=ra.reads h1
 obtain ⟨bs,qb⟩:=rb.reads h2
 exact PySem.SeqAt.compareEq_reads qa qb h1 h2 (by omega) h
theorem eq_sound {va vb:Value} {da db:D} {b:Bool} {Q:Value→Shared→Prop} (hd:eqC db da = some b) (ra:Rd P own s.heap va da) (rb:Rd P own s.heap vb db) (hu:A.units + 128 < cLine)
  (h:Q (.bool b) s):wpAny (model prog w) A (compareOp .Eq va vb) Q E s:=by
 have seq:∀ x y:D,da = x→db = y→(if okD x && okD y then some (eqD x y) else none) = some b→wpAny (model prog w) A (compareOp .Eq va vb) Q E s:=fun x y e1 e2 q => by
  subst e1 e2
  split at q <;> cases q
  exact reads_eq ‹_› ra rb hu h
 cases da with
 | int i =>
  left;rcases Option.map_eq_some_iff.mp hd with ⟨j,hj,z0_⟩;right;subst z0_
  cases D.of_int? hj
  obtain ⟨_,rfl⟩:=ra.int_inv
  obtain ⟨_,rfl⟩:=rb.int_inv
  exact PyProof.Rows.eq_int h
 | str x =>
  left;rcases Option.map_eq_some_iff.mp hd with ⟨j,hj,z0_⟩;right;subst z0_
  cases D.of_str? hj
  obtain ⟨_,rfl⟩:=ra.str_inv
  obtain ⟨_,rfl⟩:=rb.str_inv
  exact PySem.P.eq_str h
 | lst xs =>
  left;rcases Option.bind_eq_some_iff.mp hd with ⟨ys,hj,hd⟩;right
  exact seq _ _ rfl (D.of_lst? hj) hd
 | tup xs =>
  left;rcases Option.bind_eq_some_iff.mp hd with ⟨ys,hj,hd⟩;right
  exact seq _ _ rfl (D.of_tup? hj) hd
 | _ => cases hd
theorem ne_sound {va vb:Value} {da db:D} {b:Bool} {Q:Value→Shared→Prop} (hd:neC da db = some b) (ra:Rd P own s.heap va da) (rb:Rd P own s.heap vb db) (hu:A.units + 128 < cLine)
  (h:Q (.bool b) s):wpAny (model prog w) A (compareOp .NotEq va vb) Q E s:=by
 cases da with
 | int i =>
  left;rcases Option.map_eq_some_iff.mp hd with ⟨j,hj,z0_⟩;right;subst z0_
  cases D.of_int? hj
  obtain ⟨_,rfl⟩:=ra.int_inv
  obtain ⟨_,rfl⟩:=rb.int_inv
  exact PyProof.Rows.ne_int h
 | str x =>
  left;rcases Option.map_eq_some_iff.mp hd with ⟨j,hj,z0_⟩;right;subst z0_
  cases D.of_str? hj
  obtain ⟨_,rfl⟩:=ra.str_inv
  obtain ⟨_,rfl⟩:=rb.str_inv
  exact PySem.P.ne_str h
 | bool x =>
  cases db with
  | bool y =>
   cases ra; cases rb; cases hd
   exact PySem.SeqAt.compareNe_reads (.bool _) (.bool _) rfl rfl (by simp [PyData.depth]; omega) (by simp only [PyData.eqv]; exact h)
  | _ => cases hd
 | _ => cases hd
set_option tactic.hygienic true in
theorem in_sound {va vb:Value} {da db:D} {b:Bool} {Q:Value→Shared→Prop} (hd:inC da db = some b) (ra:Rd P own s.heap va da) (rb:Rd P own s.heap vb db) (hu:A.units + 128 < cLine)
  (h:Q (.bool b) s):wpAny (model prog w) A (compareOp .In va vb) Q E s:=by
 cases db with
 | str x =>
  left;rcases Option.map_eq_some_iff.mp hd with ⟨j,hj,z0_⟩;right;subst z0_
  cases D.of_str? hj
  obtain ⟨_,rfl⟩:=ra.str_inv
  obtain ⟨_,rfl⟩:=rb.str_inv
  exact PySem.P.in_str h
 | lst xs =>
  have hd:(if okD da && (PyData.canLayAll0 (toPys xs)) then some ((toPys xs).any fun y => PyData.eqv y (toPy da)) else none) = some b:=hd
  split at hd <;> cases hd
  rename_i hs
  obtain ⟨h1,h2⟩:=Bool.and_eq_true_iff.mp hs
  obtain ⟨h1,h3⟩:=Bool.and_eq_true_iff.mp h1
  have h3:=of_decide_eq_true h3
  obtain ⟨as,qa⟩:=ra.reads h1
  obtain ⟨bs,qb⟩:=rb.reads (show (toPy (.lst xs)).canLay0 = true from h2)
  exact PySem.SeqAt.in_list_reads qb qa h2 h1 (by omega) h
 | _ => cases hd
theorem cmpD_sound {op:CmpOp} {va vb:Value} {da db:D} {b:Bool} {Q:Value→Shared→Prop} (hd:cmpD op da db = some b) (ra:Rd P own s.heap va da) (rb:Rd P own s.heap vb db) (hu:A.units + 128 < cLine)
  (h:Q (.bool b) s):wpAny (model prog w) A (compareOp op va vb) Q E s:=by
 have hi:∀ {f:Int→Int→Option Bool} (op:CmpOp),(∀ i j t u,f i j = some b→wpAny (model prog w) A (compareOp op (.int i t) (.int j u)) Q E s)→intsD f da db = some b→wpAny (model prog w) A (compareOp op va vb) Q E s:=fun op k hd => by
  left;rcases intsD_inv hd with ⟨i,j,z0_,z1_,hf⟩;right;subst z0_;subst z1_
  obtain ⟨t,rfl⟩:=ra.int_inv
  obtain ⟨u,rfl⟩:=rb.int_inv
  exact k i j t u hf
 have hn:isNone db = true→vb = .none:=fun q => by
  cases db with
  | none => cases rb; rfl
  | _ => cases q
 cases op with
 | Eq => exact eq_sound hd ra rb hu h
 | NotEq => exact ne_sound hd ra rb hu h
 | In => exact in_sound hd ra rb hu h
 | Lt => exact hi _ (fun i j t u hf => by cases hf; exact wpAny_lt_int h) hd
 | LtE => exact hi _ (fun i j t u hf => by cases hf; exact PyProof.Rows.le_int h) hd
 | Gt => exact hi _ (fun i j t u hf => by cases hf; exact PyProof.Rows.gt_int h) hd
 | GtE => exact hi _ (fun i j t u hf => by cases hf; exact PyProof.Rows.ge_int h) hd
 | Is =>
  have hd:(if isNone db then some (isNone da) else none) = some b:=hd
  split at hd <;> cases hd
  cases hn ‹_›
  refine is_none ?_
  rw [is_none_value ra]; exact h
 | IsNot =>
  have hd:(if isNone db then some (!isNone da) else none) = some b:=hd
  split at hd <;> cases hd
  cases hn ‹_›
  refine isNot_none ?_
  rw [is_none_value ra]; exact h
 | _ => cases hd
set_option tactic.hygienic true in
theorem truthD_sound {v:Value} {d:D} {b:Bool} {Q:Bool→Shared→Prop} (hd:truthD d = some b) (r:Rd P own s.heap v d) (h:∀ s',Keeps s s'→Q b s'):wpAny (model prog w) A (truthy v) Q E s:=by
 unfold truthD at hd
 split at hd
 ·cases r; cases hd; exact truthy_none (h _ (Keeps.refl' _))
 ·cases r; cases hd; exact wpAny_truthy_bool (h _ (Keeps.refl' _))
 ·cases r; cases hd; exact PyProof.Rows.truthy_int (h _ (Keeps.refl' _))
 ·split at hd
  ·rename_i hs
   cases r; cases hd
   exact PySem.P.truthy_str (by have:lim = 100000:=rfl; omega) (h _ (keeps_toks _ _))
  ·cases hd
 ·cases hd
end
end
section
open PySem PySem.W PyProof.Rows PySem.Calls PySem.Spec
noncomputable def idx (k:Int) (n:Nat):Option Nat:=if 0 ≤ k then (if k.toNat < n then some k.toNat else none) else if -(n:Int) ≤ k then some (k + n).toNat else none
noncomputable def itemD (a b:D):Option D:=match a with
 | .lst ds => b.int?.bind fun k => if ds.length ≤ lim then (idx k ds.length).bind (ds[·]?) else none
 | .tup ds => b.int?.bind fun k => if ds.length ≤ lim then (idx k ds.length).bind (ds[·]?) else none
 | .str x => b.int?.bind fun k => if x.length ≤ lim then (idx k x.length).bind fun i => (x.cps[i]?).map fun c => .str ⟨#[c]⟩ else none
 | .dct kvs => b.str?.bind fun k => kvs.lookup k
 | _ => none
noncomputable def pickD (ds:List D) (lo hi st:Option Int):List D:=
 (sliceRange (sliceBounds lo hi st ds.length).1 (sliceBounds lo hi st ds.length).2.1 (sliceBounds lo hi st ds.length).2.2).filterMap (ds[·]?)
noncomputable def sliceD:D→Option Int→Option Int→Option Int→Option D
 | .lst ds,lo,hi,st => if ds.length ≤ lim∧st ≠ some 0 then some (.lst (pickD ds lo hi st)) else none
 | .str x,lo,hi,none => if x.length ≤ lim then some (.str (Txt.slice x lo hi)) else none
 | _,_,_,_ => none
set_option tactic.hygienic true in
theorem idx_seq {k:Int} {n i:Nat} (h:idx k n = some i):seqIndex? k n = some i:=by
 unfold idx at h
 unfold seqIndex?
 by_cases h0:0 ≤ k
 ·rw [if_pos h0] at h
  split at h
  ·rename_i h1
   cases h
   have:¬ k < 0:=by omega
   simp only [this,if_false]
   rw [if_pos (by simp only [Bool.and_eq_true,decide_eq_true_eq]; omega)] at ⊢
  ·cases h
 ·rw [if_neg h0] at h
  split at h
  ·rename_i h1
   cases h
   have:k < 0:=by omega
   simp only [this,if_true]
   rw [if_pos (by simp only [Bool.and_eq_true,decide_eq_true_eq]; omega)] at ⊢
  ·cases h
theorem idx_bounds {k:Int} {n i:Nat} (h:idx k n = some i):-(n:Int) ≤ k∧k < n∧i < n:=by
 unfold idx at h
 split at h
 ·split at h
  ·cases h; omega
  ·cases h
 ·split at h
  ·cases h; omega
  ·cases h
section
variable {prog:Program} {w:World} {A:Around} {E:Value→Shared→Prop} {s:Shared} {own:List Addr} {Q:Value→Shared→Prop}
theorem RdKv.lookup {h:Heap} {P:Params} {es:List DictEntry} {kvs:List (Str × D)} {k:Str} {d:D} (r:RdKv P own h es kvs):kvs.lookup k = some d→∃ v,nsFind es.toArray k = some v∧Rd P own h v d:=
 r.ind (m:=fun es kvs => kvs.lookup k = some d→∃ v,nsFind es.toArray k = some v∧Rd P own h v d) (fun e => nomatch e) fun k' t v d' es kvs x _ ih e => by
  rw [List.lookup_cons] at e
  by_cases hk:k = k'
  ·subst hk
   rw [beq_self_eq_true] at e
   cases e
   exact ⟨v,by simp [nsFind,findBy,Value.isStr],x⟩
  ·rw [beq_false_of_ne hk] at e
   left;rcases ih e with ⟨u,hu,hr⟩;right
   refine ⟨u,?_,hr⟩
   simp only [nsFind,findBy,List.find?_toArray,List.find?_cons,Value.isStr,beq_false_of_ne (Ne.symm hk)] at hu ⊢
   exact hu
theorem isStrOf_refl (k:Str) (t:Tok):Value.isStrOf k (.str k t) = true:=by simp [Value.isStrOf]
theorem RdKv.keysOf {h:Heap} {es:List DictEntry} {kvs:List (Str × D)} (r:RdKv w.params own h es kvs):KeysOf (PySem.strKind prog w) es.toArray:=by
 have:∀ e ∈ es,∃ k,(PySem.strKind prog w).is k e.key = true∧e.hash = (PySem.strKind prog w).hash k:=r.ind (m:=fun es _ => ∀ e ∈ es,∃ k,(PySem.strKind prog w).is k e.key = true∧e.hash = (PySem.strKind prog w).hash k) (fun _ he => nomatch he) fun k t v d es kvs _ _ ih e he => by
  rcases List.mem_cons.mp he with rfl | he
  ·exact ⟨k,isStrOf_refl k t,rfl⟩
  ·exact ih e he
 exact fun e he => this e (List.mem_toArray.mp he)
theorem findBy_isStrOf {h:Heap} {P:Params} {es:List DictEntry} {kvs:List (Str × D)} (_r:RdKv P own h es kvs) (k:Str):findBy (PySem.strKind prog w).is es.toArray k = nsFind es.toArray k:=by
 have e:(PySem.strKind prog w).is = fun n v => Value.isStr v n:=by
  funext n v
  cases v <;> simp [PySem.strKind,Value.isStrOf,Value.isStr] <;> rfl
 rw [e]; rfl
theorem itemD_sound {v i:Value} {dv di d:D} {P:Params} (hP:P = w.params) (hd:itemD dv di = some d) (rv:Rd P own s.heap v dv) (ri:Rd P own s.heap i di)
  (h:∀ u s',Keeps s s'→Rd P own s'.heap u d→Q u s'):wpAny (model prog w) A (getItem v i) Q E s:=by
 have hl:lim = 100000:=rfl
 cases dv with
 | lst ds =>
  left;rcases Option.bind_eq_some_iff.mp hd with ⟨k,hk,hq⟩;right
  cases D.of_int? hk
  obtain ⟨_,rfl⟩:=ri.int_inv
  left;rcases rv.lst_inv with ⟨a,o,n,vs,z0_,na,ea,ca,da,xa⟩;right;subst z0_
  clear hd
  split at hq
  ·left;rcases Option.bind_eq_some_iff.mp hq with ⟨j,hj,hd⟩;right
   left;rcases xa.get hd with ⟨u,hu,hr⟩;right
   left;rcases idx_bounds hj with ⟨b1,b2,b3⟩;right
   have hlen:=xa.length
   have hIs:s.heap.IsList a vs.toArray:=⟨_,ea,ca,_,da⟩
   have hq:=h u s (Keeps.refl' s) hr
   unfold idx at hj
   split at hj
   ·split at hj <;> cases hj
    exact wpAny_getItem_list hIs (by omega) (by omega) (by simpa using hu) hq
   ·cases hj
    refine wpAny_getItem_list_neg hIs (by omega) (by simp; omega) (by omega) ?_ hq
    have e:(vs.toArray.size:Int) = (ds.length:Int):=by simp; omega
    rw [e]
    simpa using hu
  ·cases hq
 | tup ds =>
  left;rcases Option.bind_eq_some_iff.mp hd with ⟨k,hk,hq⟩;right
  cases D.of_int? hk
  obtain ⟨_,rfl⟩:=ri.int_inv
  left;rcases rv.tup_inv with ⟨a,o,n,vs,z0_,ea,ca,da,xa⟩;right;subst z0_
  clear hd
  split at hq
  ·left;rcases Option.bind_eq_some_iff.mp hq with ⟨j,hj,hd⟩;right
   left;rcases xa.get hd with ⟨u,hu,hr⟩;right
   left;rcases idx_bounds hj with ⟨b1,b2,b3⟩;right
   have hlen:=xa.length
   exact getItem_tuple ⟨_,ea,ca,_,da⟩ (by omega) (by omega) (by rw [List.size_toArray,hlen]; exact idx_seq hj) (by simpa using hu) (h u s (Keeps.refl' s) hr)
  ·cases hq
 | str x =>
  left;rcases Option.bind_eq_some_iff.mp hd with ⟨k,hk,hq⟩;right
  cases D.of_int? hk
  obtain ⟨_,rfl⟩:=ri.int_inv
  obtain ⟨_,rfl⟩:=rv.str_inv
  clear hd
  split at hq
  ·left;rcases Option.bind_eq_some_iff.mp hq with ⟨j,hj,hd⟩;right
   left;rcases Option.map_eq_some_iff.mp hd with ⟨c,hc,z0_⟩;right;subst z0_
   left;rcases idx_bounds hj with ⟨b1,b2,b3⟩;right
   refine PySem.P.getItem_str (c:=c) (by simp; omega) ?_ (h _ _ (keeps_toks _ _) (.str _ _))
   rw [idx_seq hj]; exact hc
  ·cases hq
 | dct kvs =>
  left;rcases Option.bind_eq_some_iff.mp hd with ⟨k,hk,hq⟩;right
  cases D.of_str? hk
  obtain ⟨t,rfl⟩:=ri.str_inv
  left;rcases rv.dct_inv with ⟨_,_,_,z0_,na,ea,xa⟩;right;subst z0_
  subst hP
  left;rcases xa.lookup hq with ⟨v,hv,hr⟩;right
  exact wpAny_getItem_of (knd:=PySem.strKind prog w) (k:=k) (isStrOf_refl k t) ⟨_,_,_,ea,⟨rfl,rfl,rfl⟩,rfl,xa.keysOf,fun k => findBy_isStrOf xa k⟩ hv (h _ _ (keeps_toks _ _) (Rd.ext (fun _ _ e => e) hr))
 | _ => cases hd
theorem filterMap_get {P:Params} {h:Heap} {vs:List Value} {ds:List D} (r:RdAll P own h vs ds):∀ is:List Nat,RdAll P own h (is.filterMap (vs[·]?)) (is.filterMap (ds[·]?))
 | [] => .nil
 | i :: is => by
  have ih:=filterMap_get r is
  have hl:=r.length
  by_cases hi:i < ds.length
  ·have e:ds[i]? = some ds[i]:=List.getElem?_eq_getElem hi
   left;rcases r.get e with ⟨v,hv,hr⟩;right
   simp only [List.filterMap_cons,e,hv]
   exact .cons hr ih
  ·have e:ds[i]? = none:=List.getElem?_eq_none (by omega)
   have e':vs[i]? = none:=List.getElem?_eq_none (by omega)
   simp only [List.filterMap_cons,e,e']
   exact ih
noncomputable def partD:Option Int→Value→Prop
 | none,v => v = .none
 | some i,v => ∃ t,v = .int i t
theorem partD_isPart {p:Option Int} {v:Value} (h:partD p v):IsPart v p:=by
 cases p with
 | none => cases h; exact .none
 | some i => obtain ⟨t,rfl⟩:=h; exact .int i t
set_option tactic.hygienic true in
theorem sliceD_sound {v a:Value} {vl vu vs:Value} {lo hi st:Option Int} {dv d:D} {P:Params} {sl:Addr} (hd:sliceD dv lo hi st = some d) (rv:Rd P own s.heap v dv) (ok:OwnOk own s.heap)
  (hs:s.heap.IsSliceOf sl vl vu vs) (pl:partD lo vl) (pu:partD hi vu) (ps:partD st vs)
  (h:∀ u s',Keeps s s'→Rd P own s'.heap u d→Q u s'):wpAny (model prog w) A (getItem v (.ref sl)) Q E s:=by
 unfold sliceD at hd
 have hlim:=lim_line
 split at hd
 ·split at hd
  ·rename_i ds hc
   cases hd
   left;rcases rv.lst_inv with ⟨a,o,n,ws,z0_,na,ea,ca,da,xa⟩;right;subst z0_
   have hlen:=xa.length
   refine wpAny_getItem_list_slice ⟨_,ea,ca,_,da⟩ hs (partD_isPart pl) (partD_isPart pu) (partD_isPart ps) hc.2 (h _ _ (keeps_push _ _ _) ?_) (by simp; omega)
   have:=filterMap_get xa (sliceRange (sliceBounds lo hi st ds.length).1 (sliceBounds lo hi st ds.length).2.1 (sliceBounds lo hi st ds.length).2.2)
   have e:slicePick ws.toArray lo hi st = ((sliceRange (sliceBounds lo hi st ds.length).1 (sliceBounds lo hi st ds.length).2.1 (sliceBounds lo hi st ds.length).2.2).filterMap (ws[·]?)).toArray:=by
    unfold slicePick
    rw [List.size_toArray,hlen]
    simp
   rw [e]
   exact rd_newList ok.held this
  ·cases hd
 ·split at hd
  ·rename_i x hc
   cases hd
   cases rv
   rename_i t
   have e1:vs = .none:=ps
   subst e1
   have key:∀ (l u:Option (Int × Tok)),l.map (·.1) = lo→u.map (·.1) = hi→partValue l = vl→partValue u = vu→wpAny (model prog w) A (getItem (.str x t) (.ref sl)) Q E s:=by
    rintro l u rfl rfl rfl rfl
    refine wpAny_getItem_str_slice (l:=l) (u:=u) (st:=none) hs rfl ?_
    unfold sliceMade
    have e2:slicePicked x l u none = Builtin.Str.strSliceIndices (l.map (·.1)) (u.map (·.1)) 1 x.length:=rfl
    rw [e2]
    unfold Txt.slice at h
    split
    ·rename_i hc'
     have hc2:((1:Int) == 1 && (Builtin.Str.strSliceIndices (l.map (·.1)) (u.map (·.1)) 1 x.length).length == x.length) = true:=by simpa using hc'
     rw [if_pos hc2] at h
     exact h _ s (Keeps.refl' s) (.str x t)
    ·rename_i hc'
     have hc2:¬ ((1:Int) == 1 && (Builtin.Str.strSliceIndices (l.map (·.1)) (u.map (·.1)) 1 x.length).length == x.length) = true:=by simpa using hc'
     rw [if_neg hc2] at h
     refine ⟨?_,h _ _ (keeps_toks _ _) (.str _ _)⟩
     have h3:((Builtin.Str.strSliceIndices (l.map (·.1)) (u.map (·.1)) 1 x.length).filterMap (x.cps[·]?)).length ≤ (Builtin.Str.strSliceIndices (l.map (·.1)) (u.map (·.1)) 1 x.length).length:=List.length_filterMap_le _ _
     have h4:=sliceIndices_le (l.map (·.1)) (u.map (·.1)) x.length
     show ((Builtin.Str.strSliceIndices (l.map (·.1)) (u.map (·.1)) 1 x.length).filterMap (x.cps[·]?)).toArray.size ≤ sizeLine
     rw [List.size_toArray]
     omega
   cases lo with
   | none =>
    cases hi with
    | none => exact key none none rfl rfl pl.symm pu.symm
    | some j => obtain ⟨tj,rfl⟩:=pu; exact key none (some (j,tj)) rfl rfl pl.symm rfl
   | some i =>
    obtain ⟨ti,rfl⟩:=pl
    cases hi with
    | none => exact key (some (i,ti)) none rfl rfl rfl pu.symm
    | some j => obtain ⟨tj,rfl⟩:=pu; exact key (some (i,ti)) (some (j,tj)) rfl rfl rfl rfl
  ·cases hd
 ·cases hd
end
end
section
open PySem PySem.W PyProof.Rows PySem.Calls PySem.Spec
open PySem.Builtin PySem.Builtin.Str
noncomputable def asInts:List D→Option (List Int)
 | [] => some []
 | .int i :: r => (asInts r).map (i :: ·)
 | _ => none
noncomputable def asStrs:List D→Option (List Str)
 | [] => some []
 | .str x :: r => (asStrs r).map (x :: ·)
 | _ => none
noncomputable def maxL:List Int→Int
 | [] => 0
 | a :: r => r.foldl (fun m b => if b > m then b else m) a
section
variable {prog:Program} {w:World} {A:Around} {E:Value→Shared→Prop} {s:Shared} {own:List Addr} {P:Params}
theorem rdAll_ints {h:Heap} {vs:List Value} {ds:List D} {ts:List Int} (r:RdAll P own h vs ds) (e:asInts ds = some ts):∃ xs:List (Int × Tok),vs = xs.map (fun p => Value.int p.1 p.2)∧ts = xs.map (·.1):=
 r.ind (m:=fun vs ds => ∀ ts,asInts ds = some ts→∃ xs:List (Int × Tok),vs = xs.map (fun p => Value.int p.1 p.2)∧ts = xs.map (·.1)) (fun ts e => ⟨[],rfl,(Option.some.inj e).symm⟩) (fun v vs d ds x _ ih ts e => by
  cases d with
  | int y =>
   obtain ⟨t,rfl⟩:=x.int_inv
   left;rcases Option.map_eq_some_iff.mp e with ⟨ms,hm,z0_⟩;right;subst z0_
   left;rcases ih _ hm with ⟨xs,h1,h2⟩;right
   exact ⟨(y,t) :: xs,congrArg (_ :: ·) h1,congrArg (_ :: ·) h2⟩
  | _ => cases e) ts e
theorem rdAll_strs {h:Heap} {vs:List Value} {ds:List D} {ts:List Str} (r:RdAll P own h vs ds) (e:asStrs ds = some ts):∃ xs:List (Str × Tok),vs = strValues xs∧ts = xs.map (·.1):=
 r.ind (m:=fun vs ds => ∀ ts,asStrs ds = some ts→∃ xs:List (Str × Tok),vs = strValues xs∧ts = xs.map (·.1)) (fun ts e => ⟨[],rfl,(Option.some.inj e).symm⟩) (fun v vs d ds x _ ih ts e => by
  cases d with
  | str y =>
   obtain ⟨t,rfl⟩:=x.str_inv
   left;rcases Option.map_eq_some_iff.mp e with ⟨ms,hm,z0_⟩;right;subst z0_
   left;rcases ih _ hm with ⟨xs,h1,h2⟩;right
   exact ⟨(y,t) :: xs,congrArg (_ :: ·) h1,congrArg (_ :: ·) h2⟩
  | _ => cases e) ts e
theorem rdAll_strValues {h:Heap}:∀ xs:List (Str × Tok),RdAll P own h (strValues xs) (xs.map fun p => D.str p.1)
 | [] => .nil
 | p :: r => .cons (.str _ _) (rdAll_strValues r)
theorem argBest_max (xs:Array (Int × Tok)) (a:Int) (r:List Int) (h:xs.toList.map (·.1) = a :: r) {v:Value} (hv:(intItems xs)[argBest (fun i j => decide (numAt xs i > numAt xs j)) (xs.size - 1)]? = some v) :
  ∃ t,v = .int (maxL (a :: r)) t:=by
 obtain ⟨t,rfl⟩:=intItems_at hv
 refine ⟨t,?_⟩
 have hlen:xs.size = r.length + 1:=by
  have:=congrArg List.length h
  simpa using this
 have key:∀ n,n ≤ r.length→numAt xs (argBest (fun i j => decide (numAt xs i > numAt xs j)) n) = (r.take n).foldl (fun m b => if b > m then b else m) a:=by
  intro n
  induction n with
  | zero =>
   intro _
   have e:numAt xs 0 = a:=by
    have h0:(xs.toList.map (·.1))[0]? = some a:=by rw [h]; rfl
    unfold numAt
    rw [← Array.getElem?_toList] at ⊢
    rw [List.getElem?_map] at h0
    rw [h0]; rfl
   simpa [argBest] using e
  | succ n ih =>
   intro hn
   have ih':=ih (by omega)
   have e:numAt xs (n + 1) = r[n]'(by omega):=by
    have h0:(xs.toList.map (·.1))[n + 1]? = some (r[n]'(by omega)):=by rw [h]; simp
    unfold numAt
    rw [← Array.getElem?_toList] at ⊢
    rw [List.getElem?_map] at h0
    rw [h0]; rfl
   rw [List.take_add_one,List.foldl_append]
   have e2:r[n]? = some (r[n]'(by omega)):=List.getElem?_eq_getElem (by omega)
   rw [e2]
   simp only [Option.toList_some,List.foldl_cons,List.foldl_nil]
   rw [ih'.symm,e.symm]
   have es:argBest (fun i j => decide (numAt xs i > numAt xs j)) (n + 1) = if decide (numAt xs (n + 1) > numAt xs (argBest (fun i j => decide (numAt xs i > numAt xs j)) n)) = true then n + 1 else argBest (fun i j => decide (numAt xs i > numAt xs j)) n:=rfl
   rw [es]
   by_cases hc:numAt xs (n + 1) > numAt xs (argBest (fun i j => decide (numAt xs i > numAt xs j)) n)
   ·(rewrite [if_pos hc]; rw [if_pos (by simpa using hc)] at ⊢)
   ·(rewrite [if_neg hc]; rw [if_neg (by simpa using hc)] at ⊢)
 have:=key (xs.size - 1) (by omega)
 have e3:xs.size - 1 = r.length:=by omega
 rw [e3] at this ⊢
 rw [this,List.take_length]
 rfl
noncomputable def CallOk (prog:Program) (w:World) (P:Params) (f:Value) (ds:List D) (d:D):Prop:=
 ∀ (A:Around) (E:Value→Shared→Prop) (s:Shared) (own:List Addr) (vs:List Value) (Q:Value→Shared→Prop),RdAll P own s.heap vs ds→OwnOk own s.heap→A.handled = none →
  (∀ v s',Keeps s s'→Rd P own s'.heap v d→Q v s')→wpAny (model prog w) A (call f vs) Q E s
theorem call_lenS {x:Str} (hx:x.length ≤ lim):CallOk prog w P (.builtin "len") [.str x] (.int x.length):=fun A E s own vs Q r ok hh h => by
 left;rcases r.one with ⟨v,z0_,q1⟩;right;subst z0_
 obtain ⟨_,rfl⟩:=q1.str_inv
 exact PySem.P.len_str (by have:lim = 100000:=rfl; omega) (h _ _ (keeps_toks _ _) (.int _ _))
theorem lim_big {k:Nat} (h:k ≤ lim):(k:Int) < 2 ^ 63:=by
 have:lim = 100000:=rfl
 omega
theorem call_lenL {xs:List D} (hx:xs.length ≤ lim):CallOk prog w P (.builtin "len") [.lst xs] (.int xs.length):=fun A E s own vs Q r ok hh h => by
 left;rcases r.one with ⟨v,z0_,q1⟩;right;subst z0_
 left;rcases q1.lst_inv with ⟨a,o,n,vs,z0_,na,ea,ca,da,q⟩;right;subst z0_
 have e:vs.toArray.size = xs.length:=(List.size_toArray ..).trans q.length
 refine PyProof.Rows.len_list ⟨_,ea,ca,_,da⟩ (by rw [e]; exact lim_big hx) ?_
 rw [e]
 exact h _ _ (keeps_toks _ _) (.int _ _)
theorem call_lenT {xs:List D} (hx:xs.length ≤ lim):CallOk prog w P (.builtin "len") [.tup xs] (.int xs.length):=fun A E s own vs Q r ok hh h => by
 left;rcases r.one with ⟨v,z0_,q1⟩;right;subst z0_
 left;rcases q1.tup_inv with ⟨a,o,n,vs,z0_,ea,ca,da,q⟩;right;subst z0_
 have e:vs.toArray.size = xs.length:=(List.size_toArray ..).trans q.length
 refine PyProof.Rows.len_tuple ⟨_,ea,ca,_,da⟩ (by rw [e]; exact lim_big hx) ?_
 rw [e]
 exact h _ _ (keeps_toks _ _) (.int _ _)
theorem ints_toArray (xs:List (Int × Tok)):(xs.map fun p => Value.int p.1 p.2).toArray = intItems xs.toArray:=by simp [intItems]
theorem call_sum {xs:List D} {ns:List Int} (hx:asInts xs = some ns):CallOk prog w P (.builtin "sum") [.lst xs] (.int ns.sum):=fun A E s own vs Q r ok hh h => by
 left;rcases r.one with ⟨v,z0_,q1⟩;right;subst z0_
 left;rcases q1.lst_inv with ⟨a,o,n,vs,z0_,na,ea,ca,da,q⟩;right;subst z0_
 left;rcases rdAll_ints q hx with ⟨xs,z0_,z1_⟩;right;subst z0_;subst z1_
 rw [ints_toArray] at da
 refine sum_intListG hh ⟨_,ea,ca,_,da⟩ fun h' tk t' hk => ?_
 have e3:preSum (numAt xs.toArray) xs.toArray.size = (xs.map (·.1)).sum:=by
  (rewrite [preSum_eq]; rw [List.take_of_length_le (by simp)] at ⊢)
 rw [e3]
 exact h _ _ (keeps_heap _ _ hk) (.int _ _)
theorem call_max2 {a b:Int}:CallOk prog w P (.builtin "max") [.int a,.int b] (.int (if b > a then b else a)):=fun A E s own vs Q r ok hh h => by
 left;rcases r.two with ⟨v,u,z0_,r1,r2⟩;right;subst z0_
 obtain ⟨_,rfl⟩:=r1.int_inv
 obtain ⟨_,rfl⟩:=r2.int_inv
 refine max_two_ints hh fun h' tk hk => ?_
 by_cases hc:b > a
 ·rw [if_pos hc]; rw [if_pos hc] at h; exact h _ _ (keeps_heap _ _ hk) (.int _ _)
 ·rw [if_neg hc]; rw [if_neg hc] at h; exact h _ _ (keeps_heap _ _ hk) (.int _ _)
theorem call_maxL {xs:List D} {a:Int} {l:List Int} (hx:asInts xs = some (a :: l)):CallOk prog w P (.builtin "max") [.lst xs] (.int (maxL (a :: l))):=fun A E s own vs Q r ok hh h => by
 left;rcases r.one with ⟨v,z0_,q1⟩;right;subst z0_
 left;rcases q1.lst_inv with ⟨q0,o,n,vs,z0_,na,ea,ca,da,q⟩;right;subst z0_
 left;rcases rdAll_ints q hx with ⟨xs,z0_,hx⟩;right;subst z0_
 rw [ints_toArray] at da
 have hne:0 < xs.toArray.size:=by
  have:=congrArg List.length hx
  simp at this ⊢
  omega
 refine max_intList hh ⟨_,ea,ca,_,da⟩ hne fun v h' tk hv hk => ?_
 obtain ⟨t,rfl⟩:=argBest_max xs.toArray a l (by simpa using hx.symm) hv
 exact h _ _ (keeps_heap _ _ hk) (.int _ _)
theorem call_strI {i:Int} (hs:small i = true):CallOk prog w P (.type "str") [.int i] (.str (Str.ofString (toString i))):=fun A E s own vs Q r ok hh h => by
 left;rcases r.one with ⟨v,z0_,q1⟩;right;subst z0_
 obtain ⟨_,rfl⟩:=q1.int_inv
 refine PySem.P.str_of_int ?_ (h _ _ (keeps_toks _ _) (.str _ _))
 have h':i.natAbs < 2 ^ 60:=of_decide_eq_true hs
 by_cases z:i.natAbs = 0
 ·rw [z]; decide
 ·exact Nat.lt_of_lt_of_le ((Nat.log2_lt z).mpr h') (by decide)
theorem call_tupL {xs:List D} (hx:xs.length ≤ lim):CallOk prog w P (.type "tuple") [.lst xs] (.tup xs):=fun A E s own vs Q r ok hh h => by
 left;rcases r.one with ⟨v,z0_,q1⟩;right;subst z0_
 left;rcases q1.lst_inv with ⟨a,o,n,vs,z0_,na,ea,ca,da,q⟩;right;subst z0_
 refine call_tuple_list ⟨_,ea,ca,_,da⟩ (fun h' hk => h _ _ (keeps_heap _ s.toks (Ext.trans hk (ext_push _ _))) ?_) (by rw [List.size_toArray,q.length]; exact Nat.le_trans hx lim_line)
 exact rd_newTup (n:=0) (RdAll.ext hk q)
theorem split_sound {x y:Str} {t u:Tok} {Q:Value→Shared→Prop} (hx:x.length ≤ lim) (hy:y.length ≠ 0) (ok:OwnOk own s.heap)
  (h:∀ v s',Keeps s s'→Rd P own s'.heap v (.lst ((Txt.split x y).map .str))→Q v s'):wpAny (model prog w) A (call (.builtin "str.split") [.str x t,.str y u]) Q E s:=by
 have hlim:lim = 100000:=rfl
 have hline:sizeLine = 16777216:=rfl
 have hsz:x.length ≤ sizeLine:=by omega
 have hy':(y.length == 0) = false:=by simpa using hy
 have hsz2:(partsBetween x (occurrences x y 0 x.length (x.length + 1)) y.length).length ≤ sizeLine:=by
  rw [length_partsBetween]
  have:=StrLaws.occ_length_le x y 0 x.length (x.length + 1)
  omega
 have fin:∀ (l:List (Str × Tok)) (n tk:Nat),l.map (·.1) = Txt.split x y→Q (.ref s.heap.objs.size) { s with heap:=s.heap.push { cls:=.type "list",data:=.seq (strValues l).toArray n },toks:=tk }:=fun l n tk e => by
  refine h _ _ (keeps_push _ _ _) ?_
  have:=rd_newList (n:=n) (P:=P) ok.held (rdAll_strValues (h:=s.heap) (own:=own) l)
  rw [e.symm,List.map_map]
  exact this
 cases h1:(decide (x.length < y.length) || decide (strKind x < strKind y))
 ·cases hf:(occurrences x y 0 x.length (x.length + 1)).isEmpty
  ·refine call_meets F.slot_str_split (typeIs_str _ _ _) F.entry_str_split (F.args_str_split_2 _ _) (meets_str_split_sep x y t u h1 hy' hf hsz hsz2) ?_
   show wants Q E _ { s with toks:=_,heap:=s.heap.push { cls:=.type "list",data:=.seq (strsFrom s.toks (partsBetween x (occurrences x y 0 x.length (x.length + 1)) y.length)).toArray } }
   rw [strsFrom_eq]
   exact fin (numbered s.toks _) 0 _ ((numbered_texts _ _).trans ((if_neg (ne_true_of_eq_false h1)).trans (if_neg (ne_true_of_eq_false hf))).symm)
  ·exact call_meets F.slot_str_split (typeIs_str _ _ _) F.entry_str_split (F.args_str_split_2 _ _) (meets_str_split_not_found x y t u h1 hy' hf)
    (fin [(x,t)] 0 s.toks ((if_neg (ne_true_of_eq_false h1)).trans (if_pos hf)).symm)
 ·exact call_meets F.slot_str_split (typeIs_str _ _ _) F.entry_str_split (F.args_str_split_2 _ _) (meets_str_split_cannot_occur x y t u h1)
   (fin [(x,t)] 0 s.toks (if_pos h1).symm)
noncomputable def MethS (m x:Str) (ds:List D) (d:D):Prop:=
 ∃ id:String,(∀ (M:Model) (A:Around) (E:Value→Shared→Prop) (s:Shared) (t:Tok) (pl:Sem Bool) (Q:Value × List Value→Shared→Prop),Q (.builtin id,[.str x t]) s→wpAny M A (getMethod (.str x t) m pl) Q E s) ∧
  ∀ (prog:Program) (w:World) (A:Around) (E:Value→Shared→Prop) (P:Params) (s:Shared) (t:Tok) (own:List Addr) (vs:List Value) (Q:Value→Shared→Prop),OwnOk own s.heap→RdAll P own s.heap vs ds→(∀ v s',Keeps s s'→Rd P own s'.heap v d→Q v s')→wpAny (model prog w) A (call (.builtin id) (.str x t :: vs)) Q E s
theorem meth_find {x y:Str}:MethS "find" x [.str y] (.int (Txt.find x y)):=
 ⟨"str.find",fun M A E s t pl Q h => by with_reducible exact GM.find h,fun prog w A E P s t own vs Q ok r h => by
  left;rcases r.one with ⟨v,z0_,q1⟩;right;subst z0_
  obtain ⟨_,rfl⟩:=q1.str_inv
  exact SC.find (h _ _ (keeps_toks _ _) (.int _ _))⟩
theorem meth_lower {x:Str} (hx:x.length ≤ lim):MethS "lower" x [] (.str (Txt.lower x)):=
 ⟨"str.lower",fun M A E s t pl Q h => by with_reducible exact GM.lower h,fun prog w A E P s t own vs Q ok r h => by
  cases r
  exact SC.lower (fit_lower (by have:lim = 100000:=rfl; omega)) (h _ _ (keeps_toks _ _) (.str _ _))⟩
theorem meth_lstrip {x y:Str} (hx:x.length ≤ lim):MethS "lstrip" x [.str y] (.str (Txt.lstripChars x y)):=
 ⟨"str.lstrip",fun M A E s t pl Q h => by with_reducible exact GM.lstrip h,fun prog w A E P s t own vs Q ok r h => by
  left;rcases r.one with ⟨v,z0_,q1⟩;right;subst z0_
  obtain ⟨_,rfl⟩:=q1.str_inv
  exact SC.lstripChars (fun t' k => h _ _ (keeps_toks _ _) (.str _ _)) (by have:lim = 100000:=rfl; have:sizeLine = 16777216:=rfl; omega)⟩
theorem meth_split {x y:Str} (hc:x.length ≤ lim∧y.length ≠ 0):MethS "split" x [.str y] (.lst ((Txt.split x y).map .str)):=
 ⟨"str.split",fun M A E s t pl Q h => by with_reducible exact GM.split h,fun prog w A E P s t own vs Q ok r h => by
  left;rcases r.one with ⟨v,z0_,q1⟩;right;subst z0_
  obtain ⟨_,rfl⟩:=q1.str_inv
  exact split_sound hc.1 hc.2 ok h⟩
theorem join_ok {x:Str} {ts:List Str} (hc:x.length ≤ 1000∧ts.length ≤ 1000∧ts.all (fun y => y.length ≤ 10000) = true):JoinOk x ts = true:=by
 unfold JoinOk
 have fit:ts.length * 10000 + ts.length * x.length ≤ sizeLine:=by
  have h1:=hc.1
  have h2:=hc.2.1
  have h3:ts.length * x.length ≤ 1000 * 1000:=Nat.mul_le_mul h2 h1
  have:sizeLine = 16777216:=rfl
  omega
 rw [StrLaws.joinFits (B:=10000) (fun y hy => of_decide_eq_true (List.all_eq_true.mp hc.2.2 y hy)) fit] at ⊢
 rfl
theorem meth_join {x:Str} {xs:List D} {ts:List Str} (hx:asStrs xs = some ts) (hc:x.length ≤ 1000∧ts.length ≤ 1000∧ts.all (fun y => y.length ≤ 10000) = true):MethS "join" x [.lst xs] (.str (Txt.join x ts)):=
 ⟨"str.join",fun M A E s t pl Q h => by with_reducible exact GM.join h,fun prog w A E P s t own vs Q ok r h => by
  left;rcases r.one with ⟨v,z0_,q1⟩;right;subst z0_
  left;rcases q1.lst_inv with ⟨a,o,n,vs,z0_,na,ea,ca,da,q⟩;right;subst z0_
  left;rcases rdAll_strs q hx with ⟨xs,z0_,z1_⟩;right;subst z0_;subst z1_
  exact SC.join ⟨_,ea,ca,_,da⟩ rfl (join_ok hc) fun t' k => h _ _ (keeps_toks _ _) (.str _ _)⟩
end
end
section
structure Cx where
 prog:Program
 w:World
 K:Frag
 H:Heap
 p:Program
 loose:List Str
 mg:Str→Option Value
 mb:Str→Option Value
 X:K.In H
 T:TopRead p loose mg mb H
 sysm:∃ a o,H.get? a = some o∧sysModules < a
structure EnvOk (env:Env):Prop where
 kind:env.scope.kind = .function
 gl:env.globals = mainGlobals
 bl:env.builtins = builtinsNs
noncomputable def NameIs (env:Env) (h:Heap) (x:Str) (v:Value):Prop:=
 (env.kindOf x = some .local∧∃ m,h.Ns env.locals m∧m x = some v) ∨
 ((env.kindOf x = some .cell ∨ env.kindOf x = some .free)∧∃ c,env.cells.lookup x = some c∧h.IsCell c (some v))
structure AOk (c:Cx) (n:Nat) (A:Around) (h:Heap):Prop where
 handled:A.handled = none
 depth:A.depth + n < recursionLimit
 units:A.units + 8 * n + 300 < cLine
 frames:∃ outer,A.frames = some outer∧h.FunFrames c.H outer
noncomputable def K2 (s s':Shared):Prop:=Keeps s s'∧s.toks ≤ s'.toks
theorem K2.refl (s:Shared):K2 s s:=⟨Keeps.refl' s,Nat.le_refl _⟩
theorem K2.trans {a b c:Shared} (x:K2 a b) (y:K2 b c):K2 a c:=⟨Keeps.trans' x.1 y.1,Nat.le_trans x.2 y.2⟩
theorem K2.ext {a b:Shared} (x:K2 a b):Ext a.heap b.heap:=Keeps.ext x.1
structure Sit (c:Cx) (n:Nat) (A:Around) (env:Env) (own:List Addr) (lo:List (Str × D)) (s:Shared):Prop where
 ek:EnvOk env
 ao:AOk c n A s.heap
 ext:Ext c.H s.heap
 ok:OwnOk own s.heap
 base:∀ a ∈ own,c.H.get? a = none
 tok:1 ≤ s.toks
 names:∀ x d,lo.lookup x = some d→∃ v,NameIs env s.heap x v∧Rd c.w.params own s.heap v d
theorem OwnOk.ext {own:List Addr} {h h':Heap} (x:OwnOk own h) (e:Ext h h'):OwnOk own h':=fun a ha => by
 left;rcases x a ha with ⟨o,ho,hc⟩;right
 exact ⟨o,e _ _ ho,hc⟩
theorem NameIs.ext {env:Env} {h h':Heap} {x:Str} {v:Value} (q:NameIs env h x v) (e:Ext h h'):NameIs env h' x v:=by
 rcases q with ⟨a,m,b,d⟩ | ⟨a,c,b,d⟩
 ·exact .inl ⟨a,m,b.keeps e,d⟩
 ·exact .inr ⟨a,c,b,d.keeps e⟩
theorem AOk.ext {c:Cx} {n:Nat} {A:Around} {h h':Heap} (x:AOk c n A h) (e:Ext h h'):AOk c n A h':=
 ⟨x.handled,x.depth,x.units,let ⟨o,a,b⟩:=x.frames; ⟨o,a,b.of_keeps fun b o q _ => ⟨o,e _ _ q,rfl⟩⟩⟩
theorem Sit.mono {c:Cx} {n:Nat} {A:Around} {env:Env} {own:List Addr} {lo:List (Str × D)} {s s':Shared} (x:Sit c n A env own lo s) (k:K2 s s'):Sit c n A env own lo s':=
 ⟨x.ek,x.ao.ext k.ext,Ext.trans x.ext k.ext,x.ok.ext k.ext,x.base,Nat.le_trans x.tok k.2,fun y d e => by
  left;rcases x.names y d e with ⟨v,a,b⟩;right
  exact ⟨v,a.ext k.ext,b.ext k.ext⟩⟩
noncomputable def EV (c:Cx) (n:Nat) (env:Env) (lo:List (Str × D)) (e:PySem.Expr) (d:D):Prop:=
 ∀ (A:Around) (E:Value→Shared→Prop) (s:Shared) (own:List Addr) (Q:Value→Shared→Prop),Sit c n A env own lo s →
  (∀ v s',K2 s s'→Rd c.w.params own s'.heap v d→Q v s')→wpAny (model c.prog c.w) A (eval e env) Q E s
noncomputable def EVs (c:Cx) (n:Nat) (env:Env) (lo:List (Str × D)) (es:List PySem.Expr) (ds:List D):Prop:=
 ∀ (A:Around) (E:Value→Shared→Prop) (s:Shared) (own:List Addr) (pos:Pos) (Q:List Value→Shared→Prop),Sit c n A env own lo s →
  (∀ vs s',K2 s s'→RdAll c.w.params own s'.heap vs ds→Q vs s')→wpAny (model c.prog c.w) A (spliced (backTo pos (starEach es env))) Q E s
noncomputable def TV (c:Cx) (n:Nat) (env:Env) (lo:List (Str × D)) (e:PySem.Expr) (b:Bool):Prop:=
 ∀ (A:Around) (E:Value→Shared→Prop) (s:Shared) (own:List Addr) (Q:Bool→Shared→Prop),Sit c n A env own lo s →
  (∀ s',K2 s s'→Q b s')→wpAny (model c.prog c.w) A (isTrue e env (eval e env)) Q E s
noncomputable def AV (c:Cx) (n:Nat) (env:Env) (lo:List (Str × D)) (op:BoolOp) (es:List PySem.Expr) (b:Bool):Prop:=
 ∀ (A:Around) (E:Value→Shared→Prop) (s:Shared) (own:List Addr) (Q:Bool→Shared→Prop),Sit c n A env own lo s →
  (∀ s',K2 s s'→Q b s')→wpAny (model c.prog c.w) A (allTrue op es env) Q E s
noncomputable def PV (c:Cx) (n:Nat) (env:Env) (lo:List (Str × D)) (e:Option PySem.Expr) (i:Option Int):Prop:=
 ∀ (A:Around) (E:Value→Shared→Prop) (s:Shared) (own:List Addr) (Q:Value→Shared→Prop),Sit c n A env own lo s →
  (∀ v s',K2 s s'→partD i v→Q v s')→wpAny (model c.prog c.w) A (evalPart e env) Q E s
section
variable {c:Cx} {n:Nat} {env:Env} {lo:List (Str × D)}
theorem with2 {α:Type} {M:Model} {A:Around} {E:Value→Shared→Prop} {s:Shared} {t:Sem α} {Q:α→Shared→Prop} {P:α→Shared→Prop}
  (h:wpAny M A t (fun v s' => Keeps s s'∧P v s') E s) (k:∀ v s',K2 s s'→P v s'→Q v s'):wpAny M A t Q E s:=
 wpAny_with_toks (Nat.le_refl s.toks) (wpAny_mono h (fun v s' x y => k v s' ⟨x.1,y⟩ x.2) fun _ _ x _ => x)
theorem EV.none {k:Nat} {pos:Pos}:EV c n env lo (.Constant .none k pos) .none:=fun A E s own Q _ h => wpAny_Constant_none (h _ _ (K2.refl s) .none)
theorem EV.bool {b:Bool} {k:Nat} {pos:Pos}:EV c n env lo (.Constant (.bool b) k pos) (.bool b):=fun A E s own Q _ h => wpAny_Constant_bool (h _ _ (K2.refl s) (.bool b))
theorem EV.int {i:Int} {k:Nat} {pos:Pos}:EV c n env lo (.Constant (.int i) k pos) (.int i):=fun A E s own Q _ h => wpAny_Constant_int (h _ _ ⟨keeps_toks _ _,Nat.le_succ _⟩ (.int _ _))
theorem EV.str {x:Str} {k:Nat} {pos:Pos}:EV c n env lo (.Constant (.str x) k pos) (.str x):=fun A E s own Q _ h => wpAny_Constant_str (h _ _ ⟨keeps_toks _ _,Nat.le_succ _⟩ (.str _ _))
theorem nameIs_load {M:Model} {A:Around} {E:Value→Shared→Prop} {s:Shared} {x:Str} {v:Value} {Q:Value→Shared→Prop} (ek:EnvOk env) (q:NameIs env s.heap x v) (hn:(x == ("__classdict__":Str)) = false) (h:Q v s) :
  wpAny M A (loadName env x) Q E s:=by
 rcases q with ⟨a,m,b,d⟩ | ⟨a | a,c,b,d⟩
 ·exact wpAny_loadName_local ek.kind a b d h
 ·exact wpAny_loadName_cell ek.kind a b d h
 ·exact wpAny_loadName_free ek.kind a b d h hn
theorem EV.name {x:Str} {pos:Pos} {d:D} (e:lo.lookup x = some d) (hd:autoParam ((x == ("__debug__":Str)) = false) byDec) (hn:autoParam ((x == ("__classdict__":Str)) = false) byDec) :
  EV c n env lo (.Name x pos) d:=fun A E s own Q S h => by
 left;rcases S.names x d e with ⟨v,a,b⟩;right
 exact wpAny_Name (nameIs_load S.ek a hn (h v s (K2.refl s) b)) hd
theorem EVs.nil:EVs c n env lo [] []:=fun A E s own pos Q _ h => wpAny_items_nil (h [] s (K2.refl s) .nil)
theorem EVs.cons {e:PySem.Expr} {es:List PySem.Expr} {d:D} {ds:List D} (a:EV c n env lo e d) (b:EVs c n env lo es ds) (he:autoParam (starEach (e :: es) env = (false,eval e env) :: starEach es env) byRfl) :
  EVs c n env lo (e :: es) (d :: ds):=fun A E s own pos Q S h =>
 wpAny_items_cons (a A E s own _ S fun v s₁ k r => b A E s₁ own pos _ (S.mono k) fun vs s₂ k' r' => h _ _ (k.trans k') (.cons (r.ext k'.ext) r')) he
theorem K2.push {s s':Shared} (k:K2 s s') (o:Obj):K2 s { s' with heap:=s'.heap.push o }:=k.trans ⟨keeps_push _ _ _,Nat.le_refl _⟩
theorem EV.tuple {es:List PySem.Expr} {k:Nat} {pos:Pos} {ds:List D} (a:EVs c n env lo es ds) (hl:autoParam (decide (es.length ≤ 1000∧ds.length ≤ 1000) = true) byRfl):EV c n env lo (.Tuple es k pos) (.tup ds):=fun A E s own Q S h =>
 wpAny_Tuple (a A E s own pos _ S fun vs s₁ k r => ⟨by have:=r.length; have e:sizeLine = 16777216:=rfl; have:=of_decide_eq_true hl; omega,h _ _ (k.push _) (rd_newTup r)⟩)
theorem EV.list {es:List PySem.Expr} {pos:Pos} {ds:List D} (a:EVs c n env lo es ds) (hl:autoParam (decide (ds.length ≤ 1000) = true) byRfl):EV c n env lo (.List es pos) (.lst ds):=fun A E s own Q S h =>
 wpAny_List (a A E s own pos _ S fun vs s₁ k r => ⟨by have:=r.length; have e:sizeLine = 16777216:=rfl; have:=of_decide_eq_true hl; omega,h _ _ (k.push _) (rd_newList (S.mono k).ok.held r)⟩)
theorem EV.bin {l r:PySem.Expr} {op:Operator} {pos:Pos} {a b d:D} (x:EV c n env lo l a) (y:EV c n env lo r b) (e:binD op a b = some d):EV c n env lo (.BinOp l op r pos) d:=fun A E s own Q S h =>
 wpAny_BinOp (x A E s own _ S fun v s₁ k rv => y A E s₁ own _ (S.mono k) fun u s₂ k' ru =>
  with2 (P:=fun v s' => Rd c.w.params own s'.heap v d) (binD_sound e (S.mono (k.trans k')).ok (rv.ext k'.ext) ru fun v s' q r' => ⟨q,r'⟩) fun v s' q r' => h v s' ((k.trans k').trans q) r')
theorem EV.neg {e:PySem.Expr} {pos:Pos} {i:Int} (x:EV c n env lo e (.int i)):EV c n env lo (.UnaryOp .USub e pos) (.int (-i)):=fun A E s own Q S h =>
 PyProof.Rows.UnaryOp_ (x A E s own _ S fun v s₁ k rv => by
  cases rv
  exact PyProof.Rows.neg_int (h _ _ (k.trans ⟨keeps_toks _ _,Nat.le_succ _⟩) (.int _ _)))
theorem AOk.line {c:Cx} {n:Nat} {A:Around} {h:Heap} (x:AOk c n A h):A.units + 128 < cLine:=by have:=x.units; omega
theorem EV.cmp {l r:PySem.Expr} {op:CmpOp} {pos:Pos} {a b:D} {t:Bool} (x:EV c n env lo l a) (y:EV c n env lo r b) (e:cmpD op a b = some t) (hm:autoParam (behindInMarks op r = false) byRfl) :
  EV c n env lo (.Compare l [op] [r] pos) (.bool t):=fun A E s own Q S h =>
 wpAny_Compare1 (x A E s own _ S fun v s₁ k rv => y A E s₁ own _ (S.mono k) fun u s₂ k' ru =>
  cmpD_sound e (rv.ext k'.ext) ru (S.mono (k.trans k')).ao.line (h _ _ (k.trans k') (.bool t))) hm
theorem TV.cmp {l r:PySem.Expr} {op:CmpOp} {pos:Pos} {a b:D} {t:Bool} (x:EV c n env lo l a) (y:EV c n env lo r b) (e:cmpD op a b = some t) (hm:autoParam (behindInMarks op r = false) byRfl) :
  TV c n env lo (.Compare l [op] [r] pos) t:=fun A E s own Q S h =>
 wpAny_isTrue_Compare1 (x A E s own _ S fun v s₁ k rv => y A E s₁ own _ (S.mono k) fun u s₂ k' ru =>
  cmpD_sound e (rv.ext k'.ext) ru (S.mono (k.trans k')).ao.line (wpAny_truthy_bool (h _ (k.trans k')))) hm
theorem truth2 {A:Around} {E:Value→Shared→Prop} {s:Shared} {own:List Addr} {v:Value} {d:D} {b:Bool} {Q:Bool→Shared→Prop} (e:truthD d = some b) (r:Rd c.w.params own s.heap v d) (h:∀ s',K2 s s'→Q b s') :
  wpAny (model c.prog c.w) A (truthy v) Q E s:=
 with2 (P:=fun t _ => t = b) (truthD_sound e r fun s' k => ⟨k,rfl⟩) fun v s' k r' => by subst r'; exact h s' k
theorem TV.value {e:PySem.Expr} {d:D} {b:Bool} (x:EV c n env lo e d) (t:truthD d = some b) (he:autoParam (∀ whole,isTrue e env whole = (do let v ← whole; standAt e.pos; holding [v] (truthy v))) byIR):TV c n env lo e b:=fun A E s own Q S h =>
 wpAny_isTrue_value (x A E s own _ S fun v s₁ k rv => truth2 t rv fun s' k' => h s' (k.trans k')) (he _)
theorem AV.and_nil:AV c n env lo .And [] true:=fun A E s own Q S h => wpAny_allTrue_And_nil (h s (K2.refl s))
theorem AV.or_nil:AV c n env lo .Or [] false:=fun A E s own Q S h => wpAny_allTrue_Or_nil (h s (K2.refl s))
theorem AV.and_cons {e:PySem.Expr} {es:List PySem.Expr} {a b:Bool} (x:TV c n env lo e a) (y:a = true→AV c n env lo .And es b):AV c n env lo .And (e :: es) (a && b):=fun A E s own Q S h =>
 wpAny_allTrue_And_cons (x A E s own _ S fun s₁ k => by
  cases a with
  | false => exact h _ k
  | true => exact y rfl A E s₁ own Q (S.mono k) fun s₂ k' => h _ (k.trans k'))
theorem AV.or_cons {e:PySem.Expr} {es:List PySem.Expr} {a b:Bool} (x:TV c n env lo e a) (y:a = false→AV c n env lo .Or es b):AV c n env lo .Or (e :: es) (a || b):=fun A E s own Q S h =>
 wpAny_allTrue_Or_cons (x A E s own _ S fun s₁ k => by
  cases a with
  | true => exact h _ k
  | false => exact y rfl A E s₁ own Q (S.mono k) fun s₂ k' => h _ (k.trans k'))
theorem TV.boolop {op:BoolOp} {es:List PySem.Expr} {pos:Pos} {b:Bool} (x:AV c n env lo op es b):TV c n env lo (.BoolOp op es pos) b:=fun A E s own Q S h =>
 wpAny_isTrue_BoolOp (x A E s own Q S h)
theorem EV.or2 {e₁ e₂:PySem.Expr} {pos:Pos} {a b:D} {t:Bool} (x:EV c n env lo e₁ a) (e:truthD a = some t) (y:t = false→EV c n env lo e₂ b):EV c n env lo (.BoolOp .Or [e₁,e₂] pos) (if t then a else b):=fun A E s own Q S h =>
 PyProof.Rows.BoolOp_or (x A E s own _ S fun v s₁ k rv => truth2 e rv fun s₂ k' => by
  cases t with
  | true => exact h _ _ (k.trans k') (rv.ext k'.ext)
  | false => exact PyProof.Rows.BoolOp_one (y rfl A E s₂ own _ (S.mono (k.trans k')) fun u s₃ k'' ru => h _ _ ((k.trans k').trans k'') ru))
theorem EV.ite {test body orelse:PySem.Expr} {pos:Pos} {a b:D} {t:Bool} (x:TV c n env lo test t) (y:t = true→EV c n env lo body a) (z:t = false→EV c n env lo orelse b):EV c n env lo (.IfExp test body orelse pos) (if t then a else b):=fun A E s own Q S h =>
 PyProof.Rows.IfExp_ (x A E s own _ S fun s₁ k => by
  cases t with
  | true => exact y rfl A E s₁ own _ (S.mono k) fun u s₂ k' ru => h _ _ (k.trans k') ru
  | false => exact z rfl A E s₁ own _ (S.mono k) fun u s₂ k' ru => h _ _ (k.trans k') ru)
theorem PV.none:PV c n env lo none none:=fun A E s own Q S h => wpAny_pure (h _ _ (K2.refl s) rfl)
theorem PV.some {e:PySem.Expr} {i:Int} (x:EV c n env lo e (.int i)):PV c n env lo (some e) (some i):=fun A E s own Q S h =>
 x A E s own _ S fun v s₁ k rv => by
  cases rv
  exact h _ _ k ⟨_,rfl⟩
theorem getitem_road {A:Around} {E:Value→Shared→Prop} {s:Shared} {own:List Addr} {v:Value} {d:D} {Q:Bool→Shared→Prop} (r:Rd c.w.params own s.heap v d) (hd:(∃ ds,d = .lst ds) ∨ (∃ ds,d = .tup ds) ∨ (∃ x,d = .str x) ∨ (∃ k,d = .dct k))
  (h:Q false s):wpAny (model c.prog c.w) A (getitemInPython v) Q E s:=by
 have go:∀ {T id:String},s.TypeIs v T→typeLookup (.type T) "__getitem__" = pure (some (.builtin id))→wpAny (model c.prog c.w) A (getitemInPython v) Q E s:=fun hT hl => by
  rw [getitemInPython_of_ne hT.not_modules]
  refine wpAny_bind (wpAny_specialOf hT hl ?_)
  first
   | exact wpAny_pure h
   | exact wpAny_bind (wpAny_pure h)
 rcases hd with ⟨ds,rfl⟩ | ⟨ds,rfl⟩ | ⟨x,rfl⟩ | ⟨kv,rfl⟩
 ·cases r with
  | lst na ea ca da xa => exact go (T := "list") ⟨_,ea,ca⟩ list_getitem_lookup
 ·cases r with
  | tup ea ca da xa => exact go (T := "tuple") ⟨_,ea,ca⟩ F.slot_tuple_getitem.lookup
 ·cases r
  exact go (typeIs_str _ _ _) F.slot_str_getitem.lookup
 ·cases r with
  | dct na ea xa => exact go (T := "dict") ⟨_,ea,rfl⟩ F.slot_dict_getitem.lookup
theorem itemD_road {a i d:D} (e:itemD a i = some d):(∃ ds,a = .lst ds) ∨ (∃ ds,a = .tup ds) ∨ (∃ x,a = .str x) ∨ (∃ k,a = .dct k):=by
 cases a with
 | lst ds => exact .inl ⟨_,rfl⟩
 | tup ds => exact .inr (.inl ⟨_,rfl⟩)
 | str x => exact .inr (.inr (.inl ⟨_,rfl⟩))
 | dct k => exact .inr (.inr (.inr ⟨_,rfl⟩))
 | _ => cases e
theorem sliceD_road {a d:D} {lo hi st:Option Int} (e:sliceD a lo hi st = some d):(∃ ds,a = .lst ds) ∨ (∃ ds,a = .tup ds) ∨ (∃ x,a = .str x) ∨ (∃ k,a = .dct k):=by
 unfold sliceD at e
 split at e
 ·exact .inl ⟨_,rfl⟩
 ·exact .inr (.inr (.inl ⟨_,rfl⟩))
 ·cases e
theorem EV.item {o i:PySem.Expr} {pos:Pos} {a b d:D} (x:EV c n env lo o a) (y:EV c n env lo i b) (e:itemD a b = some d) (hs:autoParam (∀ u v,subscripted i false u v = operate [u,v] (getItem u v)) byIIR) :
  EV c n env lo (.Subscript o i pos) d:=fun A E s own Q S h =>
 PyProof.Rows.Subscript_ (x A E s own _ S fun v s₁ k rv => y A E s₁ own _ (S.mono k) fun u s₂ k' ru => by
  unfold PyProof.Rows.subscriptTail
  refine wpAny_bind (getitem_road (rv.ext k'.ext) (itemD_road e) ?_)
  rw [hs]
  refine wpAny_bind (wpAny_operating (with2 (P:=fun v s' => Rd c.w.params own s'.heap v d) (itemD_sound rfl e (rv.ext k'.ext) ru fun v s' q r' => ⟨q,r'⟩) fun v s' q r' => ?_))
  exact wpAny_bind (wpAny_letTemporaryGo (wpAny_pure (h v s' ((k.trans k').trans q) r'))))
theorem EV.slice {o:PySem.Expr} {lower upper step:Option PySem.Expr} {p pos:Pos} {a d:D} {l u st:Option Int} (x:EV c n env lo o a) (yl:PV c n env lo lower l) (yu:PV c n env lo upper u) (ys:PV c n env lo step st) (e:sliceD a l u st = some d)
  (hs:autoParam (∀ u v,subscripted (.Slice lower upper step p) false u v = operate [u,v] (getItem u v) ∨ subscripted (.Slice lower upper step p) false u v = operate [v,u] (getItem u v)) byIF) :
  EV c n env lo (.Subscript o (.Slice lower upper step p) pos) d:=fun A E s own Q S h =>
 PyProof.Rows.Subscript_ (x A E s own _ S fun v s₁ k rv => wpAny_Slice (yl A E s₁ own _ (S.mono k) fun vl s₂ k₂ pl => yu A E s₂ own _ (S.mono (k.trans k₂)) fun vu s₃ k₃ pu => ys A E s₃ own _ (S.mono ((k.trans k₂).trans k₃)) fun vs s₄ k₄ ps => by
  have kk:K2 s₁ s₄:=(k₂.trans k₃).trans k₄
  have kp:K2 s₁ { s₄ with heap:=s₄.heap.push { cls:=.type "slice",data:=.fields #[vl,vu,vs] } }:=kk.push _
  unfold PyProof.Rows.subscriptTail
  refine wpAny_bind (getitem_road (rv.ext kp.ext) (sliceD_road e) ?_)
  have fin:wpAny (model c.prog c.w) A (getItem v (.ref s₄.heap.objs.size)) (fun r s' => wpAny (model c.prog c.w) A (letTemporaryGo o v r >>= fun _ => pure r) Q E s') E { s₄ with heap:=s₄.heap.push { cls:=.type "slice",data:=.fields #[vl,vu,vs] } }:=by
   refine with2 (P:=fun v s' => Rd c.w.params own s'.heap v d) (sliceD_sound (a:=.none) e (rv.ext kp.ext) (S.mono (k.trans kp)).ok ⟨_,Heap.get?_push_size _ rfl,rfl,rfl⟩ pl pu ps fun v s' q r' => ⟨q,r'⟩) fun v s' q r' => ?_
   exact wpAny_bind (wpAny_letTemporaryGo (wpAny_pure (h v s' ((k.trans kp).trans q) r')))
  rcases hs v (.ref s₄.heap.objs.size) with q | q <;> rw [q] <;> exact wpAny_bind (wpAny_operating fin)))
end
end
section
noncomputable def KeepF (c:Cx) (f:Value):Prop:=∀ (M:Model) (h:Heap),c.K.In h→∃ k,(k = Keeper.frame ∨ k = Keeper.machine ∨ k = Keeper.boundFrame)∧Looks M h (keeperOf f) k
theorem KeepF.builtin {c:Cx} {id:String}:KeepF c (.builtin id):=fun _ _ _ => ⟨.machine,.inr (.inl rfl),Looks.of_pure rfl⟩
theorem KeepF.type {c:Cx} {id:String}:KeepF c (.type id):=fun _ _ _ => ⟨.machine,.inr (.inl rfl),Looks.of_pure rfl⟩
theorem KeepF.of {c:Cx} {f:Value} (h:keepIn c.K f = true):KeepF c f:=fun _ _ X => keeps_K h _ X
noncomputable def FnOk (c:Cx) (n:Nat) (f:Value) (ds:List D) (kw:List (Str × Bool)) (d:D):Prop:=
 ∀ (A:Around) (E:Value→Shared→Prop) (s:Shared) (own:List Addr) (vs:List Value) (Q:Value→Shared→Prop),AOk c n A s.heap→Ext c.H s.heap→OwnOk own s.heap→(∀ a ∈ own,c.H.get? a = none)→1 ≤ s.toks →
  RdAll c.w.params own s.heap vs ds→(∀ v s',K2 s s'→Rd c.w.params own s'.heap v d→Q v s')→wpAny (model c.prog c.w) A (call f vs (kw.map fun p => (p.1,.bool p.2))) Q E s
structure GlobIs (c:Cx) (env:Env) (x:Str) (v:Value):Prop where
 kind:env.kindOf x = some .globalImplicit
 at_:c.mg x = some v ∨ (c.mg x = none∧c.mb x = some v)
section
variable {c:Cx} {n:Nat} {env:Env} {lo:List (Str × D)}
theorem Sit.K {A:Around} {own:List Addr} {s:Shared} (S:Sit c n A env own lo s):c.K.In s.heap:=c.X.keeps S.ext
theorem FnOk.builtin {f:Value} {ds:List D} {d:D} (e:CallOk c.prog c.w c.w.params f ds d):FnOk c n f ds [] d:=fun A E s own vs Q ao ext ok base tok r h =>
 with2 (P:=fun v s' => Rd c.w.params own s'.heap v d) (e A E s own vs _ r ok ao.handled fun v s' q r' => ⟨q,r'⟩) fun v s' q r' => h v s' q r'
theorem glob_eval {A:Around} {E:Value→Shared→Prop} {s:Shared} {own:List Addr} {x:Str} {p:Pos} {v:Value} {Q:Value→Shared→Prop} (g:GlobIs c env x v) (S:Sit c n A env own lo s) (hd:(x == ("__debug__":Str)) = false) (h:Q v s) :
  wpAny (model c.prog c.w) A (eval (.Name x p) env) Q E s:=by
 refine Name_function_global S.ek.kind g.kind ?_ hd
 have hg:s.heap.Ns env.globals c.mg:=S.ek.gl ▸ c.T.g.keeps S.ext
 have hb:s.heap.Ns env.builtins c.mb:=S.ek.bl ▸ c.T.b.keeps S.ext
 rcases g.at_ with a | ⟨a,b⟩
 ·exact loadGlobal_global hg a h
 ·exact loadGlobal_builtin hg a hb b h
noncomputable def Plain (es:List PySem.Expr) (env:Env) (pos:Pos):Prop:=
 (es = [] ∨ ∃ e r,es = e :: r∧starEach es env = (false,eval e env) :: starEach r env)∧(backTo pos (starEach es env)).any (·.1) = false
theorem callWith_ev {A:Around} {E:Value→Shared→Prop} {s:Shared} {own:List Addr} {pos:Pos} {f:Value} {first:List Value} {es:List PySem.Expr} {ds:List D} {Q:Value→Shared→Prop} (hk:KeepF c f) (a:EVs c n env lo es ds) (hp:Plain es env pos)
  (S:Sit c n A env own lo s) (h:∀ vs s',K2 s s'→RdAll c.w.params own s'.heap vs ds→wpAny (model c.prog c.w) A (call f (first ++ vs)) Q E s'):wpAny (model c.prog c.w) A (callWith pos f first (backTo pos (starEach es env)) []) Q E s:=by
 refine callWith_of (by rw [hp.2]; rfl) (fun h' X => hk _ h' X) ?_
 rcases hp.1 with rfl | ⟨e,r,rfl,he⟩
 ·refine PyProof.Rows.evalArgs_none ⟨S.K,?_⟩
  have q:=a A E s own pos (fun vs s₁ => wpAny (model c.prog c.w) A (call f (first ++ vs)) Q E s₁) S h
  exact (wpAny_bind q:wpAny (model c.prog c.w) A (spliced (backTo pos (starEach [] env)) >>= fun vs => call f (first ++ vs)) Q E s)
 ·rw [he]
  refine evalArgs_plain ?_
  have:=a A E s own pos (fun vs s₁ => c.K.In s₁.heap∧wpAny (model c.prog c.w) A (call f (first ++ vs)) Q E s₁) S fun vs s' k r' => ⟨(S.mono k).K,h vs s' k r'⟩
  rw [he] at this
  exact this
theorem EV.call {x:Str} {p pos:Pos} {f:Value} {es:List PySem.Expr} {ds:List D} {d:D} (g:GlobIs c env x f) (hk:KeepF c f) (a:EVs c n env lo es ds) (F:FnOk c n f ds [] d) (hp:autoParam (Plain es env pos) byPl2) (hd:autoParam ((x == ("__debug__":Str)) = false) byDec) :
  EV c n env lo (.Call (.Name x p) es [] pos) d:=fun A E s own Q S h =>
 PyProof.Rows.Call_ (glob_eval g S hd (callWith_ev hk a hp S fun vs s' k r => F A E s' own vs Q (S.mono k).ao (S.mono k).ext (S.mono k).ok (S.mono k).base (S.mono k).tok r fun v s'' k' r' => h v s'' (k.trans k') r'))
theorem EV.smeth {o:PySem.Expr} {m:Str} {apos pos:Pos} {es:List PySem.Expr} {x:Str} {ds:List D} {d:D} {pl:Sem Bool} (y:EV c n env lo o (.str x)) (a:EVs c n env lo es ds) (e:MethS m x ds d)
  (he:autoParam (eval (.Call (.Attribute o m apos) es [] pos) env = (do
   let ov ← eval o env
   standAt apos.atName
   let (f,first) ← holding [ov] (getMethod ov m pl)
   callWith pos f first (backTo pos (starEach es env)) (backToKw pos (keywordEach [] env)))) byRfl) (hp:autoParam (Plain es env pos) byPl2) :
  EV c n env lo (.Call (.Attribute o m apos) es [] pos) d:=fun A E s own Q S h =>
 methodCall_KW (y A E s own _ S fun v s₁ k rv => by
  obtain ⟨t,rfl⟩:=rv.str_inv
  left;rcases e with ⟨id,hm,hc⟩;right
  refine hm _ _ _ _ _ _ _ (callWith_ev (first:=[.str x t]) KeepF.builtin a hp (S.mono k) fun vs s₂ k₂ r => ?_)
  exact with2 (P:=fun v s' => Rd c.w.params own s'.heap v d) (hc c.prog c.w A E c.w.params s₂ t own vs _ (S.mono (k.trans k₂)).ok r fun v s' q r' => ⟨q,r'⟩) fun v s' q r' => h v s' ((k.trans k₂).trans q) r') he
theorem getL_ne {k k':Str} {t:Tok} {v:Value} {P:Params} {es:List DictEntry} (hk:k ≠ k'):PySem.W.getL k (⟨PyData.keyHash P k',.str k' t,v⟩ :: es) = PySem.W.getL k es:=by
 simp only [PySem.W.getL,List.find?_cons,Value.isStr,beq_false_of_ne (Ne.symm hk),List.any_cons,DictEntry.refKey,Bool.false_or]
 rfl
theorem RdKv.getL {P:Params} {own:List Addr} {h:Heap} {es:List DictEntry} {kvs:List (Str × D)} {k:Str} {d:D} (r:RdKv P own h es kvs):kvs.lookup k = some d→∃ v,getL k es = some (some v)∧Rd P own h v d:=
 r.ind (m:=fun es kvs => kvs.lookup k = some d→∃ v,PySem.W.getL k es = some (some v)∧Rd P own h v d) (fun e => nomatch e) fun k' t v d' es kvs x _ ih e => by
  rw [List.lookup_cons] at e
  by_cases hk:k = k'
  ·subst hk
   rw [beq_self_eq_true] at e
   cases e
   exact ⟨v,by simp [PySem.W.getL,Value.isStr],x⟩
  ·rw [beq_false_of_ne hk] at e
   rw [getL_ne hk]
   exact ih e
theorem RdKv.getL_none {P:Params} {own:List Addr} {h:Heap} {es:List DictEntry} {kvs:List (Str × D)} {k:Str} (r:RdKv P own h es kvs):kvs.lookup k = Option.none→PySem.W.getL k es = some none:=
 r.ind (m:=fun es kvs => kvs.lookup k = Option.none→PySem.W.getL k es = some none) (fun _ => rfl) fun k' t v d' es kvs x _ ih e => by
  rw [List.lookup_cons] at e
  by_cases hk:k = k'
  ·subst hk
   rw [beq_self_eq_true] at e
   cases e
  ·rw [beq_false_of_ne hk] at e
   rw [getL_ne hk]
   exact ih e
theorem rd_handed {P:Params} {own:List Addr} {h:Heap} {v:Value} {d:D} (r:Rd P own h v d):handedIn v = true:=by cases r <;> rfl
theorem rd_inst {P:Params} {own:List Addr} {h:Heap} {v:Value} {C:Addr} {kvs:List (Str × D)} (r:Rd P own h v (.inst C kvs)) :
  ∃ a dx es n,v = .ref a∧InstAt h a (instObj C dx) C (some (dictOf es n))∧RdKv P own h es kvs:=by
 cases r with
 | inst na nd ea ed rk => exact ⟨_,_,_,_,rfl,⟨ea,rfl,rfl,ed⟩,rk⟩
structure AttrOk (c:Cx) (C:Addr) (name:Str):Prop where
 plain:plainGet c.K C name = true
 dict:hasDictIn c.K C = true
 no:∃ attr,findIn c.K (.ref C) name = some attr∧noGet c.K attr = true
structure MethOk (c:Cx) (C:Addr) (name:Str) (f:Addr):Prop where
 plain:plainGet c.K C name = true
 at_:findIn c.K (.ref C) name = some (some (.ref f))
 fn:isFn c.K (.ref f) = true
theorem attr_eval {A:Around} {E:Value→Shared→Prop} {s:Shared} {own:List Addr} {C:Addr} {kvs:List (Str × D)} {name:Str} {d:D} {v:Value} {Q:Value→Shared→Prop} (o:AttrOk c C name) (e:kvs.lookup name = some d) (X:c.K.In s.heap) (r:Rd c.w.params own s.heap v (.inst C kvs))
  (h:∀ u,Rd c.w.params own s.heap u d→Q u { s with toks:=s.toks + 1 }):wpAny (model c.prog c.w) A (getAttr v name true) Q E s:=by
 left;rcases rd_inst r with ⟨a,dx,es,k,z0_,I,rk⟩;right;subst z0_
 left;rcases rk.getL e with ⟨u,hu,hr⟩;right
 left;rcases o.no with ⟨attr,h1,h2⟩;right
 exact get_value X I (plainGet_of o.plain).1 (findObj_own o.dict h1 h2 hu) (rd_handed hr) (h u hr)
theorem EV.attr {o:PySem.Expr} {C:Addr} {kvs:List (Str × D)} {name:Str} {pos:Pos} {d:D} (x:EV c n env lo o (.inst C kvs)) (k:AttrOk c C name) (e:kvs.lookup name = some d)
  (he:autoParam (eval (.Attribute o name pos) env = (do
   let ov ← eval o env
   standAt pos.atName
   let r ← holding [ov] (getAttr ov name true)
   letTemporaryGo o ov r
   pure r)) byRfl):EV c n env lo (.Attribute o name pos) d:=fun A E s own Q S h => by
 rw [he]
 refine wpAny_bind (wpAny_mono (x A E s own _ S fun v s₁ k₁ rv => ?_) (fun _ _ z => z) fun _ _ z => z)
 refine wpAny_bind (wpAny_standAt (wpAny_bind (wpAny_holding (attr_eval k e (S.mono k₁).K rv fun u hu => ?_))))
 exact wpAny_bind (wpAny_letTemporaryGo (wpAny_pure (h u _ (k₁.trans ⟨keeps_toks _ _,Nat.le_succ _⟩) (Rd.ext (fun _ _ e => e) hu))))
theorem meth_get {A:Around} {E:Value→Shared→Prop} {s:Shared} {own:List Addr} {C f:Addr} {kvs:List (Str × D)} {name:Str} {v:Value} {pl:Sem Bool} {Q:Value × List Value→Shared→Prop} (o:MethOk c C name f) (e:kvs.lookup name = Option.none) (X:c.K.In s.heap) (r:Rd c.w.params own s.heap v (.inst C kvs))
  (h:Q (.ref f,[v]) s):wpAny (model c.prog c.w) A (getMethod v name pl) Q E s:=by
 left;rcases rd_inst r with ⟨a,dx,es,k,z0_,I,rk⟩;right;subst z0_
 exact method_fn X I (plainGet_of o.plain).1 (plainGet_of o.plain).2 o.at_ (beq_iff_eq.mp o.fn) (by show (lookIn name (dictOf es k)).map _ = _; rw [lookIn_dict,rk.getL_none e]; rfl) h
theorem EV.meth {o:PySem.Expr} {m:Str} {apos pos:Pos} {es:List PySem.Expr} {C f:Addr} {kvs:List (Str × D)} {ds:List D} {d:D} {pl:Sem Bool} (y:EV c n env lo o (.inst C kvs)) (a:EVs c n env lo es ds) (k:MethOk c C m f) (e:kvs.lookup m = Option.none) (hk:KeepF c (.ref f)) (F:FnOk c n (.ref f) (.inst C kvs :: ds) [] d)
  (he:autoParam (eval (.Call (.Attribute o m apos) es [] pos) env = (do
   let ov ← eval o env
   standAt apos.atName
   let (f,first) ← holding [ov] (getMethod ov m pl)
   callWith pos f first (backTo pos (starEach es env)) (backToKw pos (keywordEach [] env)))) byRfl) (hp:autoParam (Plain es env pos) byPl2) :
  EV c n env lo (.Call (.Attribute o m apos) es [] pos) d:=fun A E s own Q S h =>
 methodCall_KW (y A E s own _ S fun v s₁ k₁ rv => meth_get k e (S.mono k₁).K rv (callWith_ev (first:=[v]) hk a hp (S.mono k₁) fun vs s₂ k₂ r =>
  F A E s₂ own (v :: vs) Q (S.mono (k₁.trans k₂)).ao (S.mono (k₁.trans k₂)).ext (S.mono (k₁.trans k₂)).ok (S.mono (k₁.trans k₂)).base (S.mono (k₁.trans k₂)).tok (.cons (rv.ext k₂.ext) r) fun u s' q r' => h u s' ((k₁.trans k₂).trans q) r')) he
theorem EV.methKw {o e₁:PySem.Expr} {m kn:Str} {apos pos kp:Pos} {kb:Bool} {ki:Nat} {kpos:Pos} {C f:Addr} {kvs:List (Str × D)} {d₁ d:D} {pl:Sem Bool} (y:EV c n env lo o (.inst C kvs)) (a:EV c n env lo e₁ d₁) (k:MethOk c C m f) (e:kvs.lookup m = Option.none) (hk:KeepF c (.ref f))
  (F:FnOk c n (.ref f) [.inst C kvs,d₁] [(kn,kb)] d)
  (he:autoParam (eval (.Call (.Attribute o m apos) [e₁] [⟨some kn,.Constant (.bool kb) ki kp,kpos⟩] pos) env = (do
   let ov ← eval o env
   standAt apos.atName
   let (f,first) ← holding [ov] (getMethod ov m pl)
   callWith pos f first (backTo pos (starEach [e₁] env)) (backToKw pos (keywordEach [⟨some kn,.Constant (.bool kb) ki kp,kpos⟩] env)))) byRfl) (hp:autoParam (starEach [e₁] env = [(false,eval e₁ env)]) byRfl) :
  EV c n env lo (.Call (.Attribute o m apos) [e₁] [⟨some kn,.Constant (.bool kb) ki kp,kpos⟩] pos) d:=fun A E s own Q S h =>
 methodCall_KW (y A E s own _ S fun v s₁ k₁ rv => meth_get k e (S.mono k₁).K rv (by
  refine callWith_of (by rw [hp]; rfl) (fun h' X => hk _ h' X) (evalArgs_kw2 rfl ?_ hp)
  refine wpAny_items_cons (a A E s₁ own _ (S.mono k₁) fun u s₂ k₂ ru => wpAny_items_nil ?_) hp
  refine wpAny_evalAll_cons (wpAny_bind (wpAny_Constant_bool (wpAny_bind (wpAny_standAt (wpAny_pure (wpAny_evalAll_nil ⟨(S.mono (k₁.trans k₂)).K,?_⟩))))))
  exact F A E s₂ own [v,u] Q (S.mono (k₁.trans k₂)).ao (S.mono (k₁.trans k₂)).ext (S.mono (k₁.trans k₂)).ok (S.mono (k₁.trans k₂)).base (S.mono (k₁.trans k₂)).tok (.cons (rv.ext k₂.ext) (.cons ru .nil)) fun u s' q r' => h u s' ((k₁.trans k₂).trans q) r')) he
end
end
section
inductive OwnD where
 | lst (ds:List D)
 | hdr (C:Addr) (ds:List D)
 | ins (C:Addr) (kvs:List (Str × D))
noncomputable def OwnD.froze:OwnD→D
 | .lst ds => .lst ds
 | .hdr C ds => .inst C [(Str.ofString "_headers",.lst ds)]
 | .ins C kvs => .inst C kvs
noncomputable def OwnIs (P:Params) (own:List Addr) (h:Heap) (a:Addr):OwnD→List Addr→Prop
 | .lst ds,as => as = [a]∧∃ vs n,h.get? a = some { cls:=.type "list",data:=.seq vs.toArray n }∧RdAll P own h vs ds
 | .hdr C ds,as => ∃ dx l vs n k t,as = [a,dx,l]∧a ≠ dx∧h.get? a = some (instObj C dx)∧h.get? dx = some (dictOf [⟨PyData.keyHash P (Str.ofString "_headers"),.str (Str.ofString "_headers") t,.ref l⟩] k) ∧
   h.get? l = some { cls:=.type "list",data:=.seq vs.toArray n }∧RdAll P own h vs ds
 | .ins C kvs,as => ∃ dx es k,as = [a,dx]∧a ≠ dx∧h.get? a = some (instObj C dx)∧h.get? dx = some (dictOf es k)∧RdKv P own h es kvs
structure Sto (c:Cx) (n:Nat) (A:Around) (env:Env) (b:Shared) (co own:List Addr) (ad:Str→List Addr) (lo:List (Str × D)) (ow:List (Str × OwnD)) (ex:List (Str × Value)) (s:Shared):Prop where
 sit:Sit c n A env own lo s
 coIn:∀ a ∈ co,a ∈ own
 new:∀ a ∈ own,a ∈ co ∨ b.heap.get? a = none
 keep:Keeps b s
 loc:(∃ m,s.heap.Ns env.locals m)∧env.locals ∈ own∧env.locals ∉ co
 cell:∀ x a,ex.lookup x = none→env.kindOf x = some .cell→env.cells.lookup x = some a→(∃ v,s.heap.IsCell a v)∧a ∈ own∧a ∉ co
 cells:∀ x y a,ex.lookup x = none→env.kindOf x = some .cell→env.cells.lookup x = some a→env.cells.lookup y = some a→x = y
 exact:∀ x v,ex.lookup x = some v→NameIs env s.heap x v
 owns:∀ x w,ow.lookup x = some w→∃ a,NameIs env s.heap x (.ref a)∧OwnIs c.w.params own s.heap a w (ad x)∧(∀ q ∈ ad x,q ∈ own∧q ∉ co∧q ≠ env.locals)
 apart:∀ x y w w' q,ow.lookup x = some w→ow.lookup y = some w'→x ≠ y→q ∈ ad x→q ∉ ad y
noncomputable def SO (c:Cx) (n:Nat) (A:Around) (env:Env) (b:Shared) (co:List Addr) (lo:List (Str × D)) (ow:List (Str × OwnD)) (ex:List (Str × Value)) (s:Shared):Prop:=
 ∃ own ad,Sto c n A env b co own ad lo ow ex s
theorem ns_unique {h:Heap} {L:Addr} {m m':Str→Option Value} (x:h.Ns L m) (y:h.Ns L m'):m = m':=by
 left;rcases x with ⟨o,es,ep,a,b,_,e⟩;right
 left;rcases y with ⟨o',es',ep',a',b',_,e'⟩;right
 rw [a] at a'; cases a'; rw [b] at b'; cases b'
 exact funext fun k => (e k).symm.trans (e' k)
theorem funFrames_but {h h' base:Heap} {q:Addr} {o:Obj} (sb:Heap.SameBut q h h') (hq:h'.get? q = some o) (hd:∀ vs,o.data ≠ .fields vs):∀ {l:List Env},h.FunFrames base l→h'.FunFrames base l
 | [],_ => trivial
 | e :: r,⟨a,⟨L,o',b1,b2,b3,b4⟩,d⟩ => by
  refine ⟨a,?_,funFrames_but sb hq hd d⟩
  by_cases e:L = q
  ·subst e; exact ⟨L,o,b1,b2,hq,hd⟩
  ·exact ⟨L,o',b1,b2,(sb.2 L e).trans b3,b4⟩
theorem keep_of {own:List Addr} {q:Addr} {h h':Heap} (hq:q ∈ own) (sb:Heap.SameBut q h h'):Keep own h h':=fun a o na e => by
 by_cases z:a = q
 ·subst z; exact absurd hq na
 ·exact (sb.2 a z).trans e
section
variable {c:Cx} {n:Nat} {A:Around} {env:Env} {b:Shared} {co own:List Addr} {ad:Str→List Addr} {lo:List (Str × D)} {ow:List (Str × OwnD)} {ex:List (Str × Value)} {s:Shared}
theorem OwnIs.keep {P:Params} {own:List Addr} {h h':Heap} {a:Addr} {w:OwnD} {as:List Addr} (ok:OwnOk own h) (k:Keep own h h') (ka:∀ q ∈ as,∀ o,h.get? q = some o→h'.get? q = some o) (x:OwnIs P own h a w as):OwnIs P own h' a w as:=by
 cases w with
 | lst ds =>
  left;rcases x with ⟨z0_,vs,n,e,r⟩;right;subst z0_
  exact ⟨rfl,vs,n,ka a (by simp) _ e,r.keep ok k⟩
 | hdr C ds =>
  left;rcases x with ⟨dx,l,vs,n,m,t,z0_,d,e1,e2,e3,r⟩;right;subst z0_
  exact ⟨dx,l,vs,n,m,t,rfl,d,ka a (by simp) _ e1,ka dx (by simp) _ e2,ka l (by simp) _ e3,r.keep ok k⟩
 | ins C kvs =>
  left;rcases x with ⟨dx,es,m,z0_,d,e1,e2,r⟩;right;subst z0_
  exact ⟨dx,es,m,rfl,d,ka a (by simp) _ e1,ka dx (by simp) _ e2,r.keep ok k⟩
theorem OwnIs.objs {P:Params} {own:List Addr} {h:Heap} {a:Addr} {w:OwnD} {as:List Addr} (x:OwnIs P own h a w as):∀ q ∈ as,∃ o,h.get? q = some o∧∀ v,o.data ≠ .cell v:=by
 cases w with
 | lst ds =>
  left;rcases x with ⟨z0_,vs,n,e,r⟩;right;subst z0_
  intro q hq
  simp at hq; subst hq
  exact ⟨_,e,fun v z => by cases z⟩
 | hdr C ds =>
  left;rcases x with ⟨dx,l,vs,n,m,t,z0_,d,e1,e2,e3,r⟩;right;subst z0_
  intro q hq
  simp at hq
  rcases hq with rfl | rfl | rfl
  ·exact ⟨_,e1,fun v z => by cases z⟩
  ·exact ⟨_,e2,fun v z => by cases z⟩
  ·exact ⟨_,e3,fun v z => by cases z⟩
 | ins C kvs =>
  left;rcases x with ⟨dx,es,m,z0_,d,e1,e2,r⟩;right;subst z0_
  intro q hq
  simp at hq
  rcases hq with rfl | rfl
  ·exact ⟨_,e1,fun v z => by cases z⟩
  ·exact ⟨_,e2,fun v z => by cases z⟩
theorem Keeps.step {b s:Shared} (k:Keeps b s) {h':Heap} {tk:Nat} (e:Ext b.heap h'):Keeps b { s with heap:=h',toks:=tk }:=by
 left;rcases k with ⟨h,t,z0_,_⟩;right;subst z0_
 exact ⟨h',tk,rfl,e⟩
theorem Sto.turn (S:Sto c n A env b co own ad lo ow ex s) {x:Str} {v:Value} {q:Addr} {h':Heap} {tk:Nat} (htk:s.toks ≤ tk) (hq:q ∈ own) (hqc:q ∉ co) (sb:Heap.SameBut q s.heap h') {oq:Obj} (hoq:h'.get? q = some oq) (hof:∀ vs,oq.data ≠ .fields vs) (hot:∀ vs n,oq.data ≠ .seq vs n)
  (hqa:∀ y w,ow.lookup y = some w→q ∉ ad y)
  (hx:NameIs env h' x v) (hy:∀ y u,y ≠ x→NameIs env s.heap y u→NameIs env h' y u) (hL:∃ m,h'.Ns env.locals m) (hC:∀ x a,ex.lookup x = none→env.kindOf x = some .cell→env.cells.lookup x = some a→∃ v,h'.IsCell a v)
  (how:ow.lookup x = none) (hex:ex.lookup x = none) :
  (∀ d,Rd c.w.params own s.heap v d→Sto c n A env b co own ad ((x,d) :: lo) ow ex { s with heap:=h',toks:=tk }) ∧
  (∀ a w as,v = .ref a→OwnIs c.w.params own s.heap a w as→(∀ p ∈ as,p ≠ q)→(∀ p ∈ as,p ∈ own∧p ∉ co∧p ≠ env.locals)→(∀ y w',ow.lookup y = some w'→∀ p ∈ as,p ∉ ad y)→lo.lookup x = none →
   Sto c n A env b co own (fun y => if y = x then as else ad y) lo ((x,w) :: ow) ex { s with heap:=h',toks:=tk }):=by
 have kp:=keep_of hq sb
 have ok':OwnOk own h':=fun a ha => by
  by_cases z:a = q
  ·subst z; exact ⟨oq,hoq,fun z => by left;rcases z with ⟨_,vs,k,e⟩;right; exact hot vs k e⟩
  ·left;rcases S.sit.ok a ha with ⟨o,ho,hc⟩;right
   exact ⟨o,(sb.2 a z).trans ho,hc⟩
 have eb:Ext b.heap h':=fun a o e => by
  by_cases z:a = q
  ·subst z
   rcases S.new a hq with y | y
   ·exact absurd y hqc
   ·rw [y] at e; cases e
  ·exact (sb.2 a z).trans ((Keeps.ext S.keep) a o e)
 have ao':AOk c n A h':=⟨S.sit.ao.handled,S.sit.ao.depth,S.sit.ao.units,let ⟨o,p,r⟩:=S.sit.ao.frames; ⟨o,p,funFrames_but sb hoq hof r⟩⟩
 have eH:Ext c.H h':=fun a o e => by
  by_cases z:a = q
  ·subst z; rw [S.sit.base a hq] at e; cases e
  ·exact (sb.2 a z).trans (S.sit.ext a o e)
 have names:∀ y d,y ≠ x→lo.lookup y = some d→∃ u,NameIs env h' y u∧Rd c.w.params own h' u d:=fun y d hn e => by
  left;rcases S.sit.names y d e with ⟨u,a,r⟩;right
  exact ⟨u,hy y u hn a,r.keep S.sit.ok kp⟩
 have cells:∀ x a,ex.lookup x = none→env.kindOf x = some .cell→env.cells.lookup x = some a→(∃ v,h'.IsCell a v)∧a ∈ own∧a ∉ co:=fun y a ke k l => ⟨hC y a ke k l,(S.cell y a ke k l).2⟩
 have exact':∀ y u,ex.lookup y = some u→NameIs env h' y u:=fun y u e => hy y u (fun z => by subst z; rw [hex] at e; cases e) (S.exact y u e)
 have owns:∀ y w,ow.lookup y = some w→∃ a,NameIs env h' y (.ref a)∧OwnIs c.w.params own h' a w (ad y)∧(∀ q ∈ ad y,q ∈ own∧q ∉ co∧q ≠ env.locals):=fun y w e => by
  left;rcases S.owns y w e with ⟨a,n1,o1,l1⟩;right
  refine ⟨a,hy y _ (fun z => by subst z; rw [how] at e; cases e) n1,o1.keep S.sit.ok kp (fun p hp o ho => ?_),l1⟩
  exact (sb.2 p fun z => by subst z; exact hqa y w e hp).trans ho
 refine ⟨fun d rd => ?_,fun a w as hv hw hp ho ha hlo => ?_⟩
 ·refine ⟨⟨S.sit.ek,ao',eH,ok',S.sit.base,Nat.le_trans S.sit.tok htk,fun y e hl => ?_⟩,S.coIn,S.new,Keeps.step S.keep eb,⟨hL,S.loc.2⟩,cells,S.cells,exact',owns,S.apart⟩
  rw [List.lookup_cons] at hl
  by_cases z:(y == x) = true
  ·rw [z] at hl; cases hl
   have:y = x:=by simpa using z
   subst this
   exact ⟨v,hx,rd.keep S.sit.ok kp⟩
  ·have z':(y == x) = false:=by simpa using z
   rw [z'] at hl
   exact names y e (by simpa using z) hl
 ·subst hv
  refine ⟨⟨S.sit.ek,ao',eH,ok',S.sit.base,Nat.le_trans S.sit.tok htk,fun y e hl => names y e (fun z => by subst z; rw [hlo] at hl; cases hl) hl⟩,S.coIn,S.new,Keeps.step S.keep eb,⟨hL,S.loc.2⟩,cells,S.cells,exact',fun y w' hl => ?_,fun y z w' w'' p hl hl' hn hp hp' => ?_⟩
  ·rw [List.lookup_cons] at hl
   by_cases z:(y == x) = true
   ·rw [z] at hl; cases hl
    have:y = x:=by simpa using z
    subst this
    simp only [if_true]
    exact ⟨a,hx,hw.keep S.sit.ok kp (fun p hq' o ho' => (sb.2 p (hp p hq')).trans ho'),ho⟩
   ·have z':(y == x) = false:=by simpa using z
    rw [z'] at hl
    have hn:y ≠ x:=by simpa using z
    simp only [if_neg hn]
    exact owns y w' hl
  ·rw [List.lookup_cons] at hl hl'
   by_cases z1:y = x
   ·subst z1
    have z2:¬ z = y:=fun q => hn q.symm
    have z3:(z == y) = false:=by simpa using z2
    rw [z3] at hl'
    simp only [if_true] at hp
    simp only [if_neg z2] at hp'
    exact ha z w'' hl' p hp hp'
   ·have z3:(y == x) = false:=by simpa using z1
    rw [z3] at hl
    simp only [if_neg z1] at hp
    by_cases z2:z = x
    ·subst z2
     simp only [if_true] at hp'
     exact ha y w' hl p hp' hp
    ·have z4:(z == x) = false:=by simpa using z2
     rw [z4] at hl'
     simp only [if_neg z2] at hp'
     exact S.apart y z w' w'' p hl hl' hn hp hp'
theorem own_not_cell {P:Params} {own:List Addr} {h:Heap} {a q:Addr} {w:OwnD} {as:List Addr} {v:Option Value} (x:OwnIs P own h a w as) (hc:h.IsCell q v):q ∉ as:=fun hm => by
 left;rcases x.objs q hm with ⟨o,e1,e2⟩;right
 left;rcases hc with ⟨o',e3,e4⟩;right
 rw [e1] at e3; cases e3
 exact e2 _ e4
theorem Sto.store (S:Sto c n A env b co own ad lo ow ex s) {E:Value→Shared→Prop} {x:Str} {v:Value} {Q:Unit→Shared→Prop} (hk:env.kindOf x = some .local ∨ (env.kindOf x = some .cell∧(env.cells.lookup x).isSome = true)) (how:ow.lookup x = none) (hex:ex.lookup x = none)
  (h:∀ s',(∀ d,Rd c.w.params own s.heap v d→Sto c n A env b co own ad ((x,d) :: lo) ow ex s') →
   (∀ a w as,v = .ref a→OwnIs c.w.params own s.heap a w as→(∀ p ∈ as,p ∈ own∧p ∉ co∧p ≠ env.locals)→(∀ y w',ow.lookup y = some w'→∀ p ∈ as,p ∉ ad y)→lo.lookup x = none→Sto c n A env b co own (fun y => if y = x then as else ad y) lo ((x,w) :: ow) ex s')→Q () s') :
  wpAny (model c.prog c.w) A (storeName env x v) Q E s:=by
 left;rcases S.loc with ⟨⟨m,hm⟩,hLo,hLc⟩;right
 rcases hk with hk | ⟨hk,hs⟩
 ·refine wpAny_storeName_local hk hm (fun h' hn hs => ?_) (by rw [S.sit.ek.kind]; rfl)
  have hn':=hn
  left;rcases hn' with ⟨o,es,ep,g1,g2,_,_⟩;right
  have T:=S.turn (x:=x) (v:=v) (tk:=s.toks + 1) (Nat.le_succ _) hLo hLc hs g1 (fun vs z => by rw [g2] at z; cases z) (fun vs k z => by rw [g2] at z; cases z)
   (fun y w e hm => by left;rcases S.owns y w e with ⟨_,_,_,z⟩;right; exact (z _ hm).2.2 rfl)
   (.inl ⟨hk,_,hn,by simp⟩)
   (fun y u hyx e => by
    rcases e with ⟨a,m',b',d'⟩ | ⟨a,q,b',d'⟩
    ·have:=ns_unique b' hm; subst this
     exact .inl ⟨a,_,hn,by simp [hyx,d']⟩
    ·exact .inr ⟨a,q,b',d'.sameBut hs (fun z => by
      subst z
      left;rcases d' with ⟨o1,x1,x2⟩;right
      left;rcases hm with ⟨o2,_,_,x3,x4,_,_⟩;right
      rw [x1] at x3; cases x3; rw [x2] at x4; cases x4)⟩)
   ⟨_,hn⟩
   (fun y a ke k l => by
    left;rcases S.cell y a ke k l with ⟨⟨u,hu⟩,_⟩;right
    exact ⟨u,hu.sameBut hs (fun z => by
      subst z
      left;rcases hu with ⟨o1,x1,x2⟩;right
      left;rcases hm with ⟨o2,_,_,x3,x4,_,_⟩;right
      rw [x1] at x3; cases x3; rw [x2] at x4; cases x4)⟩)
   how hex
  exact h _ T.1 fun a w as hv hw hp ha hlo => T.2 a w as hv hw (fun p hp' => (hp p hp').2.2) hp ha hlo
 ·obtain ⟨q,hq⟩:=Option.isSome_iff_exists.mp hs
  left;rcases S.cell x q hex hk hq with ⟨⟨u,hu⟩,hqo,hqc⟩;right
  refine wpAny_storeName_cell S.sit.ek.kind hk hq hu fun h' hc hs => ?_
  have hc':=hc
  left;rcases hc' with ⟨o,g1,g2⟩;right
  have hqL:env.locals ≠ q:=fun z => by
   subst z
   left;rcases hu with ⟨o1,x1,x2⟩;right
   left;rcases hm with ⟨o2,_,_,x3,x4,_,_⟩;right
   rw [x1] at x3; cases x3; rw [x2] at x4; cases x4
  have T:=S.turn (x:=x) (v:=v) (tk:=s.toks) (Nat.le_refl _) hqo hqc hs g1 (fun vs z => by rw [g2] at z; cases z) (fun vs k z => by rw [g2] at z; cases z)
   (fun y w e hm => by left;rcases S.owns y w e with ⟨_,_,z,_⟩;right; exact own_not_cell z hu hm)
   (.inr ⟨.inl hk,_,hq,hc⟩)
   (fun y u' hyx e => by
    rcases e with ⟨a,m',b',d'⟩ | ⟨a,q',b',d'⟩
    ·exact .inl ⟨a,_,b'.sameBut hs hqL,d'⟩
    ·exact .inr ⟨a,q',b',d'.sameBut hs (fun z => by subst z; exact hyx (S.cells _ _ _ hex hk hq b').symm)⟩)
   ⟨_,hm.sameBut hs hqL⟩
   (fun y a ke k l => by
    left;rcases S.cell y a ke k l with ⟨⟨u',hu'⟩,_⟩;right
    by_cases z:a = q
    ·subst z; exact ⟨_,hc⟩
    ·exact ⟨u',hu'.sameBut hs z⟩)
   how hex
  refine h _ T.1 fun a w as hv hw hp ha hlo => T.2 a w as hv hw (fun p hp' z => ?_) hp ha hlo
  subst z
  exact own_not_cell hw hu hp'
end
end
section
noncomputable def frozen (ow:List (Str × OwnD)):List (Str × D):=ow.map fun p => (p.1,p.2.froze)
mutual
noncomputable def flatD:D→Bool
 | .none => true
 | .bool _ => true
 | .int _ => true
 | .str _ => true
 | .tup ds => flatDs ds
 | _ => false
noncomputable def flatDs:List D→Bool
 | [] => true
 | d :: r => flatD d && flatDs r
end
section
variable {P:Params} {own own':List Addr} {h h':Heap}
theorem Rd.flat {v:Value} {d:D} (f:flatD d = true) (r:Rd P own h v d):Rd P own' h v d:=
 Rd.rec (motive_1:=fun v d _ => flatD d = true→Rd P own' h v d) (motive_2:=fun vs ds _ => flatDs ds = true→RdAll P own' h vs ds) (motive_3:=fun _ _ _ => True) (fun _ => .none) (fun b _ => .bool b) (fun i t _ => .int i t) (fun x t _ => .str x t)
  (fun e c d _ r f => .tup e c d (r f)) (fun _ _ _ _ _ _ f => nomatch f) (fun _ _ _ _ f => nomatch f) (fun _ _ _ _ _ _ f => nomatch f) (fun _ => .nil) (fun _ _ x r f => .cons (x (Bool.and_eq_true_iff.mp f).1) (r (Bool.and_eq_true_iff.mp f).2)) trivial (fun _ _ _ _ => trivial) r f
theorem RdAll.flat {vs:List Value} {ds:List D} (f:flatDs ds = true) (r:RdAll P own h vs ds):RdAll P own' h vs ds:=
 r.ind (m:=fun vs ds => flatDs ds = true→RdAll P own' h vs ds) (fun _ => .nil) (fun _ _ _ _ x _ ih f => .cons (x.flat (Bool.and_eq_true_iff.mp f).1) (ih (Bool.and_eq_true_iff.mp f).2)) f
end
inductive Out where
 | next (lo:List (Str × D)) (ow:List (Str × OwnD))
 | brk (lo:List (Str × D)) (ow:List (Str × OwnD))
 | ret (d:D)
noncomputable def OutIs (c:Cx) (n:Nat) (A:Around) (env:Env) (b:Shared) (co:List Addr) (ex:List (Str × Value)):Out→Flow→Shared→Prop
 | .next lo ow,fl,s => fl = .next∧SO c n A env b co lo ow ex s
 | .brk lo ow,fl,s => fl = .brk∧SO c n A env b co lo ow ex s
 | .ret d,fl,s => ∃ v,fl = .ret v∧Rd c.w.params co s.heap v d∧Keeps b s
noncomputable def Ex (c:Cx) (n:Nat) (env:Env) (ex:List (Str × Value)) (st:List Stmt) (lo:List (Str × D)) (ow:List (Str × OwnD)) (o:Out):Prop:=
 ∀ (A:Around) (E:Value→Shared→Prop) (b:Shared) (co:List Addr) (s:Shared),SO c n A env b co lo ow ex s→wpAny (model c.prog c.w) A (execs st env) (OutIs c n A env b co ex o) E s
noncomputable def Ex1 (c:Cx) (n:Nat) (env:Env) (ex:List (Str × Value)) (st:Stmt) (lo:List (Str × D)) (ow:List (Str × OwnD)) (o:Out):Prop:=
 ∀ (A:Around) (E:Value→Shared→Prop) (b:Shared) (co:List Addr) (s:Shared),SO c n A env b co lo ow ex s→wpAny (model c.prog c.w) A (exec st env) (OutIs c n A env b co ex o) E s
noncomputable def Sub:List (Str × D)→List (Str × D)→Prop
 | [],_ => True
 | (x,d) :: r,lo => lo.lookup x = some d∧Sub r lo
theorem Sub.of {lo:List (Str × D)}:∀ {lo':List (Str × D)},(lo'.map fun p => lo.lookup p.1) = lo'.map (fun p => some p.2)→Sub lo' lo
 | [],_ => trivial
 | _ :: _,h => ⟨(List.cons.inj h).1,Sub.of (List.cons.inj h).2⟩
theorem Sub.at {lo:List (Str × D)}:∀ {lo':List (Str × D)},Sub lo' lo→∀ x d,lo'.lookup x = some d→lo.lookup x = some d
 | [],_,x,d,e => by simp at e
 | (y,e') :: r,h,x,d,e => by
  rw [List.lookup_cons] at e
  by_cases z:(x == y) = true
  ·rw [z] at e; cases e
   have:x = y:=by simpa using z
   subst this; exact h.1
  ·have z':(x == y) = false:=by simpa using z
   rw [z'] at e; exact h.2.at x d e
noncomputable def SubO:List (Str × OwnD)→List (Str × OwnD)→Prop
 | [],_ => True
 | (x,d) :: r,lo => lo.lookup x = some d∧SubO r lo
theorem SubO.of {lo:List (Str × OwnD)}:∀ {lo':List (Str × OwnD)},(lo'.map fun p => lo.lookup p.1) = lo'.map (fun p => some p.2)→SubO lo' lo
 | [],_ => trivial
 | _ :: _,h => ⟨(List.cons.inj h).1,SubO.of (List.cons.inj h).2⟩
theorem SubO.at {lo:List (Str × OwnD)}:∀ {lo':List (Str × OwnD)},SubO lo' lo→∀ x d,lo'.lookup x = some d→lo.lookup x = some d
 | [],_,x,d,e => by simp at e
 | (y,e') :: r,h,x,d,e => by
  rw [List.lookup_cons] at e
  by_cases z:(x == y) = true
  ·rw [z] at e; cases e
   have:x = y:=by simpa using z
   subst this; exact h.1
  ·have z':(x == y) = false:=by simpa using z
   rw [z'] at e; exact h.2.at x d e
section
variable {c:Cx} {n:Nat} {A:Around} {env:Env} {b:Shared} {co own:List Addr} {ad:Str→List Addr} {lo lo':List (Str × D)} {ow ow':List (Str × OwnD)} {ex:List (Str × Value)} {s s':Shared} {o:Out}
theorem Sto.weak (S:Sto c n A env b co own ad lo ow ex s) (h1:∀ x d,lo'.lookup x = some d→lo.lookup x = some d) (h2:∀ x d,ow'.lookup x = some d→ow.lookup x = some d):Sto c n A env b co own ad lo' ow' ex s:=
 {S with sit:={ S.sit with names:=fun x d e => S.sit.names x d (h1 x d e) },owns:=fun x w e => S.owns x w (h2 x w e),apart:=fun x y w w' q e e' => S.apart x y w w' q (h2 x w e) (h2 y w' e') }
theorem SO.weak (S:SO c n A env b co lo ow ex s) (h1:Sub lo' lo) (h2:SubO ow' ow):SO c n A env b co lo' ow' ex s:=by
 left;rcases S with ⟨own,ad,S⟩;right
 exact ⟨own,ad,S.weak h1.at h2.at⟩
theorem Sto.mono (S:Sto c n A env b co own ad lo ow ex s) (k:K2 s s'):Sto c n A env b co own ad lo ow ex s' where
 sit:=S.sit.mono k
 coIn:=S.coIn
 new:=S.new
 keep:=Keeps.trans' S.keep k.1
 loc:=⟨let ⟨m,hm⟩:=S.loc.1; ⟨m,hm.keeps k.ext⟩,S.loc.2⟩
 cell:=fun x a ke e e' => by left;rcases S.cell x a ke e e' with ⟨⟨v,hv⟩,r⟩;right; exact ⟨⟨v,hv.keeps k.ext⟩,r⟩
 cells:=S.cells
 exact:=fun x v e => (S.exact x v e).ext k.ext
 owns:=fun x w e => by
  left;rcases S.owns x w e with ⟨a,n1,o1,l1⟩;right
  exact ⟨a,n1.ext k.ext,o1.keep S.sit.ok (Ext.keep k.ext) (fun q _ o ho => k.ext q o ho),l1⟩
 apart:=S.apart
noncomputable def thaw (own:List Addr) (ad:Str→List Addr) (ow:List (Str × OwnD)):List Addr:=own.filter fun a => !(ow.any fun p => (ad p.1).contains a)
theorem frozen_lookup {x:Str} {d:D}:∀ {ow:List (Str × OwnD)},(frozen ow).lookup x = some d→∃ w,ow.lookup x = some w∧w.froze = d
 | [],e => by simp [frozen] at e
 | (y,w) :: r,e => by
  simp only [frozen,List.map_cons,List.lookup_cons] at e ⊢
  by_cases z:(x == y) = true
  ·rw [z] at e ⊢; cases e; exact ⟨w,rfl,rfl⟩
  ·have z':(x == y) = false:=by simpa using z
   rw [z'] at e ⊢; exact frozen_lookup (ow:=r) e
theorem lookup_append {α:Type} {x:Str} {d:α}:∀ {l r:List (Str × α)},(l ++ r).lookup x = some d→l.lookup x = some d ∨ r.lookup x = some d
 | [],r,e => .inr e
 | (y,w) :: l,r,e => by
  simp only [List.cons_append,List.lookup_cons] at e ⊢
  by_cases z:(x == y) = true
  ·rw [z] at e ⊢; exact .inl e
  ·have z':(x == y) = false:=by simpa using z
   rw [z'] at e ⊢; exact lookup_append e
theorem mem_of_lookup' {α:Type} {x:Str} {d:α}:∀ {l:List (Str × α)},l.lookup x = some d→(x,d) ∈ l
 | (y,w) :: r,e => by
  rw [List.lookup_cons] at e
  by_cases z:(x == y) = true
  ·rw [z] at e; cases e
   have:x = y:=by simpa using z
   subst this; exact .head _
  ·have z':(x == y) = false:=by simpa using z
   rw [z'] at e; exact .tail _ (mem_of_lookup' e)
theorem thaw_sub {own:List Addr} {ad:Str→List Addr} {ow:List (Str × OwnD)}:∀ a ∈ thaw own ad ow,a ∈ own:=fun a h => (List.mem_filter.mp h).1
theorem thaw_not {own:List Addr} {ad:Str→List Addr} {ow:List (Str × OwnD)} {x:Str} {w:OwnD} (e:ow.lookup x = some w) {q:Addr} (hq:q ∈ ad x):q ∉ thaw own ad ow:=fun h => by
 have:=(List.mem_filter.mp h).2
 rw [Bool.not_eq_true',List.any_eq_false] at this
 exact this _ (mem_of_lookup' e) (by simpa using hq)
theorem OwnIs.froze {P:Params} {own own':List Addr} {h:Heap} {a:Addr} {w:OwnD} {as:List Addr} (x:OwnIs P own h a w as) (hs:∀ q ∈ own',q ∈ own) (hn:∀ q ∈ as,q ∉ own'):Rd P own' h (.ref a) w.froze:=by
 cases w with
 | lst ds =>
  left;rcases x with ⟨z0_,vs,n,e,r⟩;right;subst z0_
  exact .lst (hn a (by simp)) e rfl rfl (r.sub hs)
 | hdr C ds =>
  left;rcases x with ⟨dx,l,vs,n,m,t,z0_,d,e1,e2,e3,r⟩;right;subst z0_
  exact .inst (hn a (by simp)) (hn dx (by simp)) e1 e2 (.cons (.lst (hn l (by simp)) e3 rfl rfl (r.sub hs)) .nil)
 | ins C kvs =>
  left;rcases x with ⟨dx,es,m,z0_,d,e1,e2,r⟩;right;subst z0_
  exact .inst (hn a (by simp)) (hn dx (by simp)) e1 e2 (r.sub hs)
theorem Sto.thawed (S:Sto c n A env b co own ad lo ow ex s):Sit c n A env (thaw own ad ow) (lo ++ frozen ow) s where
 ek:=S.sit.ek
 ao:=S.sit.ao
 ext:=S.sit.ext
 ok:=fun a h => S.sit.ok a (thaw_sub a h)
 base:=fun a h => S.sit.base a (thaw_sub a h)
 tok:=S.sit.tok
 names:=fun x d e => by
  rcases lookup_append e with e | e
  ·left;rcases S.sit.names x d e with ⟨v,a,r⟩;right
   exact ⟨v,a,r.sub thaw_sub⟩
  ·left;rcases frozen_lookup e with ⟨w,e1,z0_⟩;right;subst z0_
   left;rcases S.owns x w e1 with ⟨a,n1,o1,l1⟩;right
   exact ⟨_,n1,o1.froze thaw_sub fun q hq => thaw_not e1 hq⟩
theorem Sto.co_thaw (S:Sto c n A env b co own ad lo ow ex s):∀ a ∈ co,a ∈ thaw own ad ow:=fun a h => List.mem_filter.mpr ⟨S.coIn a h,by
 rw [Bool.not_eq_true',List.any_eq_false]
 intro p hp
 cases e:ow.lookup p.1 with
 | none =>
  exfalso
  have:(ow.lookup p.1).isSome = true:=by
   clear e S h
   induction ow with
   | nil => cases hp
   | cons q r ih =>
    rw [List.lookup_cons]
    by_cases z:(p.1 == q.1) = true
    ·rw [z]; rfl
    ·have z':(p.1 == q.1) = false:=by simpa using z
     rw [z']
     rcases List.mem_cons.mp hp with rfl | hp
     ·simp at z
     ·exact ih hp
  rw [e] at this; cases this
 | some w =>
  left;rcases S.owns _ _ e with ⟨_,_,_,l1⟩;right
  simpa using fun hm => (l1 a hm).2.1 h⟩
theorem Ex.nil:Ex c n env ex [] lo ow (.next lo ow):=fun A E b co s S => wpAny_execs_nil ⟨rfl,S⟩
theorem Ex.cons {st:Stmt} {rest:List Stmt} (x:Ex1 c n env ex st lo ow (.next lo' ow')) (y:Ex c n env ex rest lo' ow' o):Ex c n env ex (st :: rest) lo ow o:=fun A E b co s S =>
 wpAny_execs_cons (wpAny_mono (x A E b co s S) (fun fl s' h => by
  obtain ⟨rfl,h⟩:=h
  exact y A E b co s' h) fun _ _ z => z)
theorem Ex.cons_ret {st:Stmt} {rest:List Stmt} {d:D} (x:Ex1 c n env ex st lo ow (.ret d)):Ex c n env ex (st :: rest) lo ow (.ret d):=fun A E b co s S =>
 wpAny_execs_cons (wpAny_mono (x A E b co s S) (fun fl s' h => by
  left;rcases h with ⟨v,z0_,h⟩;right;subst z0_
  exact ⟨v,rfl,h⟩) fun _ _ z => z)
theorem Ex.cons_brk {st:Stmt} {rest:List Stmt} (x:Ex1 c n env ex st lo ow (.brk lo' ow')):Ex c n env ex (st :: rest) lo ow (.brk lo' ow'):=fun A E b co s S =>
 wpAny_execs_cons (wpAny_mono (x A E b co s S) (fun fl s' h => by
  obtain ⟨rfl,h⟩:=h
  exact ⟨rfl,h⟩) fun _ _ z => z)
theorem Ex.pre {st:List Stmt} (x:Ex c n env ex st lo' ow' o) (h1:Sub lo' lo) (h2:SubO ow' ow):Ex c n env ex st lo ow o:=fun A E b co s S => x A E b co s (S.weak h1 h2)
theorem Ex.post {st:List Stmt} {lo1:List (Str × D)} {ow1:List (Str × OwnD)} (x:Ex c n env ex st lo ow (.next lo1 ow1)) (h1:Sub lo' lo1) (h2:SubO ow' ow1):Ex c n env ex st lo ow (.next lo' ow'):=fun A E b co s S =>
 wpAny_mono (x A E b co s S) (fun fl s' h => ⟨h.1,h.2.weak h1 h2⟩) fun _ _ z => z
theorem Ex1.post {st:Stmt} {lo1:List (Str × D)} {ow1:List (Str × OwnD)} (x:Ex1 c n env ex st lo ow (.next lo1 ow1)) (h1:Sub lo' lo1) (h2:SubO ow' ow1):Ex1 c n env ex st lo ow (.next lo' ow'):=fun A E b co s S =>
 wpAny_mono (x A E b co s S) (fun fl s' h => ⟨h.1,h.2.weak h1 h2⟩) fun _ _ z => z
noncomputable def canStore (env:Env) (x:Str):Prop:=env.kindOf x = some .local ∨ (env.kindOf x = some .cell∧(env.cells.lookup x).isSome = true)
theorem Ex1.assign {x:Str} {p pos:Pos} {e:PySem.Expr} {d:D} (y:EV c n env lo e d) (hk:canStore env x) (how:autoParam (ow.lookup x = none) byRfl) (hex:autoParam (ex.lookup x = none) byRfl) (hs:autoParam (swapsWith e (some (.Name x p)) pos.line env = pure false) byRfl) :
  Ex1 c n env ex (.Assign [.Name x p] e pos) lo ow (.next ((x,d) :: lo) ow):=fun A E b co s ⟨own,ad,S⟩ =>
 wpAny_Assign_Name (y A E s own _ S.sit fun v s₁ k r => (S.mono k).store hk how hex fun s' h1 _ => ⟨rfl,own,ad,h1 d r⟩) hs
theorem Ex1.assignF {x:Str} {p pos:Pos} {e:PySem.Expr} {d:D} (y:EV c n env (lo ++ frozen ow) e d) (hf:flatD d = true) (hk:canStore env x) (how:autoParam (ow.lookup x = none) byRfl) (hex:autoParam (ex.lookup x = none) byRfl) (hs:autoParam (swapsWith e (some (.Name x p)) pos.line env = pure false) byRfl) :
  Ex1 c n env ex (.Assign [.Name x p] e pos) lo ow (.next ((x,d) :: lo) ow):=fun A E b co s ⟨own,ad,S⟩ =>
 wpAny_Assign_Name (y A E s _ _ S.thawed fun v s₁ k r => (S.mono k).store hk how hex fun s' h1 _ => ⟨rfl,own,ad,h1 d (r.flat hf)⟩) hs
theorem Ex1.ret {e:PySem.Expr} {pos:Pos} {d:D} (y:EV c n env (lo ++ frozen ow) e d):Ex1 c n env ex (.Return (some e) pos) lo ow (.ret d):=fun A E b co s ⟨own,ad,S⟩ =>
 wpAny_Return_some (y A E s _ _ S.thawed fun v s₁ k r => ⟨v,rfl,r.sub S.co_thaw,Keeps.trans' S.keep k.1⟩)
theorem Ex1.brk {pos:Pos}:Ex1 c n env ex (.Break pos) lo ow (.brk lo ow):=fun A E b co s S => by
 exact (wpAny_bind (wpAny_standAt (wpAny_pure (show OutIs c n A env b co ex (.brk lo ow) .brk s from ⟨rfl,S⟩))):wpAny (model c.prog c.w) A (do standAt pos; pure Flow.brk) (OutIs c n A env b co ex (.brk lo ow)) E s)
theorem Ex1.ite {test:PySem.Expr} {body orelse:List Stmt} {pos:Pos} {t:Bool} (x:TV c n env (lo ++ frozen ow) test t) (y:t = true→Ex c n env ex body lo ow o) (z:t = false→Ex c n env ex orelse lo ow o):Ex1 c n env ex (.If test body orelse pos) lo ow o:=fun A E b co s ⟨own,ad,S⟩ =>
 wpAny_If (x A E s _ _ S.thawed fun s₁ k => by
  cases t with
  | true => exact y rfl A E b co s₁ ⟨own,ad,S.mono k⟩
  | false => exact z rfl A E b co s₁ ⟨own,ad,S.mono k⟩)
end
end
section
noncomputable def EVF (c:Cx) (n:Nat) (env:Env) (lo:List (Str × D)) (e:PySem.Expr) (ds:List D):Prop:=
 ∀ (A:Around) (E:Value→Shared→Prop) (s:Shared) (own:List Addr) (Q:Value→Shared→Prop),Sit c n A env own lo s →
  (∀ a vs k s',K2 s s'→s.heap.get? a = none→s'.heap.get? a = some (listOf (List.toArray vs) k)→RdAll c.w.params (a :: own) s'.heap vs ds→Q (.ref a) s')→wpAny (model c.prog c.w) A (eval e env) Q E s
section
variable {c:Cx} {n:Nat} {A:Around} {env:Env} {b:Shared} {co own:List Addr} {ad:Str→List Addr} {lo lo':List (Str × D)} {ow ow':List (Str × OwnD)} {ex:List (Str × Value)} {s s':Shared} {o:Out}
theorem not_tuple (z:(Value.type "list") = .type "tuple"):False:=by
 injection z with z
 exact absurd z (by decide)
theorem none_of_ext {h h':Heap} {a:Addr} (e:Ext h h') (k:h'.get? a = none):h.get? a = none:=by
 cases q:h.get? a with
 | none => rfl
 | some o => rw [e _ _ q] at k; cases k
theorem EVF.list {es:List PySem.Expr} {pos:Pos} {ds:List D} (a:EVs c n env lo es ds) (hl:autoParam (decide (ds.length ≤ 1000) = true) byRfl):EVF c n env lo (.List es pos) ds:=fun A E s own Q S h =>
 wpAny_List (a A E s own pos _ S fun vs s₁ k r => ⟨by have:=r.length; have e:sizeLine = 16777216:=rfl; have:=of_decide_eq_true hl; omega,by
  have hn:s₁.heap.get? s₁.heap.objs.size = none:=by
   cases q:s₁.heap.get? s₁.heap.objs.size with
   | none => rfl
   | some o => exact absurd (Heap.lt_size q) (Nat.lt_irrefl _)
  refine h _ _ 0 _ (k.push _) (none_of_ext k.ext hn) (Heap.get?_push_size _ rfl) ?_
  exact RdAll.ext (ext_push _ _) (RdAll.fresh (more:=[s₁.heap.objs.size]) (fun a ha => by simp at ha; subst ha; exact hn) r)⟩)
theorem EVF.ite {test body orelse:PySem.Expr} {pos:Pos} {a b:List D} {t:Bool} (x:TV c n env lo test t) (y:t = true→EVF c n env lo body a) (z:t = false→EVF c n env lo orelse b):EVF c n env lo (.IfExp test body orelse pos) (if t then a else b):=fun A E s own Q S h =>
 PyProof.Rows.IfExp_ (x A E s own _ S fun s₁ k => by
  cases t with
  | true => exact y rfl A E s₁ own _ (S.mono k) fun a vs m s₂ k' h1 h2 r => h a vs m s₂ (k.trans k') (none_of_ext k.ext h1) h2 r
  | false => exact z rfl A E s₁ own _ (S.mono k) fun a vs m s₂ k' h1 h2 r => h a vs m s₂ (k.trans k') (none_of_ext k.ext h1) h2 r)
theorem EVF.add {l r:PySem.Expr} {pos:Pos} {xs ys:List D} (x:EV c n env lo l (.lst xs)) (y:EV c n env lo r (.lst ys)) (hs:xs.length + ys.length ≤ lim):EVF c n env lo (.BinOp l .Add r pos) (xs ++ ys):=fun A E s own Q S h =>
 wpAny_BinOp (x A E s own _ S fun v s₁ k rv => y A E s₁ own _ (S.mono k) fun u s₂ k' ru => by
  left;rcases rv.lst_inv with ⟨a,oa,nA,vs,z0_,na,ea,ca,da,xa⟩;right;subst z0_
  left;rcases ru.lst_inv with ⟨b,ob,nB,ws,z0_,nb,eb,cb,db,xb⟩;right;subst z0_
  have ea':=k'.ext _ _ ea
  have xa':=xa.ext k'.ext
  left;rcases oa with ⟨cls,dd,data,sl⟩;right
  left;rcases ob with ⟨cls2,dd2,data2,sl2⟩;right
  simp only at ca da cb db
  subst ca da cb db
  have e:vs.toArray ++ ws.toArray = (vs ++ ws).toArray:=by simp
  refine concat_meets ⟨_,ea',rfl⟩ ⟨_,eb,rfl⟩ noFill_list_add seq_list_add PySem.F.slot_list_add PySem.F.entry_list_add (PySem.F.args_list_add_2 _ _)
   (list_addW a b vs.toArray ws.toArray nA nB dd dd2 sl sl2 (by have:=lim_line; simpa [xa.length,xb.length] using Nat.le_trans hs this)) ⟨ea',eb,?_⟩
  rw [e]
  have hn:s₂.heap.get? s₂.heap.objs.size = none:=by
   cases q:s₂.heap.get? s₂.heap.objs.size with
   | none => rfl
   | some o => exact absurd (Heap.lt_size q) (Nat.lt_irrefl _)
  refine h _ _ _ _ ((k.trans k').push _) (none_of_ext (k.trans k').ext hn) (Heap.get?_push_size _ rfl) ?_
  exact RdAll.ext (ext_push _ _) (RdAll.fresh (more:=[s₂.heap.objs.size]) (fun a ha => by simp at ha; subst ha; exact hn) (xa'.append xb)))
theorem Sto.grow (S:Sto c n A env b co own ad lo ow ex s) (k:K2 s s') {a:Addr} (ha:s.heap.get? a = none) {oa:Obj} (hoa:s'.heap.get? a = some oa) (hot:¬ (oa.cls = .type "tuple"∧∃ vs n,oa.data = .seq vs n)):Sto c n A env b co (a :: own) ad lo ow ex s':=by
 have fr:∀ q ∈ [a],s.heap.get? q = none:=fun q hq => by simp at hq; subst hq; exact ha
 have S':=S.mono k
 exact {
  sit:=⟨S'.sit.ek,S'.sit.ao,S'.sit.ext,fun q hq => by
    rcases List.mem_cons.mp hq with rfl | hq
    ·exact ⟨oa,hoa,hot⟩
    ·exact S'.sit.ok q hq,fun q hq => by
    rcases List.mem_cons.mp hq with rfl | hq
    ·exact none_of_ext S.sit.ext ha
    ·exact S.sit.base q hq,S'.sit.tok,fun x d e => by
    left;rcases S.sit.names x d e with ⟨v,n1,r⟩;right
    exact ⟨v,n1.ext k.ext,(Rd.fresh (more:=[a]) fr r).ext k.ext⟩⟩
  coIn:=fun q hq => .tail _ (S.coIn q hq)
  new:=fun q hq => by
   rcases List.mem_cons.mp hq with rfl | hq
   ·exact .inr (none_of_ext (Keeps.ext S.keep) ha)
   ·exact S.new q hq
  keep:=S'.keep
  loc:=⟨S'.loc.1,.tail _ S'.loc.2.1,S'.loc.2.2⟩
  cell:=fun x a ke e e' => by left;rcases S'.cell x a ke e e' with ⟨h1,h2,h3⟩;right; exact ⟨h1,.tail _ h2,h3⟩
  cells:=S.cells
  exact:=S'.exact
  owns:=fun x w e => by
   left;rcases S.owns x w e with ⟨p,n1,o1,l1⟩;right
   refine ⟨p,n1.ext k.ext,?_,fun q hq => ⟨.tail _ (l1 q hq).1,(l1 q hq).2⟩⟩
   have o2:OwnIs c.w.params (a :: own) s.heap p w (ad x):=by
    cases w with
    | lst ds => left;rcases o1 with ⟨e1,vs,m,e2,r⟩;right; exact ⟨e1,vs,m,e2,RdAll.fresh (more:=[a]) fr r⟩
    | hdr C ds => left;rcases o1 with ⟨dx,l,vs,m,j,t,e1,d,e2,e3,e4,r⟩;right; exact ⟨dx,l,vs,m,j,t,e1,d,e2,e3,e4,RdAll.fresh (more:=[a]) fr r⟩
    | ins C kvs => left;rcases o1 with ⟨dx,es,m,e1,d,e2,e3,r⟩;right; exact ⟨dx,es,m,e1,d,e2,e3,RdKv.fresh (more:=[a]) fr r⟩
   cases w with
   | lst ds => left;rcases o2 with ⟨e1,vs,m,e2,r⟩;right; exact ⟨e1,vs,m,k.ext _ _ e2,r.ext k.ext⟩
   | hdr C ds => left;rcases o2 with ⟨dx,l,vs,m,j,t,e1,d,e2,e3,e4,r⟩;right; exact ⟨dx,l,vs,m,j,t,e1,d,k.ext _ _ e2,k.ext _ _ e3,k.ext _ _ e4,r.ext k.ext⟩
   | ins C kvs => left;rcases o2 with ⟨dx,es,m,e1,d,e2,e3,r⟩;right; exact ⟨dx,es,m,e1,d,k.ext _ _ e2,k.ext _ _ e3,r.ext k.ext⟩
  apart:=S.apart }
theorem Sto.held (S:Sto c n A env b co own ad lo ow ex s) {a:Addr} (ha:s.heap.get? a = none):a ∉ own:=fun h => by
 left;rcases S.sit.ok a h with ⟨o,ho,_⟩;right
 rw [ha] at ho; cases ho
theorem Ex1.fresh {x:Str} {p pos:Pos} {e:PySem.Expr} {ds:List D} (y:EVF c n env lo e ds) (hk:canStore env x) (hlo:autoParam (lo.lookup x = none) byRfl) (how:autoParam (ow.lookup x = none) byRfl) (hex:autoParam (ex.lookup x = none) byRfl) (hs:autoParam (swapsWith e (some (.Name x p)) pos.line env = pure false) byRfl) :
  Ex1 c n env ex (.Assign [.Name x p] e pos) lo ow (.next lo ((x,.lst ds) :: ow)):=fun A E b co s ⟨own,ad,S⟩ =>
 wpAny_Assign_Name (y A E s own _ S.sit fun a vs m s₁ k h1 h2 r => by
  have S':=S.grow k h1 h2 (fun z => not_tuple z.1)
  refine S'.store hk how hex fun s' _ h' => ?_
  refine ⟨rfl,a :: own,_,h' a (.lst ds) [a] rfl ⟨rfl,vs,m,h2,r⟩ ?_ ?_ hlo⟩
  ·intro q hq
   simp at hq; subst hq
   refine ⟨.head _,fun z => S.held h1 (S.coIn _ z),fun z => ?_⟩
   subst z
   left;rcases S.loc.1 with ⟨mm,o,_,_,ho,_⟩;right
   rw [h1] at ho; cases ho
  ·intro z w' hz q hq hm
   simp at hq; subst hq
   left;rcases S.owns z w' hz with ⟨_,_,_,l1⟩;right
   exact S.held h1 (l1 _ hm).1) hs
theorem Sto.mut (S:Sto c n A env b co own ad lo ow ex s) {x:Str} {w w':OwnD} (hx:ow.lookup x = some w) {q:Addr} (hq:q ∈ ad x) {h':Heap} {tk:Nat} (htk:s.toks ≤ tk) (sb:Heap.SameBut q s.heap h') {oq:Obj} (hoq:h'.get? q = some oq) (hof:∀ vs,oq.data ≠ .fields vs) (hot:¬ (oq.cls = .type "tuple"∧∃ vs n,oq.data = .seq vs n))
  (hw:∀ a,NameIs env s.heap x (.ref a)→OwnIs c.w.params own s.heap a w (ad x)→OwnIs c.w.params own h' a w' (ad x)):Sto c n A env b co own ad lo ((x,w') :: ow) ex { s with heap:=h',toks:=tk }:=by
 left;rcases S.owns x w hx with ⟨a,n1,o1,l1⟩;right
 left;rcases l1 q hq with ⟨hqo,hqc,hqL⟩;right
 have kp:=keep_of hqo sb
 have nm:∀ y u,NameIs env s.heap y u→NameIs env h' y u:=fun y u e => by
  rcases e with ⟨e1,m',e2,e3⟩ | ⟨e1,q',e2,e3⟩
  ·exact .inl ⟨e1,m',e2.sameBut sb (Ne.symm hqL),e3⟩
  ·exact .inr ⟨e1,q',e2,e3.sameBut sb (fun z => by subst z; exact own_not_cell o1 e3 hq)⟩
 have lk:∀ y v,((x,w') :: ow).lookup y = some v→(y = x∧v = w') ∨ (y ≠ x∧ow.lookup y = some v):=fun y v e => by
  rw [List.lookup_cons] at e
  by_cases z:(y == x) = true
  ·rw [z] at e; cases e; exact .inl ⟨by simpa using z,rfl⟩
  ·have z':(y == x) = false:=by simpa using z
   rw [z'] at e; exact .inr ⟨by simpa using z,e⟩
 exact {
  sit:=⟨S.sit.ek,⟨S.sit.ao.handled,S.sit.ao.depth,S.sit.ao.units,let ⟨o,p,r⟩:=S.sit.ao.frames; ⟨o,p,funFrames_but sb hoq hof r⟩⟩,fun a o e => (sb.2 a (fun z => by subst z; rw [S.sit.base _ hqo] at e; cases e)).trans (S.sit.ext a o e),fun a ha => by
    by_cases z:a = q
    ·subst z; exact ⟨oq,hoq,hot⟩
    ·left;rcases S.sit.ok a ha with ⟨o,ho,hc⟩;right
     exact ⟨o,(sb.2 a z).trans ho,hc⟩,S.sit.base,Nat.le_trans S.sit.tok htk,fun y d e => by
    left;rcases S.sit.names y d e with ⟨v,e1,r⟩;right
    exact ⟨v,nm y v e1,r.keep S.sit.ok kp⟩⟩
  coIn:=S.coIn
  new:=S.new
  keep:=Keeps.step S.keep fun a o e => (sb.2 a (fun z => by
   subst z
   rcases S.new _ hqo with y | y
   ·exact hqc y
   ·rw [y] at e; cases e)).trans ((Keeps.ext S.keep) a o e)
  loc:=⟨let ⟨m,hm⟩:=S.loc.1; ⟨m,hm.sameBut sb (Ne.symm hqL)⟩,S.loc.2⟩
  cell:=fun y a ke e e' => by
   left;rcases S.cell y a ke e e' with ⟨⟨v,hv⟩,r⟩;right
   exact ⟨⟨v,hv.sameBut sb fun z => by subst z; exact own_not_cell o1 hv hq⟩,r⟩
  cells:=S.cells
  exact:=fun y v e => nm y v (S.exact y v e)
  owns:=fun y v e => by
   rcases lk y v e with ⟨rfl,rfl⟩ | ⟨hn,e⟩
   ·exact ⟨a,nm _ _ n1,hw a n1 o1,l1⟩
   ·left;rcases S.owns y v e with ⟨a',n2,o2,l2⟩;right
    exact ⟨a',nm _ _ n2,o2.keep S.sit.ok kp (fun p hp o ho => (sb.2 p (fun z => by subst z; exact S.apart x y w v _ hx e (Ne.symm hn) hq hp)).trans ho),l2⟩
  apart:=fun y z v v' p e e' hn => by
   have f:∀ y v,((x,w') :: ow).lookup y = some v→∃ v',ow.lookup y = some v':=fun y v e => by
    rcases lk y v e with ⟨rfl,rfl⟩ | ⟨_,e⟩
    ·exact ⟨_,hx⟩
    ·exact ⟨_,e⟩
   obtain ⟨u,hu⟩:=f y v e
   obtain ⟨u',hu'⟩:=f z v' e'
   exact S.apart y z u u' p hu hu' hn }
theorem own_list {P:Params} {own:List Addr} {h:Heap} {a:Addr} {ds:List D} {as:List Addr} (x:OwnIs P own h a (.lst ds) as):as = [a]∧∃ vs k,h.get? a = some (listOf (List.toArray vs) k)∧RdAll P own h vs ds:=x
theorem append_run {E:Value→Shared→Prop} {Q:Flow→Shared→Prop} {own2:List Addr} {lo2:List (Str × D)} {x:Str} {p ap pos pos':Pos} {e:PySem.Expr} {d:D} {ds:List D} {pl:Sem Bool} (S:Sto c n A env b co own ad lo ow ex s) (S2:Sit c n A env own2 lo2 s) (y:EV c n env lo2 e d) (up:∀ v s',K2 s s'→Rd c.w.params own2 s'.heap v d→Rd c.w.params own s'.heap v d)
  (hx:ow.lookup x = some (.lst ds)) (hl:ds.length ≤ lim) (hd:(x == ("__debug__":Str)) = false) (hn:(x == ("__classdict__":Str)) = false) (hi:interactive env = false)
  (he:eval (.Call (.Attribute (.Name x p) "append" ap) [e] [] pos) env = (do
   let ov ← eval (.Name x p) env
   standAt ap.atName
   let (f,first) ← holding [ov] (getMethod ov "append" pl)
   callWith pos f first (backTo pos (starEach [e] env)) (backToKw pos (keywordEach [] env)))) (hp:Plain [e] env pos) (hse:starEach [e] env = (false,eval e env) :: starEach [] env)
  (h:∀ s',Sto c n A env b co own ad lo ((x,.lst (ds ++ [d])) :: ow) ex s'→Q .next s'):wpAny (model c.prog c.w) A (exec (.Expr (.Call (.Attribute (.Name x p) "append" ap) [e] [] pos) pos') env) Q E s:=by
 refine wpAny_Expr ?_ hi rfl
 left;rcases S.owns x _ hx with ⟨a,n1,o1,l1⟩;right
 refine methodCall_KW (wpAny_Name (nameIs_load S.sit.ek n1 hn ?_) hd) he
 left;rcases own_list o1 with ⟨e1,vs,k,e2,r⟩;right
 refine Calls.getMethod_list_append e2 rfl rfl ?_
 refine callWith_ev (first:=[.ref a]) KeepF.builtin (EVs.cons y EVs.nil hse) hp S2 fun us s₁ k1 ru => ?_
 cases ru with
 | @cons u _ _ _ rd rn =>
  cases rn
  have S1:=S.mono k1
  have hlen:=r.length
  refine append_at (k1.ext _ _ e2) (fun h' sb ho => ?_) (by have:=lim_line; simp; omega)
  refine h _ (S1.mut hx (q:=a) (by rw [e1]; simp) (Nat.le_refl _) sb ho (fun vs z => by cases z) (fun z => not_tuple z.1) fun a' n2 o2 => ?_)
  left;rcases own_list o2 with ⟨e3,vs3,k3,e4,r3⟩;right
  rw [e1] at e3
  cases e3
  refine ⟨e1,vs ++ [u],k + 1,?_,?_⟩
  ·rw [ho]; simp
  ·have:=(r.ext k1.ext).append (.cons (up _ _ k1 rd) .nil)
   exact this.keep S1.sit.ok (keep_of (l1 a (by rw [e1]; simp)).1 sb)
theorem Ex1.append {x:Str} {p ap pos pos':Pos} {e:PySem.Expr} {d:D} {ds:List D} {pl:Sem Bool} (y:EV c n env lo e d) (hx:ow.lookup x = some (.lst ds)) (hl:ds.length ≤ lim) (hd:autoParam ((x == ("__debug__":Str)) = false) byDec) (hn:autoParam ((x == ("__classdict__":Str)) = false) byDec) (hi:autoParam (interactive env = false) byRfl)
  (he:autoParam (eval (.Call (.Attribute (.Name x p) "append" ap) [e] [] pos) env = (do
   let ov ← eval (.Name x p) env
   standAt ap.atName
   let (f,first) ← holding [ov] (getMethod ov "append" pl)
   callWith pos f first (backTo pos (starEach [e] env)) (backToKw pos (keywordEach [] env)))) byRfl) (hse:autoParam (starEach [e] env = (false,eval e env) :: starEach [] env) byRfl) :
  Ex1 c n env ex (.Expr (.Call (.Attribute (.Name x p) "append" ap) [e] [] pos) pos') lo ow (.next lo ((x,.lst (ds ++ [d])) :: ow)):=fun A E b co s ⟨own,ad,S⟩ =>
 append_run S S.sit y (fun _ _ _ r => r) hx hl hd hn hi he ⟨.inr ⟨_,_,rfl,hse⟩,by rw [hse]; rfl⟩ hse fun s' S' => ⟨rfl,own,ad,S'⟩
theorem Ex1.setF {x:Str} {p p2 pos:Pos} {i e:PySem.Expr} {d:D} {ds:List D} {k:Int} {j:Nat} (y:EV c n env (lo ++ frozen ow) e d) (yi:EV c n env (lo ++ frozen ow) i (.int k)) (hf:flatD d = true) (hx:ow.lookup x = some (.lst ds)) (hl:ds.length ≤ lim) (hj:idx k ds.length = some j) (hd:autoParam ((x == ("__debug__":Str)) = false) byDec) (hn:autoParam ((x == ("__classdict__":Str)) = false) byDec)
  (hs:autoParam (swapsWith e (some (.Subscript (.Name x p) i p2)) pos.line env = pure false) byRfl) :
  Ex1 c n env ex (.Assign [.Subscript (.Name x p) i p2] e pos) lo ow (.next lo ((x,.lst (ds.set j d)) :: ow)):=fun A E b co s ⟨own,ad,S⟩ =>
 wpAny_Assign_Subscript (y A E s _ _ S.thawed fun v s₁ k1 rv => by
  have S1:=S.mono k1
  left;rcases S1.owns x _ hx with ⟨a,n1,o1,l1⟩;right
  refine wpAny_Name (nameIs_load S1.sit.ek n1 hn ?_) hd
  refine yi A E s₁ _ _ S1.thawed fun vi s₂ k2 ri => ?_
  obtain ⟨t,rfl⟩:=ri.int_inv
  have S2:=S1.mono k2
  left;rcases own_list (o1.keep S1.sit.ok (Ext.keep k2.ext) fun q _ o ho => k2.ext q o ho) with ⟨e1,vs,kk,e2,r⟩;right
  have hlen:=r.length
  have fin:∀ h',h' = s₂.heap.update a (Obj.mapSeq (·.setIfInBounds j v))→OutIs c n A env b co ex (.next lo ((x,.lst (ds.set j d)) :: ow)) .next { s₂ with heap:=h' }:=fun h' hh => by
   subst hh
   have hq:(s₂.heap.update a (Obj.mapSeq (·.setIfInBounds j v))).get? a = some (listOf (vs.set j v).toArray (if ((vs.set j v).toArray.size == vs.toArray.size) then kk else kk + 1)):=by
    have q:=PySem.IsL.update e2 (·.setIfInBounds j v)
    have e5:vs.toArray.setIfInBounds j v = (vs.set j v).toArray:=by simp
    rw [e5] at q
    exact q
   refine ⟨rfl,own,ad,S2.mut hx (q:=a) (by rw [e1]; simp) (Nat.le_refl _) (Heap.SameBut.update ..) hq (fun vs z => by cases z) (fun z => not_tuple z.1) fun a' n2 o2 => ?_⟩
   left;rcases own_list o2 with ⟨e3,vs3,k3,e4,r3⟩;right
   rw [e1] at e3
   cases e3
   refine ⟨e1,_,_,hq,?_⟩
   exact (r.set ((rv.flat hf).ext k2.ext)).keep S2.sit.ok (keep_of (l1 a (by rw [e1]; simp)).1 (Heap.SameBut.update ..))
  left;rcases idx_bounds hj with ⟨b1,b2,b3⟩;right
  have hlim:lim = 100000:=rfl
  unfold idx at hj
  split at hj
  ·split at hj
   ·cases hj
    exact ki_setAt e2 (by omega) (by omega) (by simp; omega) (fin _ rfl)
   ·cases hj
  ·cases hj
   refine ki_setBack e2 (by omega) (by simp; omega) (by omega) ?_
   have e6:(vs.toArray.size:Int) = (ds.length:Int):=by simp; omega
   rw [e6]
   exact fin _ rfl) hs
end
end
section
section
variable {P:Params} {own own':List Addr} {h h':Heap}
theorem kept_move (ok:OwnOk own h) (k:∀ a o,a ∉ own→h.get? a = some o→h'.get? a = some o∧a ∉ own'):Kept own own' h h':=
 ⟨fun a o vs n e c d => (k _ _ (fun hm => by left;rcases ok a hm with ⟨o',ho,hc⟩;right; rw [e] at ho; cases ho; exact hc ⟨c,_,_,d⟩) e).1,fun a o n e _ => k a o n e⟩
theorem kept_wr {wr:List Addr} (w:∀ b ∈ wr,∃ o vs,h.get? b = some o∧o.data = .fields vs) (k:Keep wr h h'):Kept own own h h':=
 have go:∀ a o,h.get? a = some o→(∀ vs,o.data ≠ .fields vs)→h'.get? a = some o:=fun a o e z => k _ _ (fun hm => by left;rcases w a hm with ⟨o',vs,ho,hc⟩;right; rw [e] at ho; cases ho; exact z _ hc) e
 ⟨fun a o vs n e _ d => go a o e fun _ z => (nomatch d.symm.trans z),fun a o n e z => ⟨go a o e z,n⟩⟩
theorem Rd.move (ok:OwnOk own h) (k:∀ a o,a ∉ own→h.get? a = some o→h'.get? a = some o∧a ∉ own') {v:Value} {d:D} (r:Rd P own h v d):Rd P own' h' v d:=r.map (kept_move ok k)
theorem Rd.wr {wr:List Addr} (w:∀ b ∈ wr,∃ o vs,h.get? b = some o∧o.data = .fields vs) (k:Keep wr h h') {v:Value} {d:D} (r:Rd P own h v d):Rd P own h' v d:=r.map (kept_wr w k)
theorem RdAll.move (ok:OwnOk own h) (k:∀ a o,a ∉ own→h.get? a = some o→h'.get? a = some o∧a ∉ own') {vs:List Value} {ds:List D} (r:RdAll P own h vs ds):RdAll P own' h' vs ds:=r.imp fun _ _ x => x.map (kept_move ok k)
theorem RdAll.wr {wr:List Addr} (w:∀ b ∈ wr,∃ o vs,h.get? b = some o∧o.data = .fields vs) (k:Keep wr h h') {vs:List Value} {ds:List D} (r:RdAll P own h vs ds):RdAll P own h' vs ds:=r.imp fun _ _ x => x.map (kept_wr w k)
theorem RdKv.move (ok:OwnOk own h) (k:∀ a o,a ∉ own→h.get? a = some o→h'.get? a = some o∧a ∉ own') {es:List DictEntry} {kvs:List (Str × D)} (r:RdKv P own h es kvs):RdKv P own' h' es kvs:=r.imp fun _ _ x => x.map (kept_move ok k)
theorem RdKv.wr {wr:List Addr} (w:∀ b ∈ wr,∃ o vs,h.get? b = some o∧o.data = .fields vs) (k:Keep wr h h') {es:List DictEntry} {kvs:List (Str × D)} (r:RdKv P own h es kvs):RdKv P own h' es kvs:=r.imp fun _ _ x => x.map (kept_wr w k)
end
theorem funFrames_wr {h h' base:Heap} {wr:List Addr} (w:∀ b ∈ wr,∃ o vs,h.get? b = some o∧o.data = .fields vs) (k:Keep wr h h'):∀ {l:List Env},h.FunFrames base l→h'.FunFrames base l
 | [],_ => trivial
 | e :: r,⟨a,⟨L,o',b1,b2,b3,b4⟩,d⟩ => ⟨a,⟨L,o',b1,b2,k _ _ (fun hm => by left;rcases w L hm with ⟨o,vs,ho,hc⟩;right; rw [b3] at ho; cases ho; exact b4 vs hc) b3,b4⟩,funFrames_wr w k d⟩
theorem nameIs_wr {env:Env} {h h':Heap} {x:Str} {v:Value} {wr:List Addr} (w:∀ b ∈ wr,∃ o vs,h.get? b = some o∧o.data = .fields vs) (k:Keep wr h h') (q:NameIs env h x v):NameIs env h' x v:=by
 rcases q with ⟨a,m,b,d⟩ | ⟨a,c,b,d⟩
 ·left;rcases b with ⟨o,es,ep,ho,hd,r⟩;right
  exact .inl ⟨a,m,⟨o,es,ep,k _ _ (fun hm => by left;rcases w _ hm with ⟨o2,vs,ho2,hc⟩;right; rw [ho] at ho2; cases ho2; rw [hd] at hc; cases hc) ho,hd,r⟩,d⟩
 ·left;rcases d with ⟨o,ho,hd⟩;right
  exact .inr ⟨a,c,b,o,k _ _ (fun hm => by left;rcases w _ hm with ⟨o2,vs,ho2,hc⟩;right; rw [ho] at ho2; cases ho2; rw [hd] at hc; cases hc) ho,hd⟩
section
variable {c:Cx} {n:Nat} {A:Around} {env:Env} {b:Shared} {co own:List Addr} {ad:Str→List Addr} {lo lo':List (Str × D)} {ow ow':List (Str × OwnD)} {ex:List (Str × Value)} {s s':Shared} {o:Out}
theorem Sit.wr (S:Sit c n A env own lo s) {wr:List Addr} {h':Heap} {tk:Nat} (w:∀ b ∈ wr,∃ o vs,s.heap.get? b = some o∧o.data = .fields vs) (k:Keep wr s.heap h') (hb:∀ a ∈ wr,a ∉ own∧c.H.get? a = none) (htk:s.toks ≤ tk) :
  Sit c n A env own lo { s with heap:=h',toks:=tk } where
 ek:=S.ek
 ao:=⟨S.ao.handled,S.ao.depth,S.ao.units,let ⟨o,p,r⟩:=S.ao.frames; ⟨o,p,funFrames_wr w k r⟩⟩
 ext:=fun a o e => k _ _ (fun hm => by rw [(hb a hm).2] at e; cases e) (S.ext a o e)
 ok:=fun a ha => by
  left;rcases S.ok a ha with ⟨o,ho,hc⟩;right
  exact ⟨o,k _ _ (fun hm => (hb a hm).1 ha) ho,hc⟩
 base:=S.base
 tok:=Nat.le_trans S.tok htk
 names:=fun x d e => by
  left;rcases S.names x d e with ⟨v,n1,r⟩;right
  exact ⟨v,nameIs_wr w k n1,r.wr w k⟩
theorem Sto.wr (S:Sto c n A env b co own ad lo ow ex s) {wr:List Addr} {h':Heap} {tk:Nat} (w:∀ b ∈ wr,∃ o vs,s.heap.get? b = some o∧o.data = .fields vs) (k:Keep wr s.heap h') (hb:∀ a ∈ wr,a ∉ own∧c.H.get? a = none∧b.heap.get? a = none) (htk:s.toks ≤ tk) :
  Sto c n A env b co own ad lo ow ex { s with heap:=h',toks:=tk } where
 sit:=S.sit.wr w k (fun a ha => ⟨(hb a ha).1,(hb a ha).2.1⟩) htk
 coIn:=S.coIn
 new:=S.new
 keep:=Keeps.step S.keep fun a o e => k _ _ (fun hm => by rw [(hb a hm).2.2] at e; cases e) ((Keeps.ext S.keep) a o e)
 loc:=⟨by
  left;rcases S.loc.1 with ⟨m,o,es,ep,ho,r⟩;right
  exact ⟨m,o,es,ep,k _ _ (fun hm => (hb _ hm).1 S.loc.2.1) ho,r⟩,S.loc.2⟩
 cell:=fun x a ke e e' => by
  left;rcases S.cell x a ke e e' with ⟨⟨v,o,ho,hd⟩,h1,h2⟩;right
  exact ⟨⟨v,o,k _ _ (fun hm => (hb _ hm).1 h1) ho,hd⟩,h1,h2⟩
 cells:=S.cells
 exact:=fun x v e => nameIs_wr w k (S.exact x v e)
 owns:=fun x u e => by
  left;rcases S.owns x u e with ⟨a,n1,o1,l1⟩;right
  refine ⟨a,nameIs_wr w k n1,?_,l1⟩
  have kq:∀ q ∈ ad x,∀ o,s.heap.get? q = some o→h'.get? q = some o:=fun q hq o ho => k _ _ (fun hm => (hb _ hm).1 (l1 q hq).1) ho
  cases u with
  | lst ds => left;rcases o1 with ⟨e1,vs,m,e2,r⟩;right; exact ⟨e1,vs,m,kq a (by rw [e1]; simp) _ e2,r.wr w k⟩
  | hdr C ds =>
   left;rcases o1 with ⟨dx,l,vs,m,j,t,e1,d,e2,e3,e4,r⟩;right
   exact ⟨dx,l,vs,m,j,t,e1,d,kq a (by rw [e1]; simp) _ e2,kq dx (by rw [e1]; simp) _ e3,kq l (by rw [e1]; simp) _ e4,r.wr w k⟩
  | ins C kvs =>
   left;rcases o1 with ⟨dx,es,m,e1,d,e2,e3,r⟩;right
   exact ⟨dx,es,m,e1,d,kq a (by rw [e1]; simp) _ e2,kq dx (by rw [e1]; simp) _ e3,r.wr w k⟩
 apart:=S.apart
theorem Sto.rebase (S:Sto c n A env b co own ad lo ow ex s):∃ b₁:Shared,Sto c n A env b₁ co own ad lo ow ex s∧(∀ a o,(a ∉ own ∨ a ∈ co)→s.heap.get? a = some o→b₁.heap.get? a = some o) ∧
  (∀ {own₂ ad₂ lo₂ ow₂ s₂},Sto c n A env b₁ co own₂ ad₂ lo₂ ow₂ ex s₂→Sto c n A env b co own₂ ad₂ lo₂ ow₂ ex s₂)∧(∀ s₂,Keeps b₁ s₂→Keeps b s₂):=by
 let hid:=own.filter fun a => !(co.contains a)
 have hm:∀ a,a ∈ hid ↔ a ∈ own∧a ∉ co:=fun a => by simp [hid]
 have eb:Ext b.heap (hideAll s.heap hid):=fun a o e => hideAll_get _ ((Keeps.ext S.keep) a o e) fun q => by
  obtain ⟨q1,q2⟩:=(hm a).mp q
  rcases S.new a q1 with y | y
  ·exact q2 y
  ·rw [y] at e; cases e
 have kb:∀ s₂,Keeps { s with heap:=hideAll s.heap hid } s₂→Keeps b s₂:=fun s₂ k => Keeps.trans' (by
  left;rcases S.keep with ⟨h,t,e,k⟩;right
  subst e
  exact ⟨_,_,rfl,eb⟩) k
 refine ⟨{ s with heap:=hideAll s.heap hid },{ S with new:=fun a ha => ?_,keep:=⟨s.heap,s.toks,rfl,fun a o e => of_hideAll _ e⟩ },fun a o n e => hideAll_get _ e fun q => n.elim (fun n => n ((hm a).mp q).1) (fun n => ((hm a).mp q).2 n),fun S₂ => { S₂ with new:=fun a ha => ?_,keep:=kb _ S₂.keep },kb⟩
 ·by_cases q:a ∈ co
  ·exact .inl q
  ·exact .inr (hideAll_none _ ((hm a).mpr ⟨ha,q⟩))
 ·rcases S₂.new a ha with y | y
  ·exact .inl y
  ·exact .inr (none_of_ext eb y)
structure Iter (c:Cx) (A:Around) (tg:PySem.Expr) (I:Addr) (wr fp:List Addr) (es:List D) (vals:List Value) (ds:List D) (St:Nat→Heap→Prop):Prop where
 sub:∀ b ∈ wr,b ∈ fp
 frame:∀ i h h',St i h→(∀ b ∈ fp,∀ o,h.get? b = some o→h'.get? b = some o)→St i h'
 obj:∀ i h,St i h→∀ b ∈ fp,∃ o,h.get? b = some o
 rec_:∀ i h,St i h→∀ b ∈ wr,∃ o vs,h.get? b = some o∧o.data = .fields vs
 next:∀ (i:Nat) (s:Shared) (E E':Value→Shared→Prop) (own:List Addr) (R:Value→Shared→Prop),i < ds.length→St i s.heap→Held own s.heap→RdAll c.w.params own s.heap vals es →
  (∀ v h' tk,s.toks ≤ tk→St (i + 1) h'→Keep wr s.heap h'→(∀ d,ds[i]? = some d→Rd c.w.params own h' v d)→R v { s with heap:=h',toks:=tk }) →
  wpAny (model c.prog c.w) A (pyNext (.ref I)) (fun r s₁ => ∃ v,r = some v∧wpAny (model c.prog c.w) A (letOwnedTupleGo tg (.ref I) v) (fun _ s₂ => R v s₂) E s₁) E' s
 done:∀ (s:Shared) (E:Value→Shared→Prop) (Q:Option Value→Shared→Prop),St ds.length s.heap→(∀ h' tk,s.toks ≤ tk→Keep wr s.heap h'→Q none { s with heap:=h',toks:=tk })→wpAny (model c.prog c.w) A (pyNext (.ref I)) Q E s
noncomputable def Self (c:Cx) (A:Around) (I:Addr) (St:Nat→Heap→Prop):Prop:=∀ (i:Nat) (s:Shared) (E:Value→Shared→Prop) (Q:Value→Shared→Prop),St i s.heap→Q (.ref I) s→wpAny (model c.prog c.w) A (pyIter (.ref I)) Q E s
noncomputable def ownedIters:List String:=["enumerate", "zip", "dict_itemiterator", "dict_reverseitemiterator", "odict_iterator", "itertools.zip_longest", "itertools.pairwise"]
theorem go_plain {E:Value→Shared→Prop} {tg:PySem.Expr} {I:Addr} {v:Value} {o:Obj} {T:String} {Q:Unit→Shared→Prop} (ho:s.heap.get? I = some o) (hc:o.cls = .type T) (hT:ownedIters.contains T = false) (h:Q () s) :
  wpAny (model c.prog c.w) A (letOwnedTupleGo tg (.ref I) v) Q E s:=by
 unfold letOwnedTupleGo
 have go:wpAny (model c.prog c.w) A (match ((Value.ref I,v):Value × Value) with
   | (.ref r,.ref a) => do
    let o ← load r
    match o.cls,o.data with
    | .type n,.fields vs =>
     if ownedIters.contains n && vs[0]? == some (rawInt a) then do
      rule "for.unpacks-the-owned-tuple"
      updateField r 0 .none
    | _,_ => pure ()
   | _ => pure ()) Q E s:=by
  cases v with
  | ref a =>
   refine wpAny_bind (wpAny_load ho ?_)
   rw [hc]
   cases o.data with
   | fields vs =>
    dsimp only
    rw [hT]
    exact wpAny_pure h
   | _ => exact wpAny_pure h
  | _ => exact wpAny_pure h
 cases tg with
 | Tuple _ _ _ => exact go
 | List _ _ => exact go
 | _ => exact wpAny_pure h
theorem Iter.ofWalks {tg:PySem.Expr} {I:Addr} {wr fp:List Addr} {es:List D} {vals:List Value} {ds:List D} {P:Nat→Value→Prop} {St:Nat→Heap→Prop} {T:String} (W:Walks c.prog c.w A I fp wr ds.length P St) (hT:ownedIters.contains T = false)
  (ho:∀ i h,St i h→∃ o vs,h.get? I = some o∧o.cls = .type T∧o.data = .fields vs) (hw:∀ b ∈ wr,b = I) (obj:∀ i h,St i h→∀ b ∈ fp,∃ o,h.get? b = some o)
  (hP:∀ i v own h,P i v→RdAll c.w.params own h vals es→∀ d,ds[i]? = some d→Rd c.w.params own h v d):Iter c A tg I wr fp es vals ds St where
 sub:=W.sub
 frame:=W.frame
 obj:=obj
 rec_:=fun i h st b hb => by
  left;rcases ho i h st with ⟨o,vs,h1,_,h3⟩;right
  rw [hw b hb]; exact ⟨o,vs,h1,h3⟩
 next:=fun i s E E' own R hi st ok r h => wpAny_with_toks (Nat.le_refl s.toks) (W.item i s _ _ hi st fun v h' tk p st' k htk => by
  left;rcases ho _ _ st' with ⟨o,vs,h1,h2,_⟩;right
  exact ⟨v,rfl,go_plain h1 h2 hT (h v h' tk htk st' (fun b o n e => k b o n e) fun d e => by
   refine (hP i v own s.heap p r d e).wr (fun b hb => ?_) (fun b o n e => k b o n e)
   left;rcases ho i s.heap st with ⟨o,vs,h1,_,h3⟩;right
   rw [hw b hb]; exact ⟨o,vs,h1,h3⟩)⟩)
 done:=fun s E Q st h => wpAny_with_toks (Nat.le_refl s.toks) (W.done s _ _ st fun h' tk k htk => h h' tk htk fun b o n e => k b o n e)
theorem Iter.list {tg:PySem.Expr} {I ax:Addr} {vals:List Value} {ds:List D} (hh:A.handled = none) (hne:ax ≠ I) (hl:vals.length = ds.length) :
  Iter c A tg I [I] [I,ax] ds vals ds (fun i h => h.IsListIter I ax i∧h.IsList ax vals.toArray):=by
 have W:=Walks.list (prog:=c.prog) (w:=c.w) hh I ax hne vals.toArray
 have e:vals.toArray.size = ds.length:=by simpa using hl
 rw [e] at W
 refine Iter.ofWalks (T := "list_iterator") W (by decide) (fun i h st => ?_) (by simp) (fun i h st b hb => ?_) fun i v own h p r d e => ?_
 ·left;rcases st with ⟨⟨o,h1,h2,h3⟩,_⟩;right
  exact ⟨o,_,h1,h2,h3⟩
 ·simp at hb
  rcases hb with rfl | rfl
  ·left;rcases st with ⟨⟨o,h1,_⟩,_⟩;right; exact ⟨o,h1⟩
  ·left;rcases st with ⟨_,o,h1,_⟩;right; exact ⟨o,h1⟩
 ·left;rcases r.get e with ⟨u,hu,hr⟩;right
  have p':vals[i]? = some v:=by simpa using p
  rw [p'] at hu; cases hu; exact hr
theorem Iter.tuple {tg:PySem.Expr} {I ax:Addr} {vals:List Value} {ds:List D} (hh:A.handled = none) (hne:ax ≠ I) (hl:vals.length = ds.length) :
  Iter c A tg I [I] [I,ax] ds vals ds (fun i h => h.IsTupleIter I ax i∧h.IsTuple ax vals.toArray):=by
 have W:=Walks.tuple (prog:=c.prog) (w:=c.w) hh I ax hne vals.toArray
 have e:vals.toArray.size = ds.length:=by simpa using hl
 rw [e] at W
 refine Iter.ofWalks (T := "tuple_iterator") W (by decide) (fun i h st => ?_) (by simp) (fun i h st b hb => ?_) fun i v own h p r d e => ?_
 ·left;rcases st with ⟨⟨o,h1,h2,h3⟩,_⟩;right
  exact ⟨o,_,h1,h2,h3⟩
 ·simp at hb
  rcases hb with rfl | rfl
  ·left;rcases st with ⟨⟨o,h1,_⟩,_⟩;right; exact ⟨o,h1⟩
  ·left;rcases st with ⟨_,o,h1,_⟩;right; exact ⟨o,h1⟩
 ·left;rcases r.get e with ⟨u,hu,hr⟩;right
  have p':vals[i]? = some v:=by simpa using p
  rw [p'] at hu; cases hu; exact hr
noncomputable def rangeD (a:Int) (n:Nat):List D:=(List.range n).map fun (i:Nat) => .int (a + (i:Int))
theorem Iter.range {tg:PySem.Expr} {I:Addr} {a:Int} {n:Nat} (hh:A.handled = none) :
  Iter c A tg I [I] [I] [] [] (rangeD a n) (fun i h => IsRangeIter h I (a + (i:Nat) * 1) ((n:Int) - (i:Nat)) 1):=by
 have W:=Walks.range (prog:=c.prog) (w:=c.w) hh I a 1 n
 have e:(rangeD a n).length = n:=by simp [rangeD]
 rw [← e] at W
 refine Iter.ofWalks (T := "range_iterator") (by rw [e] at W ⊢; exact W) (by decide) (fun i h st => ⟨_,_,st,rfl,rfl⟩) (by simp) (fun i h st b hb => ?_) fun i v own h p r d e => ?_
 ·simp at hb; subst hb; exact ⟨_,st⟩
 ·obtain ⟨t,rfl⟩:=p
  unfold rangeD at e
  rw [List.getElem?_map] at e
  left;rcases Option.map_eq_some_iff.mp e with ⟨j,hj,z0_⟩;right;subst z0_
  have:j = i:=by
   have:=List.getElem?_eq_some_iff.mp hj
   obtain ⟨h1,h2⟩:=this
   simpa using h2.symm
  subst this
  have q:a + (j:Int) * 1 = a + j:=by omega
  rw [q]; exact .int _ _
noncomputable def signsD (x:Str):List D:=x.cps.toList.map fun ch => .str ⟨#[ch]⟩
theorem Iter.str {tg:PySem.Expr} {I:Addr} {x:Str} {t:Tok} {T:String} (hT:ownedIters.contains T = false) (W:Walks c.prog c.w A I [I] [I] x.cps.size (SignAt x) (fun i h => h.IsStrIter I T x t i)) :
  Iter c A tg I [I] [I] [] [] (signsD x) (fun i h => h.IsStrIter I T x t i):=by
 have e:(signsD x).length = x.cps.size:=by simp [signsD]
 rw [← e] at W
 refine Iter.ofWalks W hT (fun i h st => ?_) (by simp) (fun i h st b hb => ?_) fun i v own h p r d e => ?_
 ·left;rcases st with ⟨o,h1,h2,h3⟩;right
  exact ⟨o,_,h1,h2,h3⟩
 ·simp at hb; subst hb
  left;rcases st with ⟨o,h1,h2,h3⟩;right
  exact ⟨o,h1⟩
 ·left;rcases p with ⟨ch,u,h1,z0_⟩;right;subst z0_
  unfold signsD at e
  rw [List.getElem?_map,Array.getElem?_toList,h1] at e
  cases e
  exact .str _ _
theorem RdKv.keys {own:List Addr} {h:Heap} {w:World} {prog:Program} {es:List DictEntry} {kvs:List (Str × D)} (r:RdKv w.params own h es kvs):∃ ps:List (Str × Value),Pairs (PySem.strKind prog w) es ps∧ps.map (·.1) = kvs.map (·.1)∧RdAll w.params own h (ps.map (·.2)) (kvs.map (·.2)):=
 r.ind (m:=fun es kvs => ∃ ps:List (Str × Value),Pairs (PySem.strKind prog w) es ps∧ps.map (·.1) = kvs.map (·.1)∧RdAll w.params own h (ps.map (·.2)) (kvs.map (·.2))) ⟨[],.nil,rfl,.nil⟩ fun k t v d es kvs x _ ih => by
  left;rcases ih with ⟨ps,h1,h2,h3⟩;right
  exact ⟨(k,v) :: ps,.cons (isStrOf_refl k t) rfl h1,congrArg (k :: ·) h2,.cons x h3⟩
set_option tactic.hygienic true in
theorem Iter.dictKeys {tg:PySem.Expr} {I d:Addr} {ps:List (Str × Value)} {ep:Nat} (hh:A.handled = none) (hne:d ≠ I) :
  Iter c A tg I [I] [I,d] [] [] (ps.map fun p => .str p.1) (fun i h => h.IsKeyIter I d i ps.length ep∧h.DictAt (PySem.strKind c.prog c.w) d ps ep):=by
 have W:=Walks.dictKeys (knd:=PySem.strKind c.prog c.w) hh I d hne ps ep
 have e:(ps.map fun p => D.str p.1).length = ps.length:=by simp
 refine Iter.ofWalks (T := "dict_keyiterator") (by rw [e]; exact W) (by decide) (fun i h st => ?_) (by simp) (fun i h st b hb => ?_) fun i v own h p r d e => ?_
 ·left;rcases st with ⟨⟨o,h1,h2,h3⟩,_⟩;right
  exact ⟨o,_,h1,h2,h3⟩
 ·simp at hb
  rcases hb with rfl | rfl
  ·left;rcases st with ⟨⟨o,h1,_⟩,_⟩;right; exact ⟨o,h1⟩
  ·left;rcases st with ⟨_,o,es,h1,_⟩;right; exact ⟨o,h1⟩
 ·left;rcases p with ⟨k,x,h1,h2⟩;right
  rw [List.getElem?_map,h1] at e
  cases e
  cases v <;> simp [PySem.strKind,Value.isStrOf] at h2
  rename_i y t
  subst h2
  exact .str _ _
noncomputable def enumD (ds:List D):List D:=(ds.zipIdx).map fun p => .tup [.int (p.2:Int),p.1]
theorem Iter.enum {elts:List PySem.Expr} {tk:Nat} {tp:Pos} {e it l:Addr} {vals:List Value} {ds:List D} (hh:A.handled = none) (hei:e ≠ it) (hle:l ≠ e) (hli:l ≠ it) (hl:vals.length = ds.length) :
  Iter c A (.Tuple elts tk tp) e [e,it] [e,it,l] ds vals (enumD ds) (fun i h => (∃ old,IsEnum h e it i old)∧h.IsListIter it l i∧h.IsList l vals.toArray) where
 sub:=fun b hb => by simp at hb ⊢; rcases hb with rfl | rfl <;> simp
 frame:=fun i h h' hst hk => by
  left;rcases hst with ⟨⟨old,he⟩,hit,hl⟩;right
  exact ⟨⟨old,hk e (by simp) _ he⟩,hit.at fun o x => hk it (by simp) o x,hl.at fun o x => hk l (by simp) o x⟩
 obj:=fun i h hst b hb => by
  left;rcases hst with ⟨⟨old,he⟩,⟨o1,q1,_⟩,⟨o2,q2,_⟩⟩;right
  simp at hb
  rcases hb with rfl | rfl | rfl
  ·exact ⟨_,he⟩
  ·exact ⟨_,q1⟩
  ·exact ⟨_,q2⟩
 rec_:=fun i h hst b hb => by
  left;rcases hst with ⟨⟨old,he⟩,⟨o1,q1,q2,q3⟩,_⟩;right
  simp at hb
  rcases hb with rfl | rfl
  ·exact ⟨_,_,he,rfl⟩
  ·exact ⟨_,_,q1,q3⟩
 next:=fun i s E E' own R hi hst ok r h => by
  left;rcases hst with ⟨⟨old,he⟩,hit,hL⟩;right
  have hlen:=r.length
  have hi':i < vals.length:=by simp [enumD] at hi; omega
  have hx:vals.toArray[i]? = some vals[i]:=by simp [hi']
  have helt:e < s.heap.objs.size:=Heap.lt_size he
  have hilt:it < s.heap.objs.size:=by left;rcases hit with ⟨_,x,_⟩;right; exact Heap.lt_size x
  refine wpAny_pyNext_enum_item he hit hL hx hei fun h' ho hit' hT hsz hk => ⟨_,rfl,?_⟩
  refine wpAny_letOwnedTupleGo_enum ho fun h'' he' hs' => ?_
  have kk:Keep [e,it] s.heap h'':=fun q o n e' => by
   simp at n
   exact (hs'.2 q n.1).trans (hk q o n.1 n.2 e')
  have hT':h''.get? s.heap.objs.size = some { cls:=.type "tuple",data:=.seq #[.int i s.toks,vals[i]] }:=(hs'.2 _ (Nat.ne_of_gt helt)).trans hT
  refine h _ h'' (s.toks + 1) (Nat.le_succ _) ⟨⟨_,by simpa using he'⟩,hit'.at fun o y => (hs'.2 it hei.symm).trans y,hL.at fun o y => (hs'.2 l hle).trans (hk l o hle hli y)⟩ kk fun d hd => ?_
  unfold enumD at hd
  rw [List.getElem?_map] at hd
  left;rcases Option.map_eq_some_iff.mp hd with ⟨p,hp,z0_⟩;right;subst z0_
  rw [List.getElem?_zipIdx] at hp
  left;rcases Option.map_eq_some_iff.mp hp with ⟨d0,hd0,z0_⟩;right;subst z0_
  left;rcases r.get hd0 with ⟨u,hu,hr⟩;right
  have hu':vals[i] = u:=by
   rw [List.getElem?_eq_getElem hi'] at hu; cases hu; rfl
  have w:∀ b ∈ [e,it],∃ o vs,s.heap.get? b = some o∧o.data = .fields vs:=fun b hb => by
   left;rcases hit with ⟨o1,q1,q2,q3⟩;right
   simp at hb
   rcases hb with rfl | rfl
   ·exact ⟨_,_,he,rfl⟩
   ·exact ⟨_,_,q1,q3⟩
  have ri:Rd c.w.params own h'' (.int i s.toks) (.int ((0 + i:Nat):Int)):=by
   have:((0 + i:Nat):Int) = (i:Int):=by simp
   rw [this]; exact .int _ _
  exact Rd.tup (vs:=[.int i s.toks,vals[i]]) (n:=_) hT' rfl rfl (.cons ri (.cons (by rw [hu']; exact hr.wr w kk) .nil))
 done:=fun s E Q hst h => by
  left;rcases hst with ⟨⟨old,he⟩,hit,hL⟩;right
  have hlen:(enumD ds).length = vals.length:=by simp [enumD,hl]
  rw [hlen] at he hit
  exact wpAny_pyNext_enum_end hh he hit hL (by simp) fun h' hx => h h' s.toks (Nat.le_refl _) fun b o n y => hx b o (fun e' => n (by simp [e'])) y
noncomputable def itemsD (kvs:List (Str × D)):List D:=kvs.map fun p => .tup [.str p.1,p.2]
set_option tactic.hygienic true in
theorem Iter.items {elts:List PySem.Expr} {tk:Nat} {tp:Pos} {I d:Addr} {ps:List (Str × Value)} {kvs:List (Str × D)} {ep:Nat} (hh:A.handled = none) (hne:d ≠ I) (hk:ps.map (·.1) = kvs.map (·.1)) :
  Iter c A (.Tuple elts tk tp) I [I] [I,d] (kvs.map (·.2)) (ps.map (·.2)) (itemsD kvs) (fun i h => (∃ ok ov,IsItemIter h I d i ps.length ep ok ov)∧h.DictAt (PySem.strKind c.prog c.w) d ps ep) where
 sub:=fun b hb => by simp at hb ⊢; exact .inl hb
 frame:=fun i h h' hst hk => by
  left;rcases hst with ⟨⟨a,b,he⟩,hd⟩;right
  exact ⟨⟨a,b,hk I (by simp) _ he⟩,hd.at' fun o e => hk d (by simp) o e⟩
 obj:=fun i h hst b hb => by
  left;rcases hst with ⟨⟨_,_,he⟩,⟨o,es,q1,_⟩⟩;right
  simp at hb
  rcases hb with rfl | rfl
  ·exact ⟨_,he⟩
  ·exact ⟨_,q1⟩
 rec_:=fun i h hst b hb => by
  left;rcases hst with ⟨⟨_,_,he⟩,_⟩;right
  simp at hb; subst hb
  exact ⟨_,_,he,rfl⟩
 next:=fun i s E E' own R hi hst ok r h => by
  left;rcases hst with ⟨⟨oa,ob,he⟩,hD⟩;right
  have hlen:ps.length = kvs.length:=by have:=congrArg List.length hk; simpa using this
  have hi':i < ps.length:=by simp [itemsD] at hi; omega
  have hx:ps[i]? = some (ps[i].1,ps[i].2):=by simp [hi']
  have hIlt:I < s.heap.objs.size:=Heap.lt_size he
  refine wpAny_pyNext_items_item he hD hx fun key h' hkey ho hT hsz hkp => ⟨_,rfl,?_⟩
  refine wpAny_letOwnedTupleGo_items ho fun h'' he' hs' => ?_
  have kk:Keep [I] s.heap h'':=fun q o n e' => by
   simp at n
   exact (hs'.2 q n).trans (hkp q o n e')
  have hT':h''.get? s.heap.objs.size = some { cls:=.type "tuple",data:=.seq #[key,ps[i].2] }:=(hs'.2 _ (Nat.ne_of_gt hIlt)).trans hT
  refine h _ h'' s.toks (Nat.le_refl _) ⟨⟨_,_,he'⟩,hD.at' fun o y => (hs'.2 d hne).trans (hkp d o hne y)⟩ kk fun dd hd => ?_
  unfold itemsD at hd
  rw [List.getElem?_map] at hd
  left;rcases Option.map_eq_some_iff.mp hd with ⟨p,hp,z0_⟩;right;subst z0_
  have hi2:i < kvs.length:=by omega
  have hd0:(kvs.map (·.2))[i]? = some p.2:=by (rewrite [List.getElem?_map] at ⊢; rw [hp]); rfl
  left;rcases r.get hd0 with ⟨u,hu,hr⟩;right
  have hu':ps[i].2 = u:=by
   rw [List.getElem?_map,List.getElem?_eq_getElem hi'] at hu; cases hu; rfl
  have hkk:ps[i].1 = p.1:=by
   have:=congrArg (fun l => l[i]?) hk
   simp only [List.getElem?_map,hp,List.getElem?_eq_getElem hi',Option.map_some,Option.some.injEq] at this
   exact this
  have w:∀ b ∈ [I],∃ o vs,s.heap.get? b = some o∧o.data = .fields vs:=fun b hb => by
   simp at hb; subst hb; exact ⟨_,_,he,rfl⟩
  have rk:Rd c.w.params own h'' key (.str p.1):=by
   cases key <;> simp [PySem.strKind,Value.isStrOf] at hkey
   rename_i y t
   rw [hkk.symm,hkey]; exact .str _ _
  exact Rd.tup (vs:=[key,ps[i].2]) (n:=_) hT' rfl rfl (.cons rk (.cons (by rw [hu']; exact hr.wr w kk) .nil))
 done:=fun s E Q hst h => by
  left;rcases hst with ⟨⟨oa,ob,he⟩,hD⟩;right
  have hlen:(itemsD kvs).length = ps.length:=by have:=congrArg List.length hk; simp at this; simp [itemsD,this]
  rw [hlen] at he
  exact wpAny_pyNext_items_end hh he hD (by simp) fun h' hx => h h' s.toks (Nat.le_refl _) fun b o n y => hx b o (fun e' => n (by simp [e'])) y
end
end
section
noncomputable def IT (c:Cx) (n:Nat) (env:Env) (lo:List (Str × D)) (fl:Bool) (tg e:PySem.Expr) (ds:List D):Prop:=
 ∀ (A:Around) (E:Value→Shared→Prop) (s:Shared) (own:List Addr) (Q:Value→Shared→Prop),Sit c n A env own lo s →
  (∀ I wr fp es vals St s',K2 s s'→Iter c A tg I wr fp es vals ds St→(fl = true→Self c A I St)→St 0 s'.heap→(∀ a ∈ wr,s.heap.get? a = none)→(∀ a ∈ fp,a ∉ own)→RdAll c.w.params own s'.heap vals es→Q (.ref I) s') →
  wpAny (model c.prog c.w) A (eval e env) (fun x s₁ => wpAny (model c.prog c.w) A (pyIter x) Q E s₁) E s
section
variable {c:Cx} {n:Nat} {A:Around} {env:Env} {b:Shared} {co own:List Addr} {ad:Str→List Addr} {lo lo':List (Str × D)} {ow ow':List (Str × OwnD)} {ex:List (Str × Value)} {s s':Shared} {o:Out} {tg:PySem.Expr}
theorem none_size (h:Heap):h.get? h.objs.size = none:=by
 cases q:h.get? h.objs.size with
 | none => rfl
 | some o => exact absurd (Heap.lt_size q) (Nat.lt_irrefl _)
theorem ne_of_get {h:Heap} {a:Addr} {o:Obj} (e:h.get? a = some o):a ≠ h.objs.size:=Nat.ne_of_lt (Heap.lt_size e)
theorem Sit.size (S:Sit c n A env own lo s):s.heap.objs.size ∉ own:=S.ok.held.new
theorem IT.list {e:PySem.Expr} {ds:List D} (x:EV c n env lo e (.lst ds)):IT c n env lo true tg e ds:=fun A E s own Q S h =>
 x A E s own _ S fun v s₁ k r => by
  left;rcases r.lst_inv with ⟨a,oa,nA,vs,z0_,na,ea,ca,da,xa⟩;right;subst z0_
  have hl:s₁.heap.IsList a vs.toArray:=⟨_,ea,ca,_,da⟩
  refine wpAny_pyIter_list hl ?_
  have hne:=ne_of_get ea
  refine h _ [_] [_,a] ds vs _ _ (k.push _) (Iter.list S.ao.handled hne xa.length) (fun _ i s' E' Q' st hq => (Walks.list S.ao.handled _ a hne vs.toArray).self i s' Q' E' st hq)
   ⟨⟨_,Heap.get?_push_size _ rfl,rfl,rfl⟩,hl.at fun o q => Heap.get?_push_of_some _ q⟩ (fun q hq => ?_) (fun q hq => ?_) (xa.ext (ext_push _ _))
  ·simp at hq; subst hq; exact none_of_ext k.ext (none_size _)
  ·simp at hq
   rcases hq with rfl | rfl
   ·exact (S.mono k).size
   ·exact na
theorem IT.tuple {e:PySem.Expr} {ds:List D} (x:EV c n env lo e (.tup ds)):IT c n env lo true tg e ds:=fun A E s own Q S h =>
 x A E s own _ S fun v s₁ k r => by
  left;rcases r.tup_inv with ⟨a,oa,nA,vs,z0_,ea,ca,da,xa⟩;right;subst z0_
  have hl:s₁.heap.IsTuple a vs.toArray:=⟨_,ea,ca,_,da⟩
  refine wpAny_pyIter_tuple hl ?_
  have hne:=ne_of_get ea
  refine h _ [_] [_,a] ds vs _ _ (k.push _) (Iter.tuple S.ao.handled hne xa.length) (fun _ i s' E' Q' st hq => (Walks.tuple S.ao.handled _ a hne vs.toArray).self i s' Q' E' st hq)
   ⟨⟨_,Heap.get?_push_size _ rfl,rfl,rfl⟩,hl.at fun o q => Heap.get?_push_of_some _ q⟩ (fun q hq => ?_) (fun q hq => ?_) (xa.ext (ext_push _ _))
  ·simp at hq; subst hq; exact none_of_ext k.ext (none_size _)
  ·simp at hq
   rcases hq with rfl | rfl
   ·exact (S.mono k).size
   ·intro hm
    left;rcases (S.mono k).ok _ hm with ⟨o,ho,hc⟩;right
    rw [ea] at ho; cases ho; exact hc ⟨ca,_,_,da⟩
theorem IT.str {e:PySem.Expr} {x:Str} (y:EV c n env lo e (.str x)):IT c n env lo false tg e (signsD x):=fun A E s own Q S h =>
 y A E s own _ S fun v s₁ k r => by
  obtain ⟨t,rfl⟩:=r.str_inv
  cases ha:x.cps.all (· < 128)
  ·refine wpAny_pyIter_wide ha ?_
   refine h _ [_] [_] [] [] _ _ (k.push _) (Iter.str (T := "str_iterator") (by decide) (Walks.strWide S.ao.handled _ x t)) (by simp) ⟨_,Heap.get?_push_size _ rfl,rfl,rfl⟩ (fun q hq => ?_) (fun q hq => ?_) .nil
   ·simp at hq; subst hq; exact none_of_ext k.ext (none_size _)
   ·simp at hq; subst hq; exact (S.mono k).size
  ·refine wpAny_pyIter_ascii ha ?_
   refine h _ [_] [_] [] [] _ _ (k.push _) (Iter.str (T := "str_ascii_iterator") (by decide) (Walks.strAscii S.ao.handled _ x t)) (by simp) ⟨_,Heap.get?_push_size _ rfl,rfl,rfl⟩ (fun q hq => ?_) (fun q hq => ?_) .nil
   ·simp at hq; subst hq; exact none_of_ext k.ext (none_size _)
   ·simp at hq; subst hq; exact (S.mono k).size
theorem range_go {E:Value→Shared→Prop} {Q:Value→Shared→Prop} {s s₁:Shared} {lo2:List (Str × D)} {a z:Int} {r:Addr} {t u v:Tok} (S:Sit c n A env own lo2 s) (k:K2 s s₁) (hr:IsRange s₁.heap r a z 1 t u v) (ha:-1000 ≤ a∧a ≤ 100000) (hz:-1000 ≤ z∧z ≤ 100000)
  (h:∀ I wr fp es vals St s',K2 s s'→Iter c A tg I wr fp es vals (rangeD a (z - a).toNat) St→(true = true→Self c A I St)→St 0 s'.heap→(∀ a ∈ wr,s.heap.get? a = none)→(∀ a ∈ fp,a ∉ own)→RdAll c.w.params own s'.heap vals es→Q (.ref I) s') :
  wpAny (model c.prog c.w) A (pyIter (.ref r)) Q E s₁:=by
 refine wpAny_pyIter_range hr (small_one (by omega) (by omega) (by omega) (by omega)) ?_
 have hsz:Builtin.Range.rangeSize a z 1 = ((z - a).toNat:Int):=by rw [rangeSize_one]; split <;> omega
 refine h _ [_] [_] [] [] _ _ (k.push _) (Iter.range S.ao.handled) (fun _ i s' E' Q' st hq => (Walks.range S.ao.handled _ a 1 _).self i s' Q' E' st hq) ?_ (fun q hq => ?_) (fun q hq => ?_) .nil
 ·have e1:(a + ((0:Nat):Int) * 1) = a:=by simp
  have e2:(((z - a).toNat:Int) - ((0:Nat):Int)) = Builtin.Range.rangeSize a z 1:=by rw [hsz]; simp
  show IsRangeIter _ _ (a + ((0:Nat):Int) * 1) (((z - a).toNat:Int) - ((0:Nat):Int)) 1
  rw [e1,e2]
  exact Heap.get?_push_size _ rfl
 ·simp at hq; subst hq; exact none_of_ext k.ext (none_size _)
 ·simp at hq; subst hq; exact (S.mono k).size
theorem IT.range1 {x:Str} {p pos:Pos} {e:PySem.Expr} {z:Int} (g:GlobIs c env x (.type "range")) (y:EV c n env lo e (.int z)) (hz:-1000 ≤ z∧z ≤ 100000) (hp:autoParam (Plain [e] env pos) byPl) (he:autoParam (starEach [e] env = (false,eval e env) :: starEach [] env) byRfl) (hd:autoParam ((x == ("__debug__":Str)) = false) byDec) :
  IT c n env lo true tg (.Call (.Name x p) [e] [] pos) (rangeD 0 z.toNat):=fun A E s own Q S h =>
 PyProof.Rows.Call_ (glob_eval g S hd (callWith_ev KeepF.type (EVs.cons y EVs.nil he) hp S fun vs s₁ k r => by
  cases r with
  | cons r rn =>
   cases rn; cases r
   refine call_range_1 ?_
   have hz':(z - 0).toNat = z.toNat:=by simp
   exact range_go S (k.trans ⟨keeps_push _ _ _,Nat.le_succ_of_le (Nat.le_succ _)⟩) (IsRange.new ..) ⟨by decide,by decide⟩ hz (by rw [hz']; exact h)))
theorem IT.range2 {x:Str} {p pos:Pos} {e₁ e₂:PySem.Expr} {a z:Int} (g:GlobIs c env x (.type "range")) (y₁:EV c n env lo e₁ (.int a)) (y₂:EV c n env lo e₂ (.int z)) (ha:-1000 ≤ a∧a ≤ 100000) (hz:-1000 ≤ z∧z ≤ 100000) (hp:autoParam (Plain [e₁,e₂] env pos) byPl)
  (he:autoParam (starEach [e₁,e₂] env = (false,eval e₁ env) :: starEach [e₂] env) byRfl) (he2:autoParam (starEach [e₂] env = (false,eval e₂ env) :: starEach [] env) byRfl) (hd:autoParam ((x == ("__debug__":Str)) = false) byDec) :
  IT c n env lo true tg (.Call (.Name x p) [e₁,e₂] [] pos) (rangeD a (z - a).toNat):=fun A E s own Q S h =>
 PyProof.Rows.Call_ (glob_eval g S hd (callWith_ev KeepF.type (EVs.cons y₁ (EVs.cons y₂ EVs.nil he2) he) hp S fun vs s₁ k r => by
  cases r with
  | cons r rn =>
   cases rn with
   | cons r' rn =>
    cases rn; cases r; cases r'
    refine call_range_2 ?_
    exact range_go S (k.trans ⟨keeps_push _ _ _,Nat.le_succ _⟩) (IsRange.new ..) ha hz h))
theorem IT.enum {x:Str} {p pos:Pos} {e:PySem.Expr} {elts:List PySem.Expr} {tk:Nat} {tp:Pos} {ds:List D} (g:GlobIs c env x (.type "enumerate")) (y:EV c n env lo e (.lst ds)) (hp:autoParam (Plain [e] env pos) byPl) (he:autoParam (starEach [e] env = (false,eval e env) :: starEach [] env) byRfl) (hd:autoParam ((x == ("__debug__":Str)) = false) byDec) :
  IT c n env lo false (.Tuple elts tk tp) (.Call (.Name x p) [e] [] pos) (enumD ds):=fun A E s own Q S h =>
 PyProof.Rows.Call_ (glob_eval g S hd (callWith_ev KeepF.type (EVs.cons y EVs.nil he) hp S fun vs s₁ k r => by
  cases r with
  | cons r rn =>
   cases rn
   left;rcases r.lst_inv with ⟨a,oa,nA,vs,z0_,na,ea,ca,da,xa⟩;right;subst z0_
   have hl:s₁.heap.IsList a vs.toArray:=⟨_,ea,ca,_,da⟩
   have hne:=ne_of_get ea
   have hlt:=Heap.lt_size ea
   refine call_enumerate_list hl fun h' hE hI hs hk => ?_
   refine wpAny_pyIter_enum hE ?_
   have kk:K2 s { s₁ with heap:=h' }:=k.trans ⟨⟨h',s₁.toks,rfl,hk⟩,Nat.le_refl _⟩
   have hn2:s₁.heap.get? (s₁.heap.objs.size + 1) = none:=by
    cases q:s₁.heap.get? (s₁.heap.objs.size + 1) with
    | none => rfl
    | some o => exact absurd (Heap.lt_size q) (Nat.not_lt.mpr (Nat.le_succ _))
   refine h _ [_,_] [_,_,a] ds vs _ _ kk (Iter.enum (it:=s₁.heap.objs.size) S.ao.handled (Nat.succ_ne_self _) (Nat.ne_of_lt (Nat.lt_succ_of_lt hlt)) hne xa.length) (by simp) ⟨⟨_,hE⟩,hI,hl.at fun o q => hk _ _ q⟩ (fun q hq => ?_) (fun q hq => ?_) (xa.ext hk)
   ·simp at hq
    rcases hq with rfl | rfl
    ·exact none_of_ext k.ext hn2
    ·exact none_of_ext k.ext (none_size _)
   ·simp at hq
    rcases hq with rfl | rfl | rfl
    ·intro hm; left;rcases (S.mono k).ok _ hm with ⟨o,ho,_⟩;right; rw [hn2] at ho; cases ho
    ·exact (S.mono k).size
    ·exact na))
theorem exactDict {es:List DictEntry} {m:Nat}:Obj.ExactDict { cls:=.type "dict",data:=.dict es.toArray m }:=⟨rfl,rfl,rfl⟩
theorem IT.keys {e:PySem.Expr} {kvs:List (Str × D)} (x:EV c n env lo e (.dct kvs)) (hk:(kvs.map (·.1)).Nodup):IT c n env lo false tg e (kvs.map fun p => .str p.1):=fun A E s own Q S h =>
 x A E s own _ S fun v s₁ k r => by
  left;rcases r.dct_inv with ⟨a,m,es,z0_,na,ea,xa⟩;right;subst z0_
  left;rcases RdKv.keys (prog:=c.prog) xa with ⟨ps,h1,h2,h3⟩;right
  have hd:s₁.heap.DictAt (PySem.strKind c.prog c.w) a ps m:=⟨_,es.toArray,ea,exactDict,rfl,xa.keysOf,by simpa using h1,by rw [h2]; exact hk⟩
  have hne:=ne_of_get ea
  have hsm:(a == sysModules) = false:=by simpa using na.2
  refine wpAny_pyIter_dict hsm hd ?_
  have e2:(kvs.map fun p => D.str p.1) = ps.map fun p => D.str p.1:=by
   have:=congrArg (List.map D.str) h2
   simpa [Function.comp_def] using this.symm
  have W:=Iter.dictKeys (c:=c) (tg:=tg) (ps:=ps) (ep:=m) S.ao.handled hne
  rw [← e2] at W
  refine h _ [_] [_,a] [] [] _ _ (k.push _) W (by simp) ⟨⟨_,Heap.get?_push_size _ rfl,rfl,rfl⟩,hd.at' fun o q => Heap.get?_push_of_some _ q⟩ (fun q hq => ?_) (fun q hq => ?_) .nil
  ·simp at hq; subst hq; exact none_of_ext k.ext (none_size _)
  ·simp at hq
   rcases hq with rfl | rfl
   ·exact (S.mono k).size
   ·exact na.1
theorem IT.items {o:PySem.Expr} {apos pos:Pos} {elts:List PySem.Expr} {tk:Nat} {tp:Pos} {kvs:List (Str × D)} {pl:Sem Bool} (x:EV c n env lo o (.dct kvs)) (hk:(kvs.map (·.1)).Nodup)
  (he:autoParam (eval (.Call (.Attribute o "items" apos) [] [] pos) env = (do
   let ov ← eval o env
   standAt apos.atName
   let (f,first) ← holding [ov] (getMethod ov "items" pl)
   callWith pos f first (backTo pos (starEach [] env)) (backToKw pos (keywordEach [] env)))) byRfl) :
  IT c n env lo false (.Tuple elts tk tp) (.Call (.Attribute o "items" apos) [] [] pos) (itemsD kvs):=fun A E s own Q S h =>
 methodCall_KW (x A E s own _ S fun v s₁ k r => by
  left;rcases r.dct_inv with ⟨a,m,es,z0_,na,ea,xa⟩;right;subst z0_
  left;rcases RdKv.keys (prog:=c.prog) xa with ⟨ps,h1,h2,h3⟩;right
  have hd:s₁.heap.DictAt (PySem.strKind c.prog c.w) a ps m:=⟨_,es.toArray,ea,exactDict,rfl,xa.keysOf,by simpa using h1,by rw [h2]; exact hk⟩
  have hne:=ne_of_get ea
  have hlt:=Heap.lt_size ea
  have hsm:(a == sysModules) = false:=by simpa using na.2
  refine getMethod_builtin hd.dictOf.typeIs F.plainAttrs_dict F.slot_dict_items F.type_dict_items hd.dictOf.mapOf.noDict ?_
  refine callWith_ev (lo:=[]) (first:=[.ref a]) KeepF.builtin EVs.nil ⟨.inl rfl,rfl⟩ { (S.mono k) with names:=fun x d e => by simp at e } fun vs s₂ k2 r2 => ?_
  cases r2
  have hd2:=hd.at' (h':=s₂.heap) fun o q => k2.ext _ _ q
  refine call_meetsIn F.slot_dict_items hd2.dictOf.typeIs F.entry_dict_items (F.args_dict_items_1 _) (meets_dict_items (PySem.strKind c.prog c.w) a hsm) ⟨⟨ps,hd2.dictOf⟩,?_⟩
  show wants _ E _ _
  have hlt2:=Heap.lt_size (k2.ext _ _ ea)
  refine wpAny_pyIter_items (knd:=PySem.strKind c.prog c.w) (d:=a) (kvs:=ps) (ep:=m) ⟨_,Heap.get?_push_size _ rfl,rfl,rfl⟩ (hd2.at' fun o q => Heap.get?_push_of_some _ q) ?_
  have kk:K2 s { s₂ with heap:=s₂.heap.push { cls:=.type "dict_items",data:=.fields #[.ref a] } }:=(k.trans k2).push _
  have hsz:(s₂.heap.push { cls:=.type "dict_items",data:=.fields #[.ref a] }).objs.size = s₂.heap.objs.size + 1:=Heap.size_push ..
  refine h _ [_] [_,a] (kvs.map (·.2)) (ps.map (·.2)) _ _ (kk.push _) (Iter.items (ps:=ps) (ep:=m) S.ao.handled (by
   show a ≠ (s₂.heap.push _).objs.size
   rw [hsz]; exact Nat.ne_of_lt (Nat.lt_succ_of_lt hlt2)) h2) (by simp) ⟨⟨_,_,Heap.get?_push_size _ rfl⟩,(hd2.at' fun o q => Heap.get?_push_of_some _ q).at' fun o q => Heap.get?_push_of_some _ q⟩ (fun q hq => ?_) (fun q hq => ?_) (((h3.ext k2.ext).ext (ext_push _ _)).ext (ext_push _ _))
  ·simp at hq; subst hq; exact none_of_ext kk.ext (by rw [hsz.symm]; exact none_size _)
  ·simp at hq
   rcases hq with rfl | rfl
   ·rw [hsz.symm]; exact (S.mono kk).size
   ·exact na.1) he
theorem Sto.carry (S:Sto c n A env b co own ad lo ow ex s):∃ b₁:Shared,Sto c n A env b₁ co own ad lo ow ex s ∧
  (∀ {own₂ ad₂ lo₂ ow₂ s₂},Sto c n A env b₁ co own₂ ad₂ lo₂ ow₂ ex s₂→Sto c n A env b co own₂ ad₂ lo₂ ow₂ ex s₂∧(∀ a o,a ∉ own→s.heap.get? a = some o→s₂.heap.get? a = some o∧a ∉ own₂)∧(∀ a o,a ∈ co→s.heap.get? a = some o→s₂.heap.get? a = some o))∧(∀ s₂,Keeps b₁ s₂→Keeps b s₂):=by
 left;rcases S.rebase with ⟨b₁,S₁,k1,k2,k3⟩;right
 refine ⟨b₁,S₁,fun {own₂ ad₂ lo₂ ow₂ s₂} S₂ => ⟨k2 S₂,fun a o n e => ⟨(Keeps.ext S₂.keep) _ _ (k1 a o (.inl n) e),fun hm => ?_⟩,fun a o n e => (Keeps.ext S₂.keep) _ _ (k1 a o (.inr n) e)⟩,k3⟩
 rcases S₂.new a hm with y | y
 ·exact n (S.coIn a y)
 ·rw [k1 a o (.inl n) e] at y; cases y
noncomputable def Tg (c:Cx) (n:Nat) (env:Env) (ex:List (Str × Value)) (tg:PySem.Expr) (d:D) (lo:List (Str × D)) (ow:List (Str × OwnD)) (lo':List (Str × D)):Prop:=
 ∀ (A:Around) (E:Value→Shared→Prop) (b:Shared) (co own:List Addr) (ad:Str→List Addr) (s:Shared) (v:Value) (Q:Unit→Shared→Prop),Sto c n A env b co own ad lo ow ex s→Rd c.w.params own s.heap v d →
  (∀ s' own' ad',Sto c n A env b co own' ad' lo' ow ex s'→Q () s')→wpAny (model c.prog c.w) A (PySem.assign tg env v) Q E s
theorem Tg.name {x:Str} {p:Pos} {d:D} (hk:canStore env x) (how:autoParam (ow.lookup x = none) byRfl) (hex:autoParam (ex.lookup x = none) byRfl):Tg c n env ex (.Name x p) d lo ow ((x,d) :: lo):=fun A E b co own ad s v Q S r h =>
 wpAny_assign_Name (S.store hk how hex fun s' h1 _ => h s' own ad (h1 d r))
noncomputable def Tgs (c:Cx) (n:Nat) (env:Env) (ex:List (Str × Value)) (tgs:List PySem.Expr) (ds:List D) (lo:List (Str × D)) (ow:List (Str × OwnD)) (lo':List (Str × D)):Prop:=
 ∀ (A:Around) (E:Value→Shared→Prop) (b:Shared) (co own:List Addr) (ad:Str→List Addr) (s:Shared) (vs:List Value) (Q:Unit→Shared→Prop),Sto c n A env b co own ad lo ow ex s→RdAll c.w.params own s.heap vs ds →
  (∀ s' own' ad',Sto c n A env b co own' ad' lo' ow ex s'→Q () s')→wpAny (model c.prog c.w) A (assignInOrder ((assignEach tgs env).map (·.2)) vs) Q E s
theorem Tgs.nil:Tgs c n env ex [] [] lo ow lo:=fun A E b co own ad s vs Q S r h => by
 cases r
 exact wpAny_pure (h _ _ _ S)
theorem Tgs.cons {x:Str} {p:Pos} {d:D} {tgs:List PySem.Expr} {ds:List D} (hk:canStore env x) (y:Tgs c n env ex tgs ds ((x,d) :: lo) ow lo') (how:autoParam (ow.lookup x = none) byRfl) (hex:autoParam (ex.lookup x = none) byRfl) :
  Tgs c n env ex (.Name x p :: tgs) (d :: ds) lo ow lo':=fun A E b co own ad s vs Q S r h => by
 cases r with
 | cons r rs =>
  left;rcases S.carry with ⟨b₁,S₁,k1,k2⟩;right
  refine assignInOrder_cons (wpAny_assign_Name (S₁.store hk how hex fun s' h1 _ => ?_))
  have S₂:=h1 d r
  left;rcases k1 S₂ with ⟨_,mv,_⟩;right
  exact y A E b₁ co own ad s' _ Q S₂ (rs.move S.sit.ok mv) fun s'' own' ad' S₃ => h s'' own' ad' (k1 S₃).1
theorem Tg.tuple {tgs:List PySem.Expr} {k:Nat} {p:Pos} {ds:List D} (y:Tgs c n env ex tgs ds lo ow lo') (hn:autoParam ((assignEach tgs env).length = ds.length) byRfl) (hstar:autoParam ((assignEach tgs env).findIdx? (·.1) = none) byRfl):Tg c n env ex (.Tuple tgs k p) (.tup ds) lo ow lo':=fun A E b co own ad s v Q S r h => by
 left;rcases r.tup_inv with ⟨a,oa,nA,vs,z0_,ea,ca,da,xa⟩;right;subst z0_
 have hlen:=xa.length
 refine assign_Tuple_tuple S.sit.ao.handled (items:=vs.toArray) ⟨_,ea,ca,_,da⟩ (by rw [hn]; simp [hlen]) hstar fun h' eb => ?_
 have e:Ext s.heap h':=fun q o hq => eb q o (ne_of_get hq) hq
 have k2:K2 s { s with heap:=h' }:=⟨⟨h',s.toks,rfl,e⟩,Nat.le_refl _⟩
 have:=y A E b co own ad { s with heap:=h' } vs Q (S.mono k2) (xa.ext e) h
 simpa using this
noncomputable def Step (c:Cx) (n:Nat) (env:Env) (ex:List (Str × Value)) (tg:PySem.Expr) (d:D) (body:List Stmt) (lo:List (Str × D)) (ow:List (Str × OwnD)) (o:Out):Prop:=
 ∀ (A:Around) (E:Value→Shared→Prop) (b:Shared) (co own:List Addr) (ad:Str→List Addr) (s:Shared) (v:Value),Sto c n A env b co own ad lo ow ex s→Rd c.w.params own s.heap v d →
  wpAny (model c.prog c.w) A (PySem.assign tg env v) (fun _ s₁ => wpAny (model c.prog c.w) A (execs body env) (OutIs c n A env b co ex o) E s₁) E s
theorem Step.of {d:D} {body:List Stmt} (t:Tg c n env ex tg d lo ow lo') (x:Ex c n env ex body lo' ow o):Step c n env ex tg d body lo ow o:=fun A E b co own ad s v S r =>
 t A E b co own ad s v _ S r fun s' own' ad' S' => x A E b co s' ⟨own',ad',S'⟩
noncomputable def LoopEnd (c:Cx) (n:Nat) (env:Env) (ex:List (Str × Value)) (tg:PySem.Expr) (body:List Stmt) (ds:List D) (N:Nat) (lo:List (Str × D)) (ow:List (Str × OwnD)) (o:Out):Prop:=
 (N = ds.length∧o = .next lo ow) ∨ ∃ d,ds[N]? = some d∧((∃ l w,Step c n env ex tg d body lo ow (.brk l w)∧o = .next l w) ∨ ∃ r,Step c n env ex tg d body lo ow (.ret r)∧o = .ret r)
noncomputable def ITS (c:Cx) (n:Nat) (env:Env) (ex:List (Str × Value)) (lo:List (Str × D)) (ow:List (Str × OwnD)) (tg e:PySem.Expr) (ds:List D):Prop:=
 ∀ (A:Around) (E:Value→Shared→Prop) (b:Shared) (co own:List Addr) (ad:Str→List Addr) (s:Shared) (Q:Value→Shared→Prop),Sto c n A env b co own ad lo ow ex s →
  (∀ I wr fp es vals St s',K2 s s'→Iter c A tg I wr fp es vals ds St→St 0 s'.heap→(∀ a ∈ wr,s.heap.get? a = none)→(∀ a ∈ fp,a ∉ own)→RdAll c.w.params own s'.heap vals es→Q (.ref I) s') →
  wpAny (model c.prog c.w) A (eval e env) (fun x s₁ => wpAny (model c.prog c.w) A (pyIter x) Q E s₁) E s
theorem IT.its {fl:Bool} {e:PySem.Expr} {ds:List D} (x:IT c n env lo fl tg e ds):ITS c n env ex lo ow tg e ds:=fun A E b co own ad s Q S h => x A E s own Q S.sit fun I wr fp es vals St s' k X _ st h1 h2 r => h I wr fp es vals St s' k X st h1 h2 r
theorem ITS.strF {e:PySem.Expr} {x:Str} (y:EV c n env (lo ++ frozen ow) e (.str x)):ITS c n env ex lo ow tg e (signsD x):=fun A E b co own ad s Q S h =>
 y A E s _ _ S.thawed fun v s₁ k r => by
  have S1:=S.mono k
  obtain ⟨t,rfl⟩:=r.str_inv
  cases ha:x.cps.all (· < 128)
  ·refine wpAny_pyIter_wide ha ?_
   refine h _ [_] [_] [] [] _ _ (k.push _) (Iter.str (T := "str_iterator") (by decide) (Walks.strWide S.sit.ao.handled _ x t)) ⟨_,Heap.get?_push_size _ rfl,rfl,rfl⟩ (fun q hq => ?_) (fun q hq => ?_) .nil
   ·simp at hq; subst hq; exact none_of_ext k.ext (none_size _)
   ·simp at hq; subst hq; exact S1.sit.size
  ·refine wpAny_pyIter_ascii ha ?_
   refine h _ [_] [_] [] [] _ _ (k.push _) (Iter.str (T := "str_ascii_iterator") (by decide) (Walks.strAscii S.sit.ao.handled _ x t)) ⟨_,Heap.get?_push_size _ rfl,rfl,rfl⟩ (fun q hq => ?_) (fun q hq => ?_) .nil
   ·simp at hq; subst hq; exact none_of_ext k.ext (none_size _)
   ·simp at hq; subst hq; exact S1.sit.size
theorem Ex1.loopG {iter:PySem.Expr} {body:List Stmt} {pos:Pos} {ds:List D} (it:ITS c n env ex lo ow tg iter ds) (L:Nat→List (Str × D)) (W:Nat→List (Str × OwnD)) (N:Nat) (hN:N ≤ ds.length)
  (start:Sub (L 0) lo) (startO:SubO (W 0) ow) (step:∀ i d,i < N→ds[i]? = some d→Step c n env ex tg d body (L i) (W i) (.next (L (i + 1)) (W (i + 1))))
  (fin:LoopEnd c n env ex tg body ds N (L N) (W N) o) (hs:autoParam (∀ x,foldedSetIterable iter env x = pure x) byIR):Ex1 c n env ex (.For tg iter body [] pos) lo ow o:=fun A E b co s ⟨own,ad,S⟩ => by
 refine wpAny_For (it A E b co own ad s _ S fun I wr fp es vals St s₁ k X st hwn hfo r => ?_) hs
 have S₁:=(S.mono k).weak start.at startO.at
 have hwb:∀ a ∈ wr,c.H.get? a = none∧b.heap.get? a = none:=fun a ha => ⟨none_of_ext S.sit.ext (hwn a ha),none_of_ext (Keeps.ext S.keep) (hwn a ha)⟩
 refine codeAny_forLoop_any (fun m s => ∃ i own ad,i ≤ N∧m = N - i∧Sto c n A env b co own ad (L i) (W i) ex s∧St i s.heap∧(∀ a ∈ fp,a ∉ own)∧RdAll c.w.params own s.heap vals es) (fun m s hI => ?_) N ⟨0,own,ad,Nat.zero_le _,rfl,S₁,st,hfo,r⟩
 left;rcases hI with ⟨i,own,ad,hi,z0_,S,st,hfo,r⟩;right;subst z0_
 have hw:=X.rec_ i _ st
 by_cases hlast:i = ds.length
 ·subst hlast
  have hNi:N = ds.length:=Nat.le_antisymm hN hi
  refine X.done s _ _ st fun h' tk htk kp => ?_
  have S':=S.wr hw kp (fun a ha => ⟨hfo a (X.sub a ha),hwb a ha⟩) htk
  rcases fin with ⟨_,rfl⟩ | ⟨d,hd,_⟩
  ·rw [hNi]
   exact wpAny_execs_nil ⟨rfl,own,ad,S'⟩
  ·rw [hNi] at hd; simp at hd
 ·have hi':i < ds.length:=by omega
  obtain ⟨d,hd⟩:∃ d,ds[i]? = some d:=⟨ds[i],by simp [hi']⟩
  refine wpAny_mono (X.next i s (notedBy (model c.prog c.w) A env fun e s' => cameBackBy (model c.prog c.w) A env E e s') (notedBy (model c.prog c.w) A env fun e s' => cameBackBy (model c.prog c.w) A env E e s') own
   (fun v s₂ => wpAny (model c.prog c.w) A (PySem.assign tg env v) (fun _ s₂ => wpAny (model c.prog c.w) A (execs body env) (fun f s₃ => match f with
      | .next | .cont => ∃ m,m < N - i∧∃ i own ad,i ≤ N∧m = N - i∧Sto c n A env b co own ad (L i) (W i) ex s₃∧St i s₃.heap∧(∀ a ∈ fp,a ∉ own)∧RdAll c.w.params own s₃.heap vals es
      | .brk => OutIs c n A env b co ex o .next s₃
      | .ret v => OutIs c n A env b co ex o (.ret v) s₃) (notedBy (model c.prog c.w) A env fun e s' => cameBackBy (model c.prog c.w) A env E e s') s₂) (notedBy (model c.prog c.w) A env fun e s' => cameBackBy (model c.prog c.w) A env E e s') s₂)
   hi' st S.sit.ok.held r fun v h' tk htk st' kp hv => ?_) (fun rr s₁ h1 => ?_) fun _ _ z => z
  ·have S':=S.wr hw kp (fun a ha => ⟨hfo a (X.sub a ha),hwb a ha⟩) htk
   have r':=r.wr hw kp
   left;rcases S'.carry with ⟨b₁,S₁,k1,k2⟩;right
   have back:∀ {own₂ ad₂ lo₂ ow₂ s₂},Sto c n A env b₁ co own₂ ad₂ lo₂ ow₂ ex s₂→Sto c n A env b co own₂ ad₂ lo₂ ow₂ ex s₂∧St (i + 1) s₂.heap∧(∀ a ∈ fp,a ∉ own₂)∧RdAll c.w.params own₂ s₂.heap vals es:=fun S₂ => by
    left;rcases k1 S₂ with ⟨S₃,mv,_⟩;right
    refine ⟨S₃,X.frame _ _ _ st' fun q hq o e => (mv q o (hfo q hq) e).1,fun q hq => ?_,r'.move S'.sit.ok mv⟩
    obtain ⟨o,e⟩:=X.obj _ _ st' q hq
    exact (mv q o (hfo q hq) e).2
   by_cases hiN:i < N
   ·refine wpAny_mono (step i d hiN hd A _ b₁ co own ad _ v S₁ (hv d hd)) (fun _ s₂ h2 => wpAny_mono h2 (fun f s₃ h3 => ?_) fun _ _ z => z) fun _ _ z => z
    left;rcases h3 with ⟨z0_,own₂,ad₂,S₂⟩;right;subst z0_
    left;rcases back S₂ with ⟨S₃,st3,f3,r3⟩;right
    exact ⟨N - (i + 1),by omega,i + 1,own₂,ad₂,hiN,rfl,S₃,st3,f3,r3⟩
   ·have hNi:N = i:=by omega
    subst hNi
    rcases fin with ⟨e,_⟩ | ⟨d',hd',hh⟩
    ·omega
    ·rw [hd] at hd'; cases hd'
     rcases hh with ⟨l,w,hst,rfl⟩ | ⟨rr,hst,rfl⟩
     ·refine wpAny_mono (hst A _ b₁ co own ad _ v S₁ (hv d hd)) (fun _ s₂ h2 => wpAny_mono h2 (fun f s₃ h3 => ?_) fun _ _ z => z) fun _ _ z => z
      left;rcases h3 with ⟨z0_,own₂,ad₂,S₂⟩;right;subst z0_
      exact ⟨rfl,own₂,ad₂,(back S₂).1⟩
     ·refine wpAny_mono (hst A _ b₁ co own ad _ v S₁ (hv d hd)) (fun _ s₂ h2 => wpAny_mono h2 (fun f s₃ h3 => ?_) fun _ _ z => z) fun _ _ z => z
      left;rcases h3 with ⟨u,z0_,ru,ku⟩;right;subst z0_
      exact ⟨u,rfl,ru,k2 _ ku⟩
  ·left;rcases h1 with ⟨v,z0_,hv⟩;right;subst z0_
   exact hv
theorem Ex1.loop {iter:PySem.Expr} {body:List Stmt} {pos:Pos} {fl:Bool} {ds:List D} (it:IT c n env lo fl tg iter ds) (L:Nat→List (Str × D)) (W:Nat→List (Str × OwnD)) (N:Nat) (hN:N ≤ ds.length)
  (start:Sub (L 0) lo) (startO:SubO (W 0) ow) (step:∀ i d,i < N→ds[i]? = some d→Step c n env ex tg d body (L i) (W i) (.next (L (i + 1)) (W (i + 1))))
  (fin:LoopEnd c n env ex tg body ds N (L N) (W N) o) (hs:autoParam (∀ x,foldedSetIterable iter env x = pure x) byIR):Ex1 c n env ex (.For tg iter body [] pos) lo ow o:=Ex1.loopG it.its L W N hN start startO step fin hs
end
end
section
open Sem (wp)
noncomputable def closOf (names:List (Str × NameKind)) (cells acc:List (Str × Addr)):List (Str × Addr):=match names with
 | [] => acc
 | (n,k) :: r => if k == .free then (match cells.lookup n with | some a => closOf r cells ((n,a) :: acc) | none => closOf r cells acc) else closOf r cells acc
noncomputable def closAll (names:List (Str × NameKind)) (cells:List (Str × Addr)):Bool:=names.all fun p => p.2 != .free || (cells.lookup p.1).isSome
theorem closFor {scope:Scope} {env:Env} (h:closAll scope.names env.cells = true):closureFor scope env = pure (closOf scope.names env.cells []):=by
 unfold closureFor
 have key:∀ (l:List (Str × NameKind)) (acc:List (Str × Addr)),closAll l env.cells = true →
   (forIn l acc (fun (x:Str × NameKind) (r:List (Str × Addr)) => match x with
    | (name,kind) => if (kind == .free) = true then do let a ← cellOf env name; pure (ForInStep.yield ((name,a) :: r)) else pure (ForInStep.yield r)):Sem (List (Str × Addr))) = pure (closOf l env.cells acc):=by
  intro l
  induction l with
  | nil => intro acc _; rfl
  | cons p r ih =>
   intro acc hq
   obtain ⟨n,k⟩:=p
   have hq':=Bool.and_eq_true_iff.mp (show (_ && _) = true from hq)
   rw [List.forIn_cons]
   unfold closOf
   by_cases hk:(k == NameKind.free) = true
   ·simp only [hk,if_true]
    have h1:(env.cells.lookup n).isSome = true:=by
     have:=hq'.1
     have hk':k = .free:=by simpa using hk
     subst hk'
     simpa using this
    obtain ⟨a,ha⟩:=Option.isSome_iff_exists.mp h1
    have hc:cellOf env n = pure a:=by unfold cellOf; rw [ha]
    rw [hc,ha]
    exact ih _ hq'.2
   ·have hk':(k == NameKind.free) = false:=by simpa using hk
    simp only [hk',Bool.false_eq_true,if_false]
    exact ih _ hq'.2
 have:=key scope.names [] h
 first
  | (rw [show (forIn scope.names ([]:List (Str × Addr)) _:Sem (List (Str × Addr))) = _ from this]; rfl)
  | (simp only [bind_pure] at *; exact this)
  | exact this
theorem closOf_lookup {cells:List (Str × Addr)} {x:Str} {a:Addr}:∀ {names:List (Str × NameKind)} {acc:List (Str × Addr)},(closOf names cells acc).lookup x = some a→acc.lookup x = some a ∨ (cells.lookup x = some a∧(x,NameKind.free) ∈ names)
 | [],acc,e => .inl e
 | (n,k) :: r,acc,e => by
  unfold closOf at e
  by_cases hk:(k == NameKind.free) = true
  ·have hk':k = .free:=by simpa using hk
   subst hk'
   simp only [beq_self_eq_true,if_true] at e
   cases hc:cells.lookup n with
   | none =>
    rw [hc] at e
    rcases closOf_lookup e with q | ⟨q,q'⟩
    ·exact .inl q
    ·exact .inr ⟨q,.tail _ q'⟩
   | some b =>
    rw [hc] at e
    rcases closOf_lookup e with q | ⟨q,q'⟩
    ·rw [List.lookup_cons] at q
     by_cases z:(x == n) = true
     ·rw [z] at q; cases q
      have:x = n:=by simpa using z
      subst this
      exact .inr ⟨hc,.head _⟩
     ·have z':(x == n) = false:=by simpa using z
      rw [z'] at q; exact .inl q
    ·exact .inr ⟨q,.tail _ q'⟩
  ·have hk':(k == NameKind.free) = false:=by simpa using hk
   simp only [hk',Bool.false_eq_true,if_false] at e
   rcases closOf_lookup e with q | ⟨q,q'⟩
   ·exact .inl q
   ·exact .inr ⟨q,.tail _ q'⟩
set_option tactic.hygienic true in
theorem closOf_acc {cells:List (Str × Addr)} {x:Str} {a:Addr}:∀ {names:List (Str × NameKind)} {acc:List (Str × Addr)},acc.lookup x = some a→(cells.lookup x = some a)→(closOf names cells acc).lookup x = some a
 | [],acc,e,_ => e
 | (n,k) :: r,acc,e,h => by
  unfold closOf
  split
  ·split
   ·rename_i b hb
    refine closOf_acc ?_ h
    rw [List.lookup_cons]
    by_cases z:(x == n) = true
    ·rw [z]
     have:x = n:=by simpa using z
     subst this
     rw [h] at hb; cases hb; rfl
    ·have z':(x == n) = false:=by simpa using z
     rw [z']; exact e
   ·exact closOf_acc e h
  ·exact closOf_acc e h
theorem closOf_has {cells:List (Str × Addr)} {x:Str} {a:Addr} (h:cells.lookup x = some a):∀ {names:List (Str × NameKind)} {acc:List (Str × Addr)},names.lookup x = some .free→(closOf names cells acc).lookup x = some a
 | (n,k) :: r,acc,e => by
  rw [List.lookup_cons] at e
  unfold closOf
  by_cases z:(x == n) = true
  ·rw [z] at e; cases e
   have:x = n:=by simpa using z
   subst this
   simp only [beq_self_eq_true,if_true,h]
   exact closOf_acc (by rw [List.lookup_cons]; simp) h
  ·have z':(x == n) = false:=by simpa using z
   rw [z'] at e
   split
   ·split
    ·exact closOf_has h e
    ·exact closOf_has h e
   ·exact closOf_has h e
section
variable {M:Model} {A:Around} {E:Value→Shared→Prop} {s:Shared} {env:Env}
noncomputable def compCells (scope:Scope) (C:Addr) (env:Env):List (Str × Addr):=cellsFrom (C + 1) scope.names (closOf scope.names env.cells [])
noncomputable abbrev cenvOf (scope:Scope) (C:Addr) (env:Env):Env:=compEnvC scope (compCells scope C env) C env
theorem newEnv_comp {scope:Scope} {Q:Env→Shared→Prop} (h:Q { scope:=scope,locals:=s.heap.objs.size,globals:=env.globals,cells:=compCells scope s.heap.objs.size env,qual:=env.qual,func:=none,code:=env.code,frame:=env.frame,builtins:=env.builtins }
   {s with heap:=pushCells (s.heap.push { cls:=.type "dict",data:=.dict #[] }) scope.names }) :
  wpAny M A (newFunctionEnv scope env.globals (closOf scope.names env.cells []) [] env.qual none .none (some env)) Q E s:=by
 simp only [newFunctionEnv,Option.isSome_some,if_true]
 refine wpAny_bind (wpAny_alloc ?_)
 refine wpAny_bind (wpAny_layCells _ (fun name kind cells => by cases hkc:kind == NameKind.cell <;> simp [hkc]) _ _ _ _ ?_)
 rw [show ({ s with heap:=s.heap.push { cls:=.type "dict",data:=.dict #[] } }:Shared).heap.objs.size = s.heap.objs.size + 1 from Heap.size_push ..]
 exact wpAny_bind (wpAny_pure (wpAny_pure h))
end
section
variable {prog:Program} {w:World} {A:Around} {R:Result→Shared→Prop} {s:Shared}
theorem codeAny_compLoop_any {elt target iter:PySem.Expr} {ifs:List PySem.Expr} {scope:Scope} {pos:Pos} {it acc:Value} {env:Env} (I:Nat→Shared→Prop)
  (turn:∀ n s,I n s→wpAny (model prog w) A (pyNext it) (fun r s₁ => match r with
   | none => R (.ok .next) s₁
   | some v => wpAny (model prog w) A (letOwnedTupleGo target it v) (fun _ s₁' => wpAny (model prog w) A (PySem.assign target env v) (fun _ s₂ =>
     wpAny (model prog w) A (forIn ifs true fun c r => if r = true then do let ok ← isTrue c env (eval c env); pure (ForInStep.yield ok) else pure (ForInStep.yield r)) (fun ok s₃ =>
      if ok = true then wpAny (model prog w) A (eval elt env) (fun x s₄ =>
       wpAny (model prog w) A (call (.builtin "list.append") [acc,x]) (fun _ s₅ => ∃ m,m < n∧I m s₅) (notedBy (model prog w) A env fun e s' => R (.error e) s') s₄) (notedBy (model prog w) A env fun e s' => R (.error e) s') s₃
      else ∃ m,m < n∧I m s₃) (notedBy (model prog w) A env fun e s' => R (.error e) s') s₂) (notedBy (model prog w) A env fun e s' => R (.error e) s') s₁') (notedBy (model prog w) A env fun e s' => R (.error e) s') s₁) (notedBy (model prog w) A env fun e s' => R (.error e) s') s)
  (n:Nat) (h:I n s) :
  codeAny (model prog w) A (.compLoop (.ListComp elt [⟨target,iter,ifs,0⟩] scope pos) 0 it acc env) R s:=by
 refine codeAny_loop rfl I (fun n s hI => ?_) n h
 show wpAny _ A ((compTurn (.ListComp elt [⟨target,iter,ifs,0⟩] scope pos) 0 it acc env).onRaise (fun x => do noteFrame x env; theTreesLotGoes x)) _ _ s
 refine wpAny_noted ?_
 rw [compTurn_list]
 refine wpAny_bind (wpAny_standAt (wpAny_bind (wpAny_mono (turn n s hI) (fun r s₁ h₁ => ?_) fun _ _ h' => h')))
 cases r with
 | none => exact wpAny_pure h₁
 | some v =>
  refine wpAny_bind (wpAny_mono h₁ (fun _ s₁' h₁' => ?_) fun _ _ h' => h')
  refine wpAny_bind (wpAny_mono h₁' (fun _ s₂ h₂ => wpAny_bind (wpAny_mono h₂ (fun ok s₃ h₃ => ?_) fun _ _ h' => h')) fun _ _ h' => h')
  cases ok with
  | false => exact wpAny_pure ⟨rfl,h₃⟩
  | true =>
   exact wpAny_bind (wpAny_bind (wpAny_mono h₃ (fun x s₄ h₄ => wpAny_bind (wpAny_mono h₄ (fun _ s₅ h₅ => wpAny_pure (wpAny_pure ⟨rfl,h₅⟩)) fun _ _ h' => h')) fun _ _ h' => h'))
end
section
variable {c:Cx} {n:Nat} {A:Around} {env:Env} {b:Shared} {co own:List Addr} {ad:Str→List Addr} {lo lo':List (Str × D)} {ow ow':List (Str × OwnD)} {ex:List (Str × Value)} {s s':Shared} {o:Out} {tg:PySem.Expr}
theorem Sto.touch (S:Sto c n A env b co own ad lo ow ex s) {q:Addr} (hq:q ∈ own) (hL:q ≠ env.locals) (hcell:∀ o,s.heap.get? q = some o→∀ v,o.data ≠ .cell v) (hbn:b.heap.get? q = none) (hqa:∀ y w,ow.lookup y = some w→q ∉ ad y)
  {h':Heap} {tk:Nat} (htk:s.toks ≤ tk) (sb:Heap.SameBut q s.heap h') {oq:Obj} (hoq:h'.get? q = some oq) (hof:∀ vs,oq.data ≠ .fields vs) (hot:¬ (oq.cls = .type "tuple"∧∃ vs n,oq.data = .seq vs n)) :
  Sto c n A env b co own ad lo ow ex { s with heap:=h',toks:=tk }:=by
 have kp:=keep_of hq sb
 have nc:∀ a v,s.heap.IsCell a v→a ≠ q:=fun a v hc z => by
  subst z
  left;rcases hc with ⟨o,e1,e2⟩;right
  exact hcell o e1 v e2
 have nm:∀ y u,NameIs env s.heap y u→NameIs env h' y u:=fun y u e => by
  rcases e with ⟨e1,m',e2,e3⟩ | ⟨e1,q',e2,e3⟩
  ·exact .inl ⟨e1,m',e2.sameBut sb (Ne.symm hL),e3⟩
  ·exact .inr ⟨e1,q',e2,e3.sameBut sb (nc _ _ e3)⟩
 exact {
  sit:=⟨S.sit.ek,⟨S.sit.ao.handled,S.sit.ao.depth,S.sit.ao.units,let ⟨o,p,r⟩:=S.sit.ao.frames; ⟨o,p,funFrames_but sb hoq hof r⟩⟩,fun a o e => (sb.2 a (fun z => by subst z; rw [S.sit.base _ hq] at e; cases e)).trans (S.sit.ext a o e),fun a ha => by
    by_cases z:a = q
    ·subst z; exact ⟨oq,hoq,hot⟩
    ·left;rcases S.sit.ok a ha with ⟨o,ho,hc⟩;right
     exact ⟨o,(sb.2 a z).trans ho,hc⟩,S.sit.base,Nat.le_trans S.sit.tok htk,fun y d e => by
    left;rcases S.sit.names y d e with ⟨v,e1,r⟩;right
    exact ⟨v,nm y v e1,r.keep S.sit.ok kp⟩⟩
  coIn:=S.coIn
  new:=S.new
  keep:=Keeps.step S.keep fun a o e => (sb.2 a (fun z => by subst z; rw [hbn] at e; cases e)).trans ((Keeps.ext S.keep) a o e)
  loc:=⟨let ⟨m,hm⟩:=S.loc.1; ⟨m,hm.sameBut sb (Ne.symm hL)⟩,S.loc.2⟩
  cell:=fun y a ke e e' => by
   left;rcases S.cell y a ke e e' with ⟨⟨v,hv⟩,r⟩;right
   exact ⟨⟨v,hv.sameBut sb (nc _ _ hv)⟩,r⟩
  cells:=S.cells
  exact:=fun y v e => nm y v (S.exact y v e)
  owns:=fun y v e => by
   left;rcases S.owns y v e with ⟨a',n2,o2,l2⟩;right
   exact ⟨a',nm _ _ n2,o2.keep S.sit.ok kp (fun p hp o ho => (sb.2 p (fun z => by subst z; exact hqa y v e hp)).trans ho),l2⟩
  apart:=S.apart }
end
end
section
noncomputable def CT (c:Cx) (n:Nat) (env:Env) (lo:List (Str × D)) (ifs:List PySem.Expr) (elt:PySem.Expr) (r:Option D):Prop:=match ifs with
 | [] => ∃ f,r = some f∧EV c n env lo elt f
 | [t] => ∃ b,TV c n env lo t b∧(b = true→∃ f,r = some f∧EV c n env lo elt f)∧(b = false→r = none)
 | _ => False
noncomputable def compChk (env:Env) (scope:Scope) (cap:List (Str × D)) (cy:Option Str):Bool:=
 scope.kind == .function && scope.names.all (fun p => scope.names.lookup p.1 == some p.2) && closAll scope.names env.cells &&
 cap.all (fun p => scope.names.lookup p.1 == some .free && env.kindOf p.1 != some .local) && scope.names.all (fun p => p.2 != .free || (cap.lookup p.1).isSome) &&
 ((scope.names.filter (fun p => p.2 == .cell)).map (·.1) == cy.toList)
noncomputable def CTurn (c:Cx) (n:Nat) (env:Env) (scope:Scope) (cap:List (Str × D)) (tg:PySem.Expr) (ifs:List PySem.Expr) (elt:PySem.Expr) (d:D) (r:Option D):Prop:=
 ∀ (C:Addr) (ex:List (Str × Value)),(∀ x,cap.lookup x = none→ex.lookup x = none)→∃ lo',Sub cap lo'∧Tg c n (cenvOf scope C env) ex tg d cap [] lo'∧CT c n (cenvOf scope C env) lo' ifs elt r
theorem CB.one {c:Cx} {n:Nat} {env:Env} {ex:List (Str × Value)} {cap lo':List (Str × D)} {tg elt:PySem.Expr} {d f:D} {r:Option D} (h1:Sub cap lo') (h2:Tg c n env ex tg d cap [] lo') (e:r = some f) (x:EV c n env lo' elt f) :
  ∃ lo',Sub cap lo'∧Tg c n env ex tg d cap [] lo'∧CT c n env lo' [] elt r:=⟨lo',h1,h2,f,e,x⟩
theorem CB.two {c:Cx} {n:Nat} {env:Env} {ex:List (Str × Value)} {cap lo':List (Str × D)} {tg t elt:PySem.Expr} {d:D} {b:Bool} {r:Option D} (h1:Sub cap lo') (h2:Tg c n env ex tg d cap [] lo') (x:TV c n env lo' t b) (y:b = true→∃ f,r = some f∧EV c n env lo' elt f) (z:b = false→r = none) :
  ∃ lo',Sub cap lo'∧Tg c n env ex tg d cap [] lo'∧CT c n env lo' [t] elt r:=⟨lo',h1,h2,b,x,y,z⟩
theorem lookup_mapKey {α β:Type} {g:Str→β} {x:Str}:∀ l:List (Str × α),(l.map fun p => (p.1,g p.1)).lookup x = (l.lookup x).map fun _ => g x
 | [] => rfl
 | (y,a) :: r => by
  simp only [List.map_cons,List.lookup_cons]
  by_cases z:(x == y) = true
  ·rw [z]
   have:x = y:=by simpa using z
   subst this; rfl
  ·have z':(x == y) = false:=by simpa using z
   rw [z']; exact lookup_mapKey r
theorem lookup_relabel {env:Env} {x:Str} {names:List (Str × NameKind)}:(names.map fun (n,k) => if (k == NameKind.free && env.scope.kind == .function && env.kindOf n == some .cell) then (n,NameKind.cell) else (n,k)).lookup x =
  (names.lookup x).map fun k => if (k == NameKind.free && env.scope.kind == .function && env.kindOf x == some .cell) then NameKind.cell else k:=by
 induction names with
 | nil => rfl
 | cons p r ih =>
  obtain ⟨y,k⟩:=p
  simp only [List.map_cons,List.lookup_cons]
  have e:(if (k == NameKind.free && env.scope.kind == .function && env.kindOf y == some .cell) = true then (y,NameKind.cell) else (y,k)) = (y,if (k == NameKind.free && env.scope.kind == .function && env.kindOf y == some .cell) = true then NameKind.cell else k):=by split <;> rfl
  rw [e]
  simp only [List.lookup_cons]
  by_cases z:(x == y) = true
  ·rw [z]
   have:x = y:=by simpa using z
   subst this; rfl
  ·have z':(x == y) = false:=by simpa using z
   rw [z']; exact ih
theorem cells_none:∀ {names:List (Str × NameKind)} (m:Nat) (acc:List (Str × Addr)) (h:Heap),names.filter (fun p => p.2 == .cell) = []→cellsFrom m names acc = acc∧pushCells h names = h
 | [],m,acc,h,_ => ⟨rfl,rfl⟩
 | (x,k) :: r,m,acc,h,e => by
  unfold cellsFrom pushCells
  by_cases hk:(k == NameKind.cell) = true
  ·simp [hk] at e
  ·have hk':(k == NameKind.cell) = false:=by simpa using hk
   simp only [hk',Bool.false_eq_true,if_false]
   exact cells_none m acc h (by simpa [hk'] using e)
theorem cells_one {y:Str} {q:NameKind}:∀ {names:List (Str × NameKind)} (m:Nat) (acc:List (Str × Addr)) (h:Heap),names.filter (fun p => p.2 == .cell) = [(y,q)]→cellsFrom m names acc = (y,m) :: acc∧pushCells h names = h.push { cls:=.type "cell",data:=.cell none }
 | [],m,acc,h,e => by simp at e
 | (x,k) :: r,m,acc,h,e => by
  unfold cellsFrom pushCells
  by_cases hk:(k == NameKind.cell) = true
  ·simp only [List.filter_cons,hk,if_true,List.cons.injEq,Prod.mk.injEq] at e ⊢
   left;rcases e with ⟨⟨z0_,z1_⟩,e⟩;right;subst z0_;subst z1_
   have:=cells_none (m + 1) ((x,m) :: acc) (h.push { cls:=.type "cell",data:=.cell none }) e
   exact this
  ·have hk':(k == NameKind.cell) = false:=by simpa using hk
   simp only [hk',Bool.false_eq_true,if_false]
   exact cells_one m acc h (by simpa [hk'] using e)
section
variable {c:Cx} {n:Nat} {A:Around} {env:Env} {lo:List (Str × D)} {tg:PySem.Expr}
set_option tactic.hygienic true in
theorem comp_start {scope:Scope} {cap:List (Str × D)} {cy:Option Str} {own:List Addr} {s s₂:Shared} (chk:compChk env scope cap cy = true) (hcap:Sub cap lo) (S:Sit c n A env own lo s) (k:K2 s s₂) :
  ∃ own₁ ex,(∀ x,cap.lookup x = none→ex.lookup x = none)∧(∀ a ∈ own₁,a ∈ own ∨ s₂.heap.get? a = none) ∧
   Sto c n A (cenvOf scope (s₂.heap.objs.size + 1) env) s (s₂.heap.objs.size :: own) own₁ (fun _ => []) cap [] ex
    {s₂ with heap:=pushCells ((s₂.heap.push { cls:=.type "list",data:=.seq ([]:List Value).toArray }).push { cls:=.type "dict",data:=.dict #[] }) scope.names }:=by
 have c6:=Bool.and_eq_true_iff.mp chk
 have c5:=Bool.and_eq_true_iff.mp c6.1
 have c4:=Bool.and_eq_true_iff.mp c5.1
 have c3:=Bool.and_eq_true_iff.mp c4.1
 have c2:=Bool.and_eq_true_iff.mp c3.1
 have hkind:scope.kind = .function:=by simpa using c2.1
 have hclos:=c3.2
 have hcapF:∀ x d,cap.lookup x = some d→scope.names.lookup x = some .free∧env.kindOf x ≠ some .local:=fun x d e => by
  have:=List.all_eq_true.mp c4.2 _ (mem_of_lookup' e)
  simpa using this
 have hfree:∀ x,(x,NameKind.free) ∈ scope.names→(cap.lookup x).isSome = true:=fun x hx => by
  have:=List.all_eq_true.mp c5.2 _ hx
  simpa using this
 have hcy:(scope.names.filter (fun p => p.2 == .cell)).map (·.1) = cy.toList:=by simpa using c6.2
 -- the captured names
 have capN:∀ x d,cap.lookup x = some d→∃ v a,env.cells.lookup x = some a∧s.heap.IsCell a (some v)∧Rd c.w.params own s.heap v d∧NameIs env s.heap x v:=fun x d e => by
  left;rcases S.names x d (hcap.at x d e) with ⟨v,n1,r⟩;right
  have n1':=n1
  rcases n1 with ⟨q,_⟩ | ⟨_,a,q1,q2⟩
  ·exact absurd q (hcapF x d e).2
  ·exact ⟨v,a,q1,q2,r,n1'⟩
 let C:=s₂.heap.objs.size + 1
 let h₁:=s₂.heap.push { cls:=.type "list",data:=.seq ([]:List Value).toArray }
 have hC:h₁.objs.size = C:=Heap.size_push ..
 let h₂:=h₁.push { cls:=.type "dict",data:=.dict #[] }
 have e02:Ext s.heap s₂.heap:=k.ext
 have e12:Ext s₂.heap h₂:=Ext.trans (ext_push _ _) (ext_push _ _)
 have eC:h₂.get? C = some { cls:=.type "dict",data:=.dict #[] }:=by rw [hC.symm]; exact Heap.get?_push_size _ rfl
 have eD:h₂.get? s₂.heap.objs.size = some { cls:=.type "list",data:=.seq ([]:List Value).toArray }:=Heap.get?_push_of_some _ (Heap.get?_push_size _ rfl)
 have none_ge:∀ a,s₂.heap.objs.size ≤ a→s₂.heap.get? a = none:=fun a ha => by
  cases q:s₂.heap.get? a with
  | none => rfl
  | some o => exact absurd (Heap.lt_size q) (Nat.not_lt.mpr ha)
 have nC:=none_ge C (Nat.le_succ _)
 have nC1:=none_ge (C + 1) (Nat.le_succ_of_le (Nat.le_succ _))
 have nD:=none_ge s₂.heap.objs.size (Nat.le_refl _)
 -- cells
 obtain ⟨newA,hcells,hpush⟩:∃ newA:List Addr,(∃ pre:List (Str × Addr),compCells scope C env = pre ++ closOf scope.names env.cells []∧(∀ x,scope.names.lookup x = some .cell→pre.lookup x = some (C + 1))∧(∀ p ∈ pre,p.2 = C + 1∧scope.names.lookup p.1 ≠ some .free∧∀ x,(x,C + 1) ∈ pre→x = p.1)∧(pre ≠ []→C + 1 ∈ newA)) ∧
   (∃ hx,pushCells h₂ scope.names = hx∧Ext h₂ hx∧C ∈ newA∧(∀ a ∈ newA,(a = C ∨ a = C + 1))∧∀ a ∈ newA,a = C + 1→hx.get? a = some { cls:=.type "cell",data:=.cell none }):=by
  cases hl:scope.names.filter (fun p => p.2 == .cell) with
  | nil =>
   have hn:=cells_none (C + 1) (closOf scope.names env.cells []) h₂ hl
   refine ⟨[C],⟨[],by unfold compCells; rw [hn.1]; rfl,fun x e => ?_,(by simp),(by simp)⟩,h₂,hn.2,Ext.refl _,by simp,by simp,by simp⟩
   have:(x,NameKind.cell) ∈ scope.names.filter (fun p => p.2 == .cell):=List.mem_filter.mpr ⟨mem_of_lookup' e,by simp⟩
   rw [hl] at this; cases this
  | cons p r =>
   obtain ⟨y,q⟩:=p
   have hr:r = []:=by
    rw [hl] at hcy
    cases cy with
    | none => simp at hcy
    | some z => simp at hcy; exact hcy.2
   subst hr
   have hn:=cells_one (C + 1) (closOf scope.names env.cells []) h₂ hl
   have hy:(y,q) ∈ scope.names∧q = .cell:=by
    have:(y,q) ∈ scope.names.filter (fun p => p.2 == .cell):=by rw [hl]; simp
    obtain ⟨h1,h2⟩:=List.mem_filter.mp this
    exact ⟨h1,by simpa using h2⟩
   have only:∀ x,scope.names.lookup x = some .cell→x = y:=fun x e => by
    have:(x,NameKind.cell) ∈ scope.names.filter (fun p => p.2 == .cell):=List.mem_filter.mpr ⟨mem_of_lookup' e,by simp⟩
    rw [hl] at this; simp at this; exact this.1
   have hsz:h₂.objs.size = C + 1:=by show (h₁.push _).objs.size = _; rw [Heap.size_push,hC]
   refine ⟨[C + 1,C],⟨[(y,C + 1)],by unfold compCells; rw [hn.1]; rfl,fun x e => ?_,fun p hp => ?_,(by simp)⟩,_,hn.2,ext_push _ _,by simp,by simp [or_comm],fun a _ e => ?_⟩
   ·rw [only x e]; simp
   ·simp at hp; subst hp
    refine ⟨rfl,fun e => ?_,fun x hx => by simpa using hx⟩
    have:=List.all_eq_true.mp c2.2 _ hy.1
    rw [hy.2] at this
    have this:scope.names.lookup y = some .cell:=by simpa using this
    rw [this] at e; cases e
   ·subst e; rw [hsz.symm]; exact Heap.get?_push_size _ rfl
 left;rcases hcells with ⟨pre,hc1,hc2,hc3,hc4⟩;right
 left;rcases hpush with ⟨hx,hp1,hp2,hCn,hAn,hAc⟩;right
 have eAll:Ext s₂.heap hx:=Ext.trans e12 hp2
 have e0:Ext s.heap hx:=Ext.trans e02 eAll
 have fr:∀ a ∈ newA ++ [s₂.heap.objs.size],s₂.heap.get? a = none:=fun a ha => by
  rcases List.mem_append.mp ha with h | h
  ·rcases hAn a h with rfl | rfl
   ·exact nC
   ·exact nC1
  ·simp at h; subst h; exact nD
 have fr0:∀ a ∈ newA ++ [s₂.heap.objs.size],s.heap.get? a = none:=fun a ha => none_of_ext e02 (fr a ha)
 have capEx:∀ x,∃ v,∀ d,cap.lookup x = some d→NameIs env s.heap x v:=fun x => by
  cases q:cap.lookup x with
  | none => exact ⟨.none,fun d e => by cases e⟩
  | some d =>
   left;rcases capN x d q with ⟨v,_,_,_,_,n1⟩;right
   exact ⟨v,fun _ _ => n1⟩
 let g:Str→Value:=fun x => (capEx x).choose
 let ex:List (Str × Value):=cap.map fun p => (p.1,g p.1)
 have exl:∀ x,ex.lookup x = (cap.lookup x).map fun _ => g x:=fun x => lookup_mapKey cap
 -- a captured name within
 have kind:∀ x,scope.names.lookup x = some .free→(cenvOf scope C env).kindOf x = some .cell ∨ (cenvOf scope C env).kindOf x = some .free:=fun x e => by
  show (relabel scope env).names.lookup x = _ ∨ (relabel scope env).names.lookup x = _
  unfold relabel
  rw [lookup_relabel,e]
  simp only [Option.map_some]
  split
  ·exact .inl rfl
  ·exact .inr rfl
 have preFree:∀ x,scope.names.lookup x = some .free→pre.lookup x = none:=fun x e => by
  cases q:pre.lookup x with
  | none => rfl
  | some a => exact absurd e (hc3 _ (mem_of_lookup' q)).2.1
 have app_lookup:∀ (l r:List (Str × Addr)) (x:Str),l.lookup x = none→(l ++ r).lookup x = r.lookup x:=by
  intro l r x
  induction l with
  | nil => intro _; rfl
  | cons p l ih =>
   intro e
   rw [List.cons_append]
   rw [List.lookup_cons] at e ⊢
   by_cases z:(x == p.1) = true
   ·rw [z] at e; cases e
   ·have z':(x == p.1) = false:=by simpa using z
    rw [z'] at e ⊢; exact ih e
 have inN:∀ x v,(cap.lookup x).isSome = true→NameIs env s.heap x v→NameIs (cenvOf scope C env) hx x v:=fun x v hs n1 => by
  obtain ⟨d,hd⟩:=Option.isSome_iff_exists.mp hs
  obtain ⟨f1,f2⟩:=hcapF x d hd
  rcases n1 with ⟨q,_⟩ | ⟨_,a,q1,q2⟩
  ·exact absurd q f2
  ·refine .inr ⟨kind x f1,a,?_,q2.keeps e0⟩
   show (compCells scope C env).lookup x = _
   rw [hc1,app_lookup _ _ _ (preFree x f1)]
   exact closOf_has q1 f1
 have hns:h₂.Ns C (fun _ => none):=by
  have:=Heap.Ns.new h₁ (.type "dict")
  rw [hC] at this
  exact this
 have own_cell:∀ x a,ex.lookup x = none→(cenvOf scope C env).kindOf x = some .cell→(cenvOf scope C env).cells.lookup x = some a→a = C + 1∧scope.names.lookup x = some .cell∧C + 1 ∈ newA:=fun x a h1 h2 h3 => by
  have h2':(relabel scope env).names.lookup x = some .cell:=h2
  unfold relabel at h2'
  rw [lookup_relabel] at h2'
  left;rcases Option.map_eq_some_iff.mp h2' with ⟨kk,k1,k2⟩;right
  have kc:kk = .cell:=by
   split at k2
   ·rename_i q
    have q1:kk = .free:=by
     have:=(Bool.and_eq_true_iff.mp (Bool.and_eq_true_iff.mp q).1).1
     simpa using this
    subst q1
    obtain ⟨d,hd⟩:=Option.isSome_iff_exists.mp (hfree x (mem_of_lookup' k1))
    rw [exl,hd] at h1; cases h1
   ·exact k2
  subst kc
  have hpl:=hc2 x k1
  have h3':(compCells scope C env).lookup x = some a:=h3
  rw [hc1] at h3'
  have:(pre ++ closOf scope.names env.cells []).lookup x = some (C + 1):=by
   have al:∀ (l r:List (Str × Addr)) (a:Addr),l.lookup x = some a→(l ++ r).lookup x = some a:=by
    intro l r a
    induction l with
    | nil => intro e; simp at e
    | cons p l ih =>
     intro e
     rw [List.cons_append]
     rw [List.lookup_cons] at e ⊢
     by_cases z:(x == p.1) = true
     ·rw [z] at e ⊢; exact e
     ·have z':(x == p.1) = false:=by simpa using z
      rw [z'] at e ⊢; exact ih e
   exact al _ _ _ hpl
  rw [this] at h3'; cases h3'
  exact ⟨rfl,k1,hc4 (fun z => by rw [z] at hpl; simp at hpl)⟩
 refine ⟨newA ++ s₂.heap.objs.size :: own,ex,fun x e => by rw [exl,e]; rfl,fun a ha => ?_,?_⟩
 ·rcases List.mem_append.mp ha with h | h
  ·exact .inr (fr a (List.mem_append_left _ h))
  ·rcases List.mem_cons.mp h with rfl | h
   ·exact .inr nD
   ·exact .inl h
 show Sto c n A (cenvOf scope C env) s _ _ _ cap [] ex { s₂ with heap:=pushCells h₂ scope.names }
 rw [hp1]
 have hmem:∀ a,a ∈ newA ++ s₂.heap.objs.size :: own→a ∈ newA ++ [s₂.heap.objs.size] ∨ a ∈ own:=fun a ha => by
  rcases List.mem_append.mp ha with h | h
  ·exact .inl (List.mem_append_left _ h)
  ·rcases List.mem_cons.mp h with rfl | h
   ·exact .inl (by simp)
   ·exact .inr h
 have reow:∀ {v d},Rd c.w.params own s.heap v d→Rd c.w.params (newA ++ s₂.heap.objs.size :: own) hx v d:=fun r => by
  have:=(Rd.fresh (more:=newA ++ [s₂.heap.objs.size]) fr0 r).ext e0
  simpa using this
 exact {
  sit:=⟨⟨hkind,S.ek.gl,S.ek.bl⟩,S.ao.ext e0,Ext.trans S.ext e0,fun a ha => by
    rcases List.mem_append.mp ha with h | h
    ·by_cases z:a = C + 1
     ·exact ⟨_,hAc a h z,fun q => by left;rcases q with ⟨_,vs,m,q⟩;right; cases q⟩
     ·rcases hAn a h with rfl | rfl
      ·exact ⟨_,hp2 _ _ eC,fun q => by left;rcases q with ⟨_,vs,m,q⟩;right; cases q⟩
      ·exact absurd rfl z
    ·rcases List.mem_cons.mp h with rfl | h
     ·exact ⟨_,hp2 _ _ eD,fun q => not_tuple q.1⟩
     ·exact S.ok.ext e0 a h,fun a ha => by
   rcases hmem a ha with h | h
   ·exact none_of_ext S.ext (fr0 a h)
   ·exact S.base a h,Nat.le_trans S.tok k.2,fun x d e => by
    left;rcases capN x d e with ⟨v,a,q1,q2,r,n1⟩;right
    exact ⟨v,inN x v (by rw [e]; rfl) n1,reow r⟩⟩
  coIn:=fun a ha => List.mem_append_right _ ha
  new:=fun a ha => by
   rcases List.mem_append.mp ha with h | h
   ·exact .inr (fr0 a (List.mem_append_left _ h))
   ·exact .inl h
  keep:=by
   left;rcases k.1 with ⟨h',t,z0_,q⟩;right;subst z0_
   exact ⟨_,_,rfl,e0⟩
  loc:=⟨⟨_,hns.keeps hp2⟩,List.mem_append_left _ hCn,fun q => by
   rcases List.mem_cons.mp q with q | q
   ·exact absurd q (Nat.succ_ne_self _)
   ·left;rcases S.ok _ q with ⟨o,ho,_⟩;right
    have ho:s.heap.get? C = some o:=ho
    rw [none_of_ext e02 nC] at ho; cases ho⟩
  cell:=fun x a h1 h2 h3 => by
   left;rcases own_cell x a h1 h2 h3 with ⟨z0_,h4,h5⟩;right;subst z0_
   refine ⟨⟨_,_,hAc _ h5 rfl,rfl⟩,List.mem_append_left _ h5,fun q => ?_⟩
   rcases List.mem_cons.mp q with q | q
   ·exact absurd q (Nat.ne_of_gt (Nat.lt_succ_of_lt (Nat.lt_succ_self _)))
   ·left;rcases S.ok _ q with ⟨o,ho,_⟩;right
    rw [none_of_ext e02 nC1] at ho; cases ho
  cells:=fun x y a h1 h2 h3 h4 => by
   left;rcases own_cell x a h1 h2 h3 with ⟨z0_,h5,h6⟩;right;subst z0_
   have h4':(compCells scope C env).lookup y = some (C + 1):=h4
   rw [hc1] at h4'
   rcases lookup_append h4' with q | q
   ·exact (hc3 _ (mem_of_lookup' q)).2.2 x (mem_of_lookup' (hc2 x h5))
   ·rcases closOf_lookup q with q | ⟨q,q'⟩
    ·simp at q
    ·obtain ⟨d,hd⟩:=Option.isSome_iff_exists.mp (hfree y q')
     left;rcases capN y d hd with ⟨v,a,q1,q2,_⟩;right
     rw [q] at q1; cases q1
     left;rcases q2 with ⟨o,ho,_⟩;right
     rw [none_of_ext e02 nC1] at ho; cases ho
  exact:=fun x v e => by
   rw [exl] at e
   left;rcases Option.map_eq_some_iff.mp e with ⟨d,hd,z0_⟩;right;subst z0_
   exact inN x _ (by rw [hd]; rfl) ((capEx x).choose_spec d hd)
  owns:=fun x w e => by simp at e
  apart:=fun x y w w' q e => by simp at e }
end
end
section
theorem filterMap_take_succ {α β:Type} (f:α→Option β) (l:List α) (i:Nat) (d:α) (h:l[i]? = some d):(l.take (i + 1)).filterMap f = (l.take i).filterMap f ++ (f d).toList:=by
 rw [List.take_add_one,h,List.filterMap_append]
 cases q:f d <;> simp [q]
section
variable {c:Cx} {n:Nat} {A:Around} {env:Env} {lo:List (Str × D)} {tg:PySem.Expr}
theorem Iter.step {I:Addr} {wr fp:List Addr} {es:List D} {vals:List Value} {ds:List D} {St:Nat→Heap→Prop} (X:Iter c A tg I wr fp es vals ds St) {Q:Option Value→Shared→Prop} {R':Value→Shared→Prop} {E E':Value→Shared→Prop} {i:Nat} {s:Shared} {own:List Addr}
  (hQ:∀ v s₁,wpAny (model c.prog c.w) A (letOwnedTupleGo tg (.ref I) v) (fun _ s₂ => R' v s₂) E s₁→Q (some v) s₁) (hi:i < ds.length) (st:St i s.heap) (hh:Held own s.heap) (r:RdAll c.w.params own s.heap vals es)
  (h:∀ v h' tk,s.toks ≤ tk→St (i + 1) h'→Keep wr s.heap h'→(∀ d,ds[i]? = some d→Rd c.w.params own h' v d)→R' v { s with heap:=h',toks:=tk }):wpAny (model c.prog c.w) A (pyNext (.ref I)) Q E' s:=
 wpAny_mono (X.next i s E E' own R' hi st hh r h) (fun rr s₁ h1 => by left;rcases h1 with ⟨v,z0_,hv⟩;right;subst z0_; exact hQ v s₁ hv) fun _ _ z => z
noncomputable abbrev CInv (c:Cx) (n:Nat) (A:Around) (cenv:Env) (b:Shared) (Dd:Addr) (own:List Addr) (cap:List (Str × D)) (ex:List (Str × Value)) (St:Nat→Heap→Prop) (fp:List Addr) (vals:List Value) (es ds:List D) (fs:D→Option D) (m:Nat) (s':Shared):Prop:=
 ∃ i own₁ ad₁ vs k,i ≤ ds.length∧m = ds.length - i∧Sto c n A cenv b (Dd :: own) own₁ ad₁ cap [] ex s'∧St i s'.heap∧(∀ a ∈ fp,a ∉ own₁)∧RdAll c.w.params own₁ s'.heap vals es ∧
  s'.heap.get? Dd = some (listOf (List.toArray vs) k)∧RdAll c.w.params own₁ s'.heap vs ((ds.take i).filterMap fs)
theorem comp_core {iter elt:PySem.Expr} {ifs:List PySem.Expr} {scope:Scope} {pos:Pos} {cap:List (Str × D)} {cy:Option Str} {ds:List D} {fs:D→Option D} (chk:compChk env scope cap cy = true) (hcap:Sub cap lo) (it:IT c n env lo true tg iter ds)
  (turn:∀ (i:Nat) d,ds[i]? = some d→CTurn c n env scope cap tg ifs elt d (fs d)) (hlim:ds.length ≤ lim) {E:Value→Shared→Prop} {s:Shared} {own:List Addr} {R:Value→Addr→Result→Shared→Prop} (S:Sit c n A env own lo s)
  (h:∀ C Dd vs k s',K2 s s'→s.heap.get? C = none→s.heap.get? Dd = none→C ≠ Dd→(∃ m,s'.heap.Ns C m)→s'.heap.get? Dd = some (listOf (List.toArray vs) k)→RdAll c.w.params (C :: Dd :: own) s'.heap vs (ds.filterMap fs)→OwnOk (C :: Dd :: own) s'.heap→R (.ref Dd) C (.ok .next) s') :
  wpAny (model c.prog c.w) A (eval iter env) (fun x s₁ => wpAny (model c.prog c.w) A (pyIter x) (fun it s₂ => wpAny (model c.prog c.w) A (newList []) (fun acc s₃ =>
   wpAny (model c.prog c.w) A (newFunctionEnv scope env.globals (closOf scope.names env.cells []) [] env.qual none .none (some env)) (fun cenv s₄ =>
    codeAny (model c.prog c.w) A (.compStart (.ListComp elt [⟨tg,iter,ifs,0⟩] scope pos) 0 it acc { cenv with scope:=relabel scope env }) (R acc cenv.locals) s₄) E s₃) E s₂) E s₁) E s:=by
 refine it A E s own _ S fun I wr fp es vals St s₂ k X self st hwn hfo r => ?_
 left;rcases comp_start chk hcap S k with ⟨own₁,ex,hex,hown,S₄⟩;right
 refine wpAny_newObj_type (newEnv_comp ?_)
 have hsz:(s₂.heap.push { cls:=.type "list",data:=.seq ([]:List Value).toArray }).objs.size = s₂.heap.objs.size + 1:=Heap.size_push ..
 show codeAny _ _ (.compStart _ 0 _ _ { scope:=relabel scope env,locals:=(s₂.heap.push { cls:=.type "list",data:=.seq ([]:List Value).toArray }).objs.size,globals:=env.globals,cells:=compCells scope (s₂.heap.push { cls:=.type "list",data:=.seq ([]:List Value).toArray }).objs.size env,qual:=env.qual,func:=none,code:=env.code,frame:=env.frame,builtins:=env.builtins }) (R (.ref s₂.heap.objs.size) (s₂.heap.push { cls:=.type "list",data:=.seq ([]:List Value).toArray }).objs.size) _
 rw [hsz]
 generalize hs4:({ s₂ with heap:=pushCells ((s₂.heap.push { cls:=.type "list",data:=.seq ([]:List Value).toArray }).push { cls:=.type "dict",data:=.dict #[] }) scope.names }:Shared) = s₄ at S₄
 have e24:Ext s₂.heap s₄.heap:=by subst hs4; exact Ext.trans (Ext.trans (ext_push _ _) (ext_push _ _)) fun b o e => pushCells_keeps _ _ b o e
 have hD4:s₄.heap.get? s₂.heap.objs.size = some (listOf (List.toArray []) 0):=by
  subst hs4
  exact pushCells_keeps _ _ _ _ (Heap.get?_push_of_some _ (Heap.get?_push_size _ rfl))
 have htk4:s.toks ≤ s₄.toks:=by subst hs4; exact k.2
 show codeAny _ _ (.compStart _ 0 _ _ (cenvOf scope (s₂.heap.objs.size + 1) env)) (R (.ref s₂.heap.objs.size) (s₂.heap.objs.size + 1)) s₄
 have hfo4:∀ a ∈ fp,a ∉ own₁:=fun a ha hm => by
  rcases hown a hm with q | q
  ·exact hfo a ha q
  ·obtain ⟨o,ho⟩:=X.obj _ _ st a ha
   rw [q] at ho; cases ho
 have st4:St 0 s₄.heap:=X.frame _ _ _ st fun b _ o e => e24 _ _ e
 have r4:RdAll c.w.params own₁ s₄.heap vals es:=r.move (S.mono k).ok fun a o na e => ⟨e24 _ _ e,fun hm => by
  rcases hown a hm with q | q
  ·exact na q
  ·rw [q] at e; cases e⟩
 have hDn:s.heap.get? s₂.heap.objs.size = none:=none_of_ext k.ext (none_size _)
 have hCn:s.heap.get? (s₂.heap.objs.size + 1) = none:=none_of_ext k.ext (by
  cases q:s₂.heap.get? (s₂.heap.objs.size + 1) with
  | none => rfl
  | some o => exact absurd (Heap.lt_size q) (Nat.not_lt.mpr (Nat.le_succ _)))
 have hwb:∀ a ∈ wr,c.H.get? a = none∧s.heap.get? a = none:=fun a ha => ⟨none_of_ext S.ext (hwn a ha),hwn a ha⟩
 refine codeAny_with_toks htk4 ?_
 have loop:codeAny (model c.prog c.w) A (.compLoop (.ListComp elt [⟨tg,iter,ifs,0⟩] scope pos) 0 (.ref I) (.ref s₂.heap.objs.size) (cenvOf scope (s₂.heap.objs.size + 1) env)) (fun r s' => s.toks ≤ s'.toks→R (.ref s₂.heap.objs.size) (s₂.heap.objs.size + 1) r s') s₄:=by
  refine codeAny_compLoop_any (CInv c n A (cenvOf scope (s₂.heap.objs.size + 1) env) s s₂.heap.objs.size own cap ex St fp vals es ds fs) (fun m s' hI => ?_) ds.length ⟨0,own₁,_,[],0,Nat.zero_le _,rfl,S₄,st4,hfo4,r4,hD4,.nil⟩
  left;rcases hI with ⟨i,own₁,ad₁,vs,kk,hi,z0_,S',st',hfo',r',hD',rv'⟩;right;subst z0_
  have hw:=X.rec_ i _ st'
  by_cases hlast:i = ds.length
  ·subst hlast
   refine X.done s' _ _ st' fun h' tk htk kp htoks => ?_
   have S2:=S'.wr hw kp (fun a ha => ⟨hfo' a (X.sub a ha),hwb a ha⟩) htk
   have hsub:∀ a ∈ (s₂.heap.objs.size + 1) :: s₂.heap.objs.size :: own,a ∈ own₁:=fun a ha => by
    rcases List.mem_cons.mp ha with rfl | ha
    ·exact S'.loc.2.1
    ·exact S'.coIn a ha
   refine h _ _ vs kk _ ⟨S2.keep,htoks⟩ hCn hDn (Nat.succ_ne_self _) S2.loc.1 ?_ ?_ fun a ha => S2.sit.ok a (hsub a ha)
   ·exact kp _ _ (fun hm => hfo' _ (X.sub _ hm) (S'.coIn _ (.head _))) hD'
   ·rw [List.take_length] at rv'
    exact (rv'.wr hw kp).sub hsub
  ·have hi':i < ds.length:=by omega
   obtain ⟨d,hd⟩:∃ d,ds[i]? = some d:=⟨ds[i],by simp [hi']⟩
   refine X.step (fun v s₁ hh => hh) hi' st' S'.sit.ok.held r' fun v h' tk htk st2 kp hv => ?_
   ·have S2:=S'.wr hw kp (fun a ha => ⟨hfo' a (X.sub a ha),hwb a ha⟩) htk
    have r2:=r'.wr hw kp
    have rv2:=rv'.wr hw kp
    have hD2:h'.get? s₂.heap.objs.size = some (listOf (List.toArray vs) kk):=kp _ _ (fun hm => hfo' _ (X.sub _ hm) (S'.coIn _ (.head _))) hD'
    left;rcases S2.carry with ⟨b₁,S₁,k1,k2⟩;right
    left;rcases turn i d hd (s₂.heap.objs.size + 1) ex hex with ⟨lo',hsub,htg,hct⟩;right
    refine htg A _ b₁ _ own₁ ad₁ _ v _ S₁ (hv d hd) fun s3 own3 ad3 S3 => ?_
    left;rcases k1 S3 with ⟨S3',mv,cm⟩;right
    have st3:St (i + 1) s3.heap:=X.frame _ _ _ st2 fun q hq o e => (mv q o (hfo' q hq) e).1
    have f3:∀ a ∈ fp,a ∉ own3:=fun q hq => by
     obtain ⟨o,e⟩:=X.obj _ _ st2 q hq
     exact (mv q o (hfo' q hq) e).2
    have r3:=r2.move S2.sit.ok mv
    have rv3:=rv2.move S2.sit.ok mv
    have hD3:=cm _ _ (.head _) hD2
    have hlen:vs.length ≤ ds.length:=by
     have h1:=rv'.length
     have h2:=List.length_filterMap_le fs (ds.take i)
     have h3:=List.length_take_le i ds
     have h4:(List.take i ds).length ≤ ds.length:=by simp [List.length_take]; omega
     omega
    -- the append
    have app:∀ s4,K2 s3 s4→∀ u f,fs d = some f→Rd c.w.params own3 s4.heap u f→∀ E',wpAny (model c.prog c.w) A (call (.builtin "list.append") [.ref s₂.heap.objs.size,u]) (fun _ s₅ => ∃ m,m < ds.length - i∧CInv c n A (cenvOf scope (s₂.heap.objs.size + 1) env) s s₂.heap.objs.size own cap ex St fp vals es ds fs m s₅) E' s4:=fun s4 k4 u f hf ru E' => by
     have S4:=S3'.mono k4
     have hD4:=k4.ext _ _ hD3
     have hDo:s₂.heap.objs.size ∈ own3:=S4.coIn _ (.head _)
     refine append_at hD4 (fun h5 sb ho => ?_) (by have:=lim_line; simp; omega)
     have S5:=(S4.touch hDo (fun z => by
      have:s₂.heap.objs.size = s₂.heap.objs.size + 1:=z
      omega) (fun o ho v z => by rw [hD4] at ho; cases ho; cases z) hDn (fun y w e => by simp at e) (Nat.le_refl _) sb ho (fun vs z => by cases z) (fun z => not_tuple z.1)).weak hsub.at (fun x d e => e)
     have kp5:=keep_of hDo sb
     refine ⟨ds.length - (i + 1),by omega,i + 1,own3,ad3,vs ++ [u],kk + 1,hi',rfl,S5,?_,f3,(r3.ext k4.ext).keep S4.sit.ok kp5,?_,?_⟩
     ·exact X.frame _ _ _ st3 fun q hq o e => (sb.2 q (fun z => f3 q hq (by rw [z]; exact hDo))).trans (k4.ext _ _ e)
     ·rw [ho]; simp
     ·rw [filterMap_take_succ fs ds i d hd,hf]
      exact ((rv3.ext k4.ext).append (.cons ru .nil)).keep S4.sit.ok kp5
    have skip:∀ s4,K2 s3 s4→fs d = none→∃ m,m < ds.length - i∧CInv c n A (cenvOf scope (s₂.heap.objs.size + 1) env) s s₂.heap.objs.size own cap ex St fp vals es ds fs m s4:=fun s4 k4 hf => by
     have S4:=(S3'.mono k4).weak hsub.at (fun x d e => e)
     refine ⟨ds.length - (i + 1),by omega,i + 1,own3,ad3,vs,kk,hi',rfl,S4,X.frame _ _ _ st3 fun q hq o e => k4.ext _ _ e,f3,r3.ext k4.ext,k4.ext _ _ hD3,?_⟩
     rw [filterMap_take_succ fs ds i d hd,hf]
     simpa using rv3.ext k4.ext
    cases ifs with
    | nil =>
     left;rcases hct with ⟨f,hf,hev⟩;right
     refine wpAny_tests_nil ?_
     rw [if_pos rfl]
     exact hev A _ s3 own3 _ S3'.sit fun u s4 k4 ru => app s4 k4 u f hf ru _
    | cons t rest =>
     cases rest with
     | cons _ _ => exact hct.elim
     | nil =>
      left;rcases hct with ⟨tb,ht,h1,h2⟩;right
      refine wpAny_tests_one (ht A _ s3 own3 _ S3'.sit fun s4 k4 => ?_)
      cases tb with
      | true =>
       rw [if_pos rfl]
       left;rcases h1 rfl with ⟨f,hf,hev⟩;right
       exact hev A _ s4 own3 _ (S3'.mono k4).sit fun u s5 k5 ru => app s5 (k4.trans k5) u f hf ru _
      | false =>
       rw [if_neg (by decide)] at ⊢
       exact skip s4 k4 (h2 rfl)
 refine codeAny_compStart_list loop (self rfl 0 _ _ _ st4 loop)
end
end
section
theorem funFrames_skip {h h' base:Heap} {q:Addr} (sb:Heap.SameBut q h h'):∀ {l:List Env},(∀ e ∈ l,e.frame ≠ some q)→h.FunFrames base l→h'.FunFrames base l
 | [],_,_ => trivial
 | e :: r,hn,⟨a,⟨L,o',b1,b2,b3,b4⟩,d⟩ => ⟨a,⟨L,o',b1,b2,(sb.2 L (fun z => by subst z; exact hn e (.head _) b1)).trans b3,b4⟩,funFrames_skip sb (fun e he => hn e (.tail _ he)) d⟩
theorem funFrames_not {h base:Heap} {q:Addr} (hq:h.get? q = none) {l:List Env} (x:h.FunFrames base l) (e:Env) (he:e ∈ l):e.frame ≠ some q:=by
 induction l with
 | nil => cases he
 | cons e' r ih =>
  have hx:=x.2.1
  have hr:=x.2.2
  rcases List.mem_cons.mp he with rfl | he
  ·intro z
   left;rcases hx with ⟨L,o',b1,b2,b3⟩;right
   rw [b1] at z; cases z
   rw [hq] at b3; cases b3.1
  ·exact ih hr he
section
variable {c:Cx} {n:Nat} {A:Around} {env:Env} {b:Shared} {co own:List Addr} {ad:Str→List Addr} {lo lo':List (Str × D)} {ow ow':List (Str × OwnD)} {ex:List (Str × Value)} {s s':Shared} {o:Out} {tg:PySem.Expr}
theorem Sto.growCo (S:Sto c n A env b co own ad lo ow ex s) (k:K2 s s') {a:Addr} (ha:s.heap.get? a = none) {oa:Obj} (hoa:s'.heap.get? a = some oa) (hot:¬ (oa.cls = .type "tuple"∧∃ vs n,oa.data = .seq vs n)):Sto c n A env b (a :: co) (a :: own) ad lo ow ex s':=by
 have G:=S.grow k ha hoa hot
 have hao:=S.held ha
 exact { G with
  coIn:=fun q hq => by
   rcases List.mem_cons.mp hq with rfl | hq
   ·exact .head _
   ·exact .tail _ (S.coIn q hq)
  new:=fun q hq => by
   rcases List.mem_cons.mp hq with rfl | hq
   ·exact .inl (.head _)
   ·exact (S.new q hq).imp (fun z => .tail _ z) id
  loc:=⟨G.loc.1,G.loc.2.1,fun z => by
   rcases List.mem_cons.mp z with z | z
   ·exact hao (z ▸ S.loc.2.1)
   ·exact S.loc.2.2 z⟩
  cell:=fun x q e1 e2 e3 => by
   left;rcases G.cell x q e1 e2 e3 with ⟨h1,h2,h3⟩;right
   refine ⟨h1,h2,fun z => ?_⟩
   rcases List.mem_cons.mp z with z | z
   ·subst z
    left;rcases S.cell x _ e1 e2 e3 with ⟨_,h4,_⟩;right
    exact hao h4
   ·exact h3 z
  owns:=fun x w e => by
   left;rcases G.owns x w e with ⟨p,h1,h2,h3⟩;right
   left;rcases S.owns x w e with ⟨_,_,_,l1⟩;right
   refine ⟨p,h1,h2,fun q hq => ⟨(h3 q hq).1,fun z => ?_,(h3 q hq).2.2⟩⟩
   rcases List.mem_cons.mp z with z | z
   ·exact hao (z ▸ (l1 q hq).1)
   ·exact (l1 q hq).2.1 z }
theorem Sto.dropC {C:Addr} {l:List Env} (S:Sto c n A env b (C :: co) (C :: own) ad lo ow ex s) (hC:C ∉ own) (hCo:C ∉ co) (hfr:A.frames = some l) (hfn:∀ e ∈ l,e.frame ≠ some C) {oC:Obj} (ho:s.heap.get? C = some oC) (hd:∀ v,oC.data ≠ .cell v) (hCc:∀ x q,ex.lookup x = none→env.kindOf x = some .cell→env.cells.lookup x = some q→q ≠ C)
  (hadC:∀ x w,ow.lookup x = some w→C ∉ ad x) (hCL:C ≠ env.locals) (hbn:b.heap.get? C = none) {h':Heap} (sb:Heap.SameBut C s.heap h'):Sto c n A env b co own ad lo ow ex { s with heap:=h' }:=by
 have mv:∀ a o,a ∉ C :: own→s.heap.get? a = some o→h'.get? a = some o∧a ∉ own:=fun a o na e => ⟨(sb.2 a (fun z => na (z ▸ .head _))).trans e,fun z => na (.tail _ z)⟩
 have nm:∀ y u,NameIs env s.heap y u→NameIs env h' y u:=fun y u e => by
  rcases e with ⟨e1,m',e2,e3⟩ | ⟨e1,q',e2,e3⟩
  ·exact .inl ⟨e1,m',e2.sameBut sb (Ne.symm hCL),e3⟩
  ·refine .inr ⟨e1,q',e2,e3.sameBut sb (fun z => ?_)⟩
   subst z
   left;rcases e3 with ⟨o',q1,q2⟩;right
   rw [ho] at q1; cases q1
   exact hd _ q2
 have hneC:∀ a ∈ own,a ≠ C:=fun a ha z => hC (z ▸ ha)
 exact {
  sit:=⟨S.sit.ek,⟨S.sit.ao.handled,S.sit.ao.depth,S.sit.ao.units,by
    left;rcases S.sit.ao.frames with ⟨o,p,r⟩;right
    rw [hfr] at p; cases p
    exact ⟨_,hfr,funFrames_skip sb hfn r⟩⟩,fun a o e => (sb.2 a (fun z => by subst z; rw [S.sit.base _ (.head _)] at e; cases e)).trans (S.sit.ext a o e),fun a ha => by
    left;rcases S.sit.ok a (.tail _ ha) with ⟨o,q1,q2⟩;right
    exact ⟨o,(sb.2 a (hneC a ha)).trans q1,q2⟩,fun a ha => S.sit.base a (.tail _ ha),S.sit.tok,fun y d e => by
    left;rcases S.sit.names y d e with ⟨v,e1,r⟩;right
    exact ⟨v,nm y v e1,r.move S.sit.ok mv⟩⟩
  coIn:=fun a ha => by
   rcases List.mem_cons.mp (S.coIn a (.tail _ ha)) with z | z
   ·exact absurd (z ▸ ha) hCo
   ·exact z
  new:=fun a ha => by
   rcases S.new a (.tail _ ha) with z | z
   ·rcases List.mem_cons.mp z with z | z
    ·exact absurd (z ▸ ha) hC
    ·exact .inl z
   ·exact .inr z
  keep:=Keeps.step S.keep fun a o e => (sb.2 a (fun z => by subst z; rw [hbn] at e; cases e)).trans ((Keeps.ext S.keep) a o e)
  loc:=⟨let ⟨m,hm⟩:=S.loc.1; ⟨m,hm.sameBut sb (Ne.symm hCL)⟩,by
   rcases List.mem_cons.mp S.loc.2.1 with z | z
   ·exact absurd z (Ne.symm hCL)
   ·exact z,fun z => S.loc.2.2 (.tail _ z)⟩
  cell:=fun y a ke e e' => by
   left;rcases S.cell y a ke e e' with ⟨⟨v,hv⟩,r1,r2⟩;right
   have hne:=hCc y a ke e e'
   refine ⟨⟨v,hv.sameBut sb hne⟩,?_,fun z => r2 (.tail _ z)⟩
   rcases List.mem_cons.mp r1 with z | z
   ·exact absurd z hne
   ·exact z
  cells:=S.cells
  exact:=fun y v e => nm y v (S.exact y v e)
  owns:=fun y v e => by
   left;rcases S.owns y v e with ⟨a',n2,o2,l2⟩;right
   have hq:=hadC y v e
   have kq:∀ q ∈ ad y,∀ o,s.heap.get? q = some o→h'.get? q = some o:=fun q hq' o e => (sb.2 q (fun z => hq (z ▸ hq'))).trans e
   refine ⟨a',nm _ _ n2,?_,fun q hq' => ⟨?_,fun z => (l2 q hq').2.1 (.tail _ z),(l2 q hq').2.2⟩⟩
   ·cases v with
    | lst ds => left;rcases o2 with ⟨e1,vs,m,e2,r⟩;right; exact ⟨e1,vs,m,kq a' (by rw [e1]; simp) _ e2,r.move S.sit.ok mv⟩
    | hdr C' ds =>
     left;rcases o2 with ⟨dx,l',vs,m,j,t,e1,d,e2,e3,e4,r⟩;right
     exact ⟨dx,l',vs,m,j,t,e1,d,kq a' (by rw [e1]; simp) _ e2,kq dx (by rw [e1]; simp) _ e3,kq l' (by rw [e1]; simp) _ e4,r.move S.sit.ok mv⟩
    | ins C' kvs =>
     left;rcases o2 with ⟨dx,es,m,e1,d,e2,e3,r⟩;right
     exact ⟨dx,es,m,e1,d,kq a' (by rw [e1]; simp) _ e2,kq dx (by rw [e1]; simp) _ e3,r.move S.sit.ok mv⟩
   ·rcases List.mem_cons.mp (l2 q hq').1 with z | z
    ·exact absurd (z ▸ hq') hq
    ·exact z
  apart:=S.apart }
theorem chk_parts {scope:Scope} {cap:List (Str × D)} {cy:Option Str} (chk:compChk env scope cap cy = true):scope.kind = .function∧closAll scope.names env.cells = true∧∀ x ∈ scope.names,x.2 = .local→scope.names.lookup x.1 = some .local:=by
 have c6:=Bool.and_eq_true_iff.mp chk
 have c5:=Bool.and_eq_true_iff.mp c6.1
 have c4:=Bool.and_eq_true_iff.mp c5.1
 have c3:=Bool.and_eq_true_iff.mp c4.1
 have c2:=Bool.and_eq_true_iff.mp c3.1
 refine ⟨by simpa using c2.1,c3.2,fun x hx hl => ?_⟩
 have:=List.all_eq_true.mp c2.2 _ hx
 rw [hl] at this
 simpa using this
theorem EVF.comp {iter elt:PySem.Expr} {ifs:List PySem.Expr} {scope:Scope} {pos:Pos} {cap:List (Str × D)} (cy:Option Str) {ds:List D} (fs:D→Option D) (chk:compChk env scope cap cy = true) (hcap:Sub cap lo) (it:IT c n env lo true tg iter ds)
  (turn:∀ (i:Nat) d,ds[i]? = some d→CTurn c n env scope cap tg ifs elt d (fs d)) (hlim:ds.length ≤ lim) (hs:autoParam (∀ x,foldedSetIterable iter env x = pure x) byIR):EVF c n env lo (.ListComp elt [⟨tg,iter,ifs,0⟩] scope pos) (ds.filterMap fs):=fun A E s own Q S h => by
 left;rcases chk_parts chk with ⟨k1,k2,k3⟩;right
 rw [eval_ListComp]
 refine wpAny_comprehension_free (use:=none) (cl:=closOf scope.names env.cells []) rfl hs (closFor k2) k1 k3 (comp_core (R:=compPost (model c.prog c.w) A E none Q) chk hcap it turn hlim S fun C Dd vs k s' kk hC hD hne hn ho r ok => ?_)
 obtain ⟨m,hm⟩:=hn
 refine ⟨m,hm,fun h' sb => ?_⟩
 have k2':K2 s { s' with heap:=h' }:=by
  left;rcases kk with ⟨⟨h1,t1,z0_,e1⟩,ht⟩;right;subst z0_
  exact ⟨⟨h',t1,rfl,fun a o e => (sb.2 a (fun z => by subst z; rw [hC] at e; cases e)).trans (e1 a o e)⟩,ht⟩
 refine h Dd vs k _ k2' hD ((sb.2 Dd (Ne.symm hne)).trans ho) ?_
 exact (r.keep ok (keep_of (.head _) sb)).sub fun a ha => .tail _ ha
theorem EVF.ev {e:PySem.Expr} {ds:List D} (x:EVF c n env lo e ds):EV c n env lo e (.lst ds):=fun A E s own Q S h =>
 x A E s own Q S fun a vs k s' kk hn ho r => h _ _ kk (.lst (fun hm => by
  left;rcases S.ok a hm with ⟨o,q,_⟩;right
  rw [hn] at q; cases q) ho rfl rfl (r.sub fun q hq => .tail _ hq))
theorem EV.comp {iter elt:PySem.Expr} {ifs:List PySem.Expr} {scope:Scope} {pos:Pos} {cap:List (Str × D)} (cy:Option Str) {ds:List D} (fs:D→Option D) (chk:compChk env scope cap cy = true) (hcap:Sub cap lo) (it:IT c n env lo true tg iter ds)
  (turn:∀ (i:Nat) d,ds[i]? = some d→CTurn c n env scope cap tg ifs elt d (fs d)) (hlim:ds.length ≤ lim) (hs:autoParam (∀ x,foldedSetIterable iter env x = pure x) byIR):EV c n env lo (.ListComp elt [⟨tg,iter,ifs,0⟩] scope pos) (.lst (ds.filterMap fs)):=
 (EVF.comp cy fs chk hcap it turn hlim hs).ev
theorem Ex1.assignComp {y:Str} {py spos:Pos} {iter elt:PySem.Expr} {ifs:List PySem.Expr} {scope:Scope} {pos:Pos} {cap:List (Str × D)} (cy:Option Str) {ds:List D} (fs:D→Option D) (chk:compChk env scope cap cy = true) (hcap:Sub cap lo) (it:IT c n env lo true tg iter ds)
  (turn:∀ (i:Nat) d,ds[i]? = some d→CTurn c n env scope cap tg ifs elt d (fs d)) (hlim:ds.length ≤ lim) (hk:canStore env y) (how:autoParam (ow.lookup y = none) byRfl) (hex:autoParam (ex.lookup y = none) byRfl)
  (hsw:autoParam (swapsWith (.ListComp elt [⟨tg,iter,ifs,0⟩] scope pos) (some (.Name y py)) spos.line env = pure true) byRfl) (hs:autoParam (∀ x,foldedSetIterable iter env x = pure x) byIR) :
  Ex1 c n env ex (.Assign [.Name y py] (.ListComp elt [⟨tg,iter,ifs,0⟩] scope pos) spos) lo ow (.next ((y,.lst (ds.filterMap fs)) :: lo) ow):=fun A E b co s ⟨own,ad,S⟩ => by
 left;rcases chk_parts chk with ⟨k1,k2,k3⟩;right
 rw [exec_Assign_Name_used _ _ _ _ hsw]
 refine wpAny_bind (wpAny_standAt (wpAny_bind ?_))
 show wpAny _ A (do let _ ← comprehension (.ListComp elt [⟨tg,iter,ifs,0⟩] scope pos) scope env _ (newList []) false (eval iter env) (some (PySem.assign (.Name y py) env))) _ _ s
 refine wpAny_bind (wpAny_mono (wpAny_comprehension_free (use:=some (PySem.assign (.Name y py) env)) (cl:=closOf scope.names env.cells []) (Q:=fun _ s' => OutIs c n A env b co ex (.next ((y,.lst (ds.filterMap fs)) :: lo) ow) .next s') rfl hs (closFor k2) k1 k3
  (comp_core (R:=compPost (model c.prog c.w) A E (some (PySem.assign (.Name y py) env)) fun _ s' => OutIs c n A env b co ex (.next ((y,.lst (ds.filterMap fs)) :: lo) ow) .next s') chk hcap it turn hlim S.sit fun C Dd vs k s' kk hC hD hne hn ho r ok => ?_)) (fun _ s' hq => wpAny_pure (wpAny_pure hq)) fun _ _ e => e)
 show wpAny _ A (PySem.assign (.Name y py) env (.ref Dd)) _ _ _
 left;rcases hn with ⟨m,oC,es,ep,hoC,hdC,q3,q4⟩;right
 have G:=S.growCo kk hC hoC (fun z => by left;rcases z with ⟨_,vs,m,z⟩;right; rw [hdC] at z; cases z)
 have hCown:=S.held hC
 have hCL:C ≠ env.locals:=fun z => hCown (z ▸ S.loc.2.1)
 have hCco:C ∉ co:=fun z => hCown (S.coIn _ z)
 have hCad:∀ x w,ow.lookup x = some w→C ∉ ad x:=fun x w e z => by
  left;rcases S.owns x w e with ⟨_,_,_,l1⟩;right
  exact hCown (l1 _ z).1
 left;rcases G.carry with ⟨b₁,S₁,c1,c2⟩;right
 left;rcases S.sit.ao.frames with ⟨l,hfr,hfF⟩;right
 refine wpAny_assign_Name (S₁.store hk how hex fun s'' h1 _ => ?_)
 have rD:Rd c.w.params (C :: own) s'.heap (.ref Dd) (.lst (ds.filterMap fs)):=by
  refine .lst (fun hm => ?_) ho rfl rfl (r.sub fun q hq => ?_)
  ·rcases List.mem_cons.mp hm with z | z
   ·exact hne z.symm
   ·exact S.held hD z
  ·rcases List.mem_cons.mp hq with rfl | hq
   ·exact .head _
   ·exact .tail _ (.tail _ hq)
 have S₂:=h1 _ rD
 left;rcases c1 S₂ with ⟨S₃,mv,cm⟩;right
 have hoC2:=cm C _ (.head _) hoC
 refine ⟨m,⟨oC,es,ep,hoC2,hdC,q3,q4⟩,fun h' sb => ?_⟩
 exact ⟨rfl,own,ad,S₃.dropC hCown hCco hfr (funFrames_not hC hfF) hoC2 (fun v z => by rw [hdC] at z; cases z) (fun x q e1 e2 e3 z => by
   subst z
   left;rcases S.cell x _ e1 e2 e3 with ⟨_,h4,_⟩;right
   exact hCown h4) hCad hCL (none_of_ext (Keeps.ext S.keep) hC) sb⟩
end
end
section
noncomputable def cellAddrs (cs:List (Str × Addr)):List Addr:=(cs.map (·.1)).filterMap fun y => cs.lookup y
theorem mem_cellAddrs {cs:List (Str × Addr)} {a:Addr} (h:a ∈ cellAddrs cs):∃ y,cs.lookup y = some a:=by
 left;rcases List.mem_filterMap.mp h with ⟨y,_,e⟩;right
 exact ⟨y,e⟩
theorem cellAddrs_mem {cs:List (Str × Addr)} {y:Str} {a:Addr} (h:cs.lookup y = some a):a ∈ cellAddrs cs:=List.mem_filterMap.mpr ⟨y,List.mem_map_of_mem (mem_of_lookup' h),h⟩
theorem bindL_skip {kindOf:Str→Option NameKind} {x:Str}:∀ {B:List (Str × Value)} {m:Str→Option Value},x ∉ B.map (·.1)→bindL kindOf B m x = m x
 | [],m,_ => rfl
 | (y,v) :: r,m,h => by
  have h1:x ≠ y:=fun z => h (by simp [z])
  have h2:x ∉ r.map (·.1):=fun z => h (by simp at z ⊢; exact .inr z)
  unfold bindL
  rw [bindL_skip h2]
  split
  ·simp [h1]
  ·rfl
theorem bindC_skip {kindOf:Str→Option NameKind} {x:Str}:∀ {B:List (Str × Value)} {m:Str→Option Value},x ∉ B.map (·.1)→bindC kindOf B m x = m x
 | [],m,_ => rfl
 | (y,v) :: r,m,h => by
  have h1:x ≠ y:=fun z => h (by simp [z])
  have h2:x ∉ r.map (·.1):=fun z => h (by simp at z ⊢; exact .inr z)
  unfold bindC
  rw [bindC_skip h2]
  split
  ·rfl
  ·simp [h1]
theorem bindL_at {kindOf:Str→Option NameKind} {x:Str} {v:Value} (hk:kindOf x = some .local):∀ {B:List (Str × Value)} {m:Str→Option Value},(B.map (·.1)).Nodup→(x,v) ∈ B→bindL kindOf B m x = some v
 | (y,u) :: r,m,hn,hm => by
  obtain ⟨h1,h2⟩:=List.nodup_cons.mp hn
  unfold bindL
  rcases List.mem_cons.mp hm with e | hm
  ·cases e
   rw [bindL_skip h1,if_pos hk]; simp
  ·exact bindL_at hk h2 hm
theorem bindC_at {kindOf:Str→Option NameKind} {x:Str} {v:Value} (hk:kindOf x ≠ some .local):∀ {B:List (Str × Value)} {m:Str→Option Value},(B.map (·.1)).Nodup→(x,v) ∈ B→bindC kindOf B m x = some v
 | (y,u) :: r,m,hn,hm => by
  obtain ⟨h1,h2⟩:=List.nodup_cons.mp hn
  unfold bindC
  rcases List.mem_cons.mp hm with e | hm
  ·cases e
   rw [bindC_skip h1,if_neg hk]; simp
  ·exact bindC_at hk h2 hm
theorem zip_lookup {P:Params} {own:List Addr} {h:Heap} {x:Str} {d:D}:∀ {B:List (Str × Value)} {ds:List D},RdAll P own h (B.map (·.2)) ds→((B.map (·.1)).zip ds).lookup x = some d→∃ v,(x,v) ∈ B∧Rd P own h v d
 | [],ds,r,e => by cases r; simp at e
 | (y,v) :: B,ds,r,e => by
  cases r with
  | cons rd rr =>
   simp only [List.map_cons,List.zip_cons_cons,List.lookup_cons] at e
   by_cases z:(x == y) = true
   ·rw [z] at e; cases e
    have:x = y:=by simpa using z
    subst this
    exact ⟨v,.head _,rd⟩
   ·have z':(x == y) = false:=by simpa using z
    rw [z'] at e
    left;rcases zip_lookup rr e with ⟨u,h1,h2⟩;right
    exact ⟨u,.tail _ h1,h2⟩
theorem AOk.deep {c:Cx} {n:Nat} {A:Around} {h h':Heap} {env:Env} {L:Addr} {m:Str→Option Value} (x:AOk c (n + 1) A h) (e:Ext h h') (hf:env.frame = some L) (hk:env.scope.kind = .function) (hn:h'.Ns L m) (hb:c.H.get? L = none):AOk c n (A.deeper env) h':=by
 left;rcases x.frames with ⟨o,h1,h2⟩;right
 refine ⟨x.handled,?_,?_,env :: o,Around.frames_deeper h1,Heap.FunFrames.cons (by rw [hk]; decide) hf hn hb (h2.of_keeps fun b o q _ => ⟨o,e _ _ q,rfl⟩)⟩
 ·have:=x.depth
  show A.depth + 1 + n < _
  omega
 ·have:=x.units
  show A.units + 3 + 8 * n + 300 < _
  omega
section
variable {c:Cx} {n:Nat} {name qual:Str} {params:Arguments} {body:List Stmt} {scope:Scope} {dV kV doc pm cdv ct oc:Value} {an od:Option Addr} {osl:Array (Option Value)} {f:Addr}
theorem entry_sto {A:Around} {s s':Shared} {own:List Addr} {lo0:List (Str × D)} {ex0:List (Str × Value)} {B:List (Str × Value)} (ao:AOk c (n + 1) A s.heap) (ext:Ext c.H s.heap) (ok:OwnOk own s.heap) (base:∀ a ∈ own,c.H.get? a = none) (tok:1 ≤ s.toks) (htk:s.toks ≤ s'.toks)
  (hkind:scope.kind = .function) (hB:(B.map (·.1)).Nodup) (hk:∀ y ∈ B,scope.names.lookup y.1 = some .local ∨ (scope.names.lookup y.1 = some .cell∧((cellsFrom (s.heap.objs.size + 1) scope.names []).lookup y.1).isSome = true)) (r:∀ y d,lo0.lookup y = some d→∃ v,(y,v) ∈ B∧Rd c.w.params own s.heap v d) (re:∀ y v,ex0.lookup y = some v→(y,v) ∈ B)
  (x:InCallC s (envOfC qual scope s.heap.objs.size f cdv).locals (bindL (envOfC qual scope s.heap.objs.size f cdv).kindOf B fun _ => none) (envOfC qual scope s.heap.objs.size f cdv).cells (bindC (envOfC qual scope s.heap.objs.size f cdv).kindOf B fun _ => none) s') :
  SO c n (A.deeper (envOfC qual scope s.heap.objs.size f cdv)) (envOfC qual scope s.heap.objs.size f cdv) s own lo0 [] ex0 s':=by
 have k:Keeps s s':=by
  left;rcases x.done with ⟨h',tk,z0_,e⟩;right;subst z0_
  exact ⟨h',tk,rfl,e⟩
 have e0:Ext s.heap s'.heap:=Keeps.ext k
 have hnone:∀ a,s.heap.objs.size ≤ a→s.heap.get? a = none:=fun a ha => by
  cases q:s.heap.get? a with
  | none => rfl
  | some o => exact absurd (Heap.lt_size q) (Nat.not_lt.mpr ha)
 have hcell:∀ p ∈ (envOfC qual scope s.heap.objs.size f cdv).cells,s.heap.get? p.2 = none:=fun p hp => hnone _ (Nat.le_of_lt (x.above p.1 p.2 hp))
 have fr:∀ a ∈ (cellAddrs (envOfC qual scope s.heap.objs.size f cdv).cells) ++ [s.heap.objs.size],s.heap.get? a = none:=fun a ha => by
  rcases List.mem_append.mp ha with h | h
  ·obtain ⟨y,e⟩:=mem_cellAddrs h
   exact hcell _ (mem_of_lookup' e)
  ·simp at h; subst h; exact none_size _
 have hL:(∃ m,s'.heap.Ns s.heap.objs.size m):=⟨_,x.toInCall.ns⟩
 have reow:∀ {v d},Rd c.w.params own s.heap v d→Rd c.w.params (cellAddrs (envOfC qual scope s.heap.objs.size f cdv).cells ++ s.heap.objs.size :: own) s'.heap v d:=fun r => by
  have:=(Rd.fresh (more:=(cellAddrs (envOfC qual scope s.heap.objs.size f cdv).cells) ++ [s.heap.objs.size]) fr r).ext e0
  simpa using this
 have inN:∀ y v,(y,v) ∈ B→NameIs (envOfC qual scope s.heap.objs.size f cdv) s'.heap y v:=fun y v hm => by
  rcases hk _ hm with h1 | ⟨h1,h2⟩
  ·exact .inl ⟨h1,_,x.toInCall.ns,bindL_at h1 hB hm⟩
  ·obtain ⟨q,hq⟩:=Option.isSome_iff_exists.mp h2
   refine .inr ⟨.inl h1,q,hq,?_⟩
   have:=x.cell y q hq
   rwa [bindC_at (by show ¬ (scope.names.lookup y = _); rw [h1]; simp) hB hm] at this
 have lookMem:∀ y q,(envOfC qual scope s.heap.objs.size f cdv).cells.lookup y = some q→q ∈ cellAddrs (envOfC qual scope s.heap.objs.size f cdv).cells:=fun y q e => cellAddrs_mem e
 refine ⟨cellAddrs (envOfC qual scope s.heap.objs.size f cdv).cells ++ s.heap.objs.size :: own,fun _ => [],{
  sit:=⟨⟨hkind,rfl,rfl⟩,ao.deep e0 rfl hkind x.toInCall.ns (none_of_ext ext (none_size _)),Ext.trans ext e0,fun a ha => ?_,fun a ha => ?_,Nat.le_trans tok htk,fun y d e => ?_⟩
  coIn:=fun a ha => List.mem_append_right _ (.tail _ ha)
  new:=fun a ha => ?_
  keep:=k
  loc:=⟨hL,List.mem_append_right _ (.head _),fun h => ?_⟩
  cell:=fun y q e1 e2 e3 => ⟨⟨_,x.cell y q e3⟩,List.mem_append_left _ (lookMem y q e3),fun h => ?_⟩
  cells:=fun y z q e1 e2 e3 e4 => name_of_addr x.apart (mem_of_lookup' e3) (mem_of_lookup' e4)
  exact:=fun y v e => inN y v (re y v e)
  owns:=fun y w e => by simp at e
  apart:=fun y z w w' q e => by simp at e }⟩
 ·rcases List.mem_append.mp ha with h | h
  ·obtain ⟨y,hlk⟩:=mem_cellAddrs h
   left;rcases x.cell _ _ hlk with ⟨o,h1,h2⟩;right
   exact ⟨o,h1,fun z => by left;rcases z with ⟨_,vs,m,z⟩;right; rw [h2] at z; cases z⟩
  ·rcases List.mem_cons.mp h with rfl | h
   ·left;rcases hL with ⟨m,o,es,ep,h1,h2,_⟩;right
    exact ⟨o,h1,fun z => by left;rcases z with ⟨_,vs,m,z⟩;right; rw [h2] at z; cases z⟩
   ·exact ok.ext e0 a h
 ·rcases List.mem_append.mp ha with h | h
  ·exact none_of_ext ext (fr a (List.mem_append_left _ h))
  ·rcases List.mem_cons.mp h with rfl | h
   ·exact none_of_ext ext (none_size _)
   ·exact base a h
 ·left;rcases r y d e with ⟨v,hm,rd⟩;right
  exact ⟨v,inN y v hm,reow rd⟩
 ·rcases List.mem_append.mp ha with h | h
  ·exact .inr (fr a (List.mem_append_left _ h))
  ·rcases List.mem_cons.mp h with rfl | h
   ·exact .inr (none_size _)
   ·exact .inl h
 ·left;rcases ok _ h with ⟨o,h1,_⟩;right
  rw [show (envOfC qual scope s.heap.objs.size f cdv).locals = s.heap.objs.size from rfl,none_size] at h1; cases h1
 ·left;rcases ok _ h with ⟨o,h1,_⟩;right
  rw [hcell _ (mem_of_lookup' e3)] at h1; cases h1
theorem FnOk.def {ds:List D} {kw:List (Str × Bool)} {N:List Str} {ds0:List D} {o:Out} {d:D} (ho:c.K.lookup f = some ⟨oc,od,.func (fnOf name qual params body scope dV kV doc pm an cdv ct),osl⟩) (hcd:codeIn c.K cdv qual = true)
  (hb:∀ (s:Shared) (own:List Addr) (vs:List Value),Ext c.H s.heap→RdAll c.w.params own s.heap vs ds→∃ B:List (Str × Value),BindsTo s (fnOf name qual params body scope dV kV doc pm an cdv ct) ⟨vs,kw.map fun p => (p.1,.bool p.2)⟩ B∧B.map (·.1) = N∧RdAll c.w.params own s.heap (B.map (·.2)) ds0)
  (hN:N.Nodup) (hk:N.all (fun y => scope.names.lookup y == some .local || scope.names.lookup y == some .cell) = true)
  (hbody:∀ L,Ex c n (envOfC qual scope L f cdv) [] body (N.zip ds0) [] o) (hd:o = .ret d ∨ (d = .none∧∃ lo ow,o = .next lo ow))
  (hco:autoParam (scope.isCoroutine = false) byRfl) (hgen:autoParam (scope.isGenerator = false) byRfl) (hkind:autoParam (scope.kind = .function) byRfl):FnOk c (n + 1) (.ref f) ds kw d:=fun A E s own vs Q ao ext ok base tok r h => by
 left;rcases hb s own vs ext r with ⟨B,hbind,z0_,rB⟩;right;subst z0_
 have hk':∀ m,∀ x ∈ B,scope.names.lookup x.1 = some .local ∨ (scope.names.lookup x.1 = some .cell∧((cellsFrom m scope.names []).lookup x.1).isSome = true):=kindsX (binds:=B) (by
  rw [List.all_eq_true] at hk ⊢
  exact fun x hx => hk x.1 (List.mem_map_of_mem hx))
 have X:c.K.In s.heap:=c.X.keeps ext
 refine wpAny_call (codeAny_with_toks (Nat.le_refl s.toks) (codeAny_call_function (by have:=ao.depth; omega) (X _ _ ho) rfl hco hgen rfl (codeRec_of X hcd) (hbind _ _ _ _ ?_)))
 refine wpAny_with_toks (Nat.le_refl s.toks) (wpAny_newFunctionEnv_cells hkind (hk' _) fun env he s' x htk => ?_)
 subst he
 refine ⟨(c.T.nolimit.keeps ext).keeps x.toInCall.keep,codeAny_func ?_⟩
 have S:=entry_sto (n:=n) (qual:=qual) (f:=f) (cdv:=cdv) ao ext ok base tok htk hkind hN (hk' _) (fun y d e => zip_lookup rB e) (ex0:=[]) (fun y v e => by simp at e) x
 refine wpAny_mono (hbody _ _ _ s own s' S) (fun fl s'' ho hts => ?_) fun _ _ z => z
 rcases hd with rfl | ⟨rfl,lo,ow,rfl⟩
 ·left;rcases ho with ⟨v,z0_,rv,kk⟩;right;subst z0_
  exact h v s'' ⟨kk,hts⟩ rv
 ·left;rcases ho with ⟨z0_,own',ad,S'⟩;right;subst z0_
  exact h .none s'' ⟨S'.keep,hts⟩ .none
end
end
section
section
variable {c:Cx} {n:Nat} {env:Env} {lo:List (Str × D)}
noncomputable def JV (c:Cx) (n:Nat) (env:Env) (lo:List (Str × D)) (es:List PySem.Expr) (out r:Str):Prop:=
 ∀ (A:Around) (E:Value→Shared→Prop) (s:Shared) (own:List Addr) (Q:Value→Shared→Prop),Sit c n A env own lo s →
  (∀ v s',K2 s s'→Rd c.w.params own s'.heap v (.str r)→Q v s')→wpAny (model c.prog c.w) A (joinParts out (evalEach es env)) Q E s
theorem JV.nil {out:Str} (h:out.length ≤ lim):JV c n env lo [] out out:=fun A E s own Q S k =>
 joinParts_nil (k _ _ ⟨keeps_toks _ _,Nat.le_succ _⟩ (.str _ _)) (by have:=lim_line; omega)
theorem JV.cons {e:PySem.Expr} {es:List PySem.Expr} {out y r:Str} (x:EV c n env lo e (.str y)) (h:(out ++ y).length ≤ lim) (z:JV c n env lo es (out ++ y) r):JV c n env lo (e :: es) out r:=fun A E s own Q S k => by
 show wpAny _ A (joinParts out (eval e env :: evalEach es env)) Q E s
 refine joinParts_cons (x A E s own _ S fun v s' kk rv => ?_)
 cases rv
 exact ⟨by have:=lim_line; omega,z A E s' own Q (S.mono kk) fun u s'' k' r' => k u s'' (kk.trans k') r'⟩
theorem EV.fstr {e₁ e₂:PySem.Expr} {es:List PySem.Expr} {pos:Pos} {r:Str} (x:JV c n env lo (e₁ :: e₂ :: es) Str.empty r):EV c n env lo (.JoinedStr (e₁ :: e₂ :: es) pos) (.str r):=fun A E s own Q S k =>
 PyProof.Rows.JoinedStr_many (x A E s own Q S k)
theorem EV.fval {e:PySem.Expr} {pos:Pos} {y:Str} (x:EV c n env lo e (.str y)) (h:y.length ≤ lim):EV c n env lo (.FormattedValue e 115 Option.none pos) (.str y):=fun A E s own Q S k => by
 show wpAny _ A (do let v ← eval e env; standAt pos; formatted pos (← holding [v] (converted 115 v)) Option.none) Q E s
 refine wpAny_bind (wpAny_mono (x A E s own _ S fun v s' kk rv => ?_) (fun _ _ z => z) fun _ _ z => z)
 obtain ⟨t,rfl⟩:=rv.str_inv
 refine wpAny_bind (wpAny_standAt ?_)
 have hl:y.length ≤ sizeLine:=by have:=lim_line; omega
 refine wpAny_bind (wpAny_holding ?_)
 show wpAny _ A (habitSame "fstring-hands-on-the-str" (.str y t)) _ E s'
 refine wpAny_with_toks (Nat.le_refl s'.toks) (habitSame_str (fun t' tk ht => ?_) hl)
 show wpAny _ A (formatField (.str y t') Str.empty) Q E { s' with toks:=tk }
 refine wpAny_with_toks (Nat.le_refl tk) (formatField_str (fun t2 tk2 ht2 => ?_) hl)
 exact k _ _ (kk.trans ⟨keeps_toks _ _,Nat.le_trans ht ht2⟩) (.str _ _)
theorem EV.replace {o:PySem.Expr} {apos pos p₁ p₂:Pos} {k₁ k₂:Nat} {x y z:Str} {pl:Sem Bool} (w:EV c n env lo o (.str x)) (hx:x.length ≤ lim) (hz:z.length ≤ 14) (hyz:(y == z) = false)
  (he:autoParam (eval (.Call (.Attribute o "replace" apos) [.Constant (.str y) k₁ p₁,.Constant (.str z) k₂ p₂] [] pos) env = (do
   let ov ← eval o env
   standAt apos.atName
   let (f,first) ← holding [ov] (getMethod ov "replace" pl)
   callWith pos f first (backTo pos (starEach [.Constant (.str y) k₁ p₁,.Constant (.str z) k₂ p₂] env)) (backToKw pos (keywordEach [] env)))) byRfl) :
  EV c n env lo (.Call (.Attribute o "replace" apos) [.Constant (.str y) k₁ p₁,.Constant (.str z) k₂ p₂] [] pos) (.str (Txt.replace x y z)):=fun A E s own Q S k =>
 methodCall_KW (w A E s own _ S fun v s₁ kk rv => by
  obtain ⟨t,rfl⟩:=rv.str_inv
  refine GM.replace ?_
  have S₁:=S.mono kk
  refine callWith_of rfl (fun h' X => KeepF.builtin (c:=c) _ h' X) (evalArgs_plain (spliced_cons (Constant_str (k:=k₁) (pos:=p₁) (spliced_cons (Constant_str (k:=k₂) (pos:=p₂) (spliced_nil ⟨S₁.K,?_⟩))))))
  have h1:=S₁.tok
  exact with2 (P:=fun v s' => Rd c.w.params own s'.heap v (.str (Txt.replace x y z))) (SC.replaceW (by show s₁.toks ≠ 0; omega) (by show s₁.toks + 1 ≠ 0; omega) (by show s₁.toks ≠ s₁.toks + 1; omega) hyz (by have:lim = 100000:=rfl; omega) hz
   fun t' k' => ⟨(⟨_,_,rfl,fun _ _ e => e⟩:Keeps { s₁ with toks:=s₁.toks + 1 + 1 } _),.str _ _⟩) fun v s' q r' => k v s' ((kk.trans ⟨keeps_toks _ _,by show s₁.toks ≤ s₁.toks + 1 + 1; omega⟩).trans q) r') he
theorem foldl_rep (v:Value):∀ (m:Nat) (acc:Array Value),List.foldl (fun x1 x2 => x1 ++ x2) acc (List.replicate m #[v]) = acc ++ (List.replicate m v).toArray
 | 0,acc => by simp
 | m + 1,acc => by
  rw [List.replicate_succ,List.foldl_cons,foldl_rep v m]
  apply Array.ext'
  simp [List.replicate_succ]
theorem RdAll.rep {P:Params} {own:List Addr} {h:Heap} {v:Value} {d:D} (r:Rd P own h v d):∀ m,RdAll P own h (List.replicate m v) (List.replicate m d)
 | 0 => .nil
 | m + 1 => .cons r (RdAll.rep r m)
theorem EV.listmul {l r:PySem.Expr} {pos:Pos} {d:D} {x:Int} (a:EV c n env lo l (.lst [d])) (y:EV c n env lo r (.int x)) (hx:-1000 ≤ x∧x ≤ 1000):EV c n env lo (.BinOp l .Mult r pos) (.lst (List.replicate x.toNat d)):=fun A E s own Q S h =>
 wpAny_BinOp (a A E s own _ S fun v s₁ k rv => y A E s₁ own _ (S.mono k) fun u s₂ k' ru => by
  obtain ⟨tt,rfl⟩:=ru.int_inv
  left;rcases rv.lst_inv with ⟨a,oa,nA,vs,z0_,na,ea,ca,da,xa⟩;right;subst z0_
  have ea':=k'.ext _ _ ea
  have xa':=xa.ext k'.ext
  left;rcases oa with ⟨cls,dd,data,sl⟩;right
  simp only at ca da
  subst ca da
  have hlen:=xa.length
  have hsz:vs.toArray.size * x.toNat ≤ 2 ^ 24:=by
   have:vs.toArray.size = 1:=by simpa using hlen
   rw [this]; omega
  obtain ⟨u,rfl⟩:∃ u,vs = [u]:=by
   cases vs with
   | nil => simp at hlen
   | cons u r => cases r with
    | nil => exact ⟨u,rfl⟩
    | cons _ _ => simp at hlen
  refine wpAny_binaryOp_repeat_ref (T := "list") (U := "int") (by decide) ⟨_,ea',rfl⟩ (fun s' => typeIs_int s' x tt) noFill_list_mul F.fills_int_mul F.slot_int_rmul repeat_list F.slot_int_index.lookup
   (call_meets F.slot_int_rmul (typeIs_int s₂ x tt) F.entry_int_rmul (F.args_int_rmul_2 _ _) (lm_int_rmul_list_any x tt a [u].toArray nA dd sl)
    ⟨ea',rfl,⟨_,ea',rfl⟩,call_meets F.slot_list_mul ⟨_,ea',rfl⟩ F.entry_list_mul (F.args_list_mul_2 _ _)
     (lm_list_mul_any a [u].toArray nA dd sl x tt (by simp [Builtin.List.listFitsIndex]; omega) (by omega) (by simp [Builtin.List.listTooLong,sizeLine]; omega))
     ⟨ea',?_⟩⟩)
  have e1:(List.foldl (fun x1 x2 => x1 ++ x2) #[] (List.replicate (if [u].toArray.isEmpty = true then 0 else x.toNat) [u].toArray)) = (List.replicate x.toNat u).toArray:=by
   have e2:([u].toArray.isEmpty) = false:=by simp
   rw [e2]
   simp only [Bool.false_eq_true,if_false]
   have:=foldl_rep u x.toNat #[]
   simpa using this
  rw [e1]
  cases xa' with
  | cons ru _ => exact h _ _ ((k.trans k').push _) (rd_newList (S.mono (k.trans k')).ok.held (RdAll.rep ru x.toNat)))
noncomputable def DV (c:Cx) (n:Nat) (env:Env) (lo:List (Str × D)) (pos:Pos) (ks:List (Str × Nat × Pos)) (es:List PySem.Expr) (kvs:List (Str × D)):Prop:=
 ∀ (A:Around) (E:Value→Shared→Prop) (s:Shared) (own:List Addr) (Q:List (Value × Value)→Shared→Prop),Sit c n A env own lo s →
  (∀ vs ps s',K2 s s'→Carries (PySem.strKind c.prog c.w) vs ps→ps.map (·.1) = kvs.map (·.1)→RdAll c.w.params own s'.heap (ps.map (·.2)) (kvs.map (·.2))→Q vs s') →
  wpAny (model c.prog c.w) A (evalPairs ((ks.map fun k => eval (.Constant (.str k.1) k.2.1 k.2.2) env).zip (es.map fun e => do let x ← eval e env; standAt pos; pure x))) Q E s
theorem DV.nil {pos:Pos}:DV c n env lo pos [] [] []:=fun A E s own Q S h => evalPairs_nil (h [] [] s (K2.refl s) trivial rfl .nil)
theorem DV.cons {pos p:Pos} {k:Str} {kn:Nat} {ks:List (Str × Nat × Pos)} {e:PySem.Expr} {es:List PySem.Expr} {d:D} {kvs:List (Str × D)} (x:EV c n env lo e d) (y:DV c n env lo pos ks es kvs):DV c n env lo pos ((k,kn,p) :: ks) (e :: es) ((k,d) :: kvs):=fun A E s own Q S h => by
 refine evalPairs_cons (Constant_str ?_)
 refine wpAny_bind (x A E _ own _ (S.mono ⟨keeps_toks _ _,Nat.le_succ _⟩) fun v s₁ k₁ rv => wpAny_bind (wpAny_standAt (wpAny_pure ?_)))
 have kk:K2 s s₁:=K2.trans ⟨keeps_toks _ _,Nat.le_succ _⟩ k₁
 refine y A E s₁ own _ (S.mono kk) fun vs ps s₂ k₂ hc hm hr => ?_
 exact h _ ((k,v) :: ps) s₂ (kk.trans k₂) ⟨(show (PySem.strKind c.prog c.w).is k (.str k s.toks) = true from isStrOf_refl k s.toks),rfl,hc⟩ (by simp [hm]) (.cons (rv.ext k₂.ext) hr)
theorem merged_nodup (l:List (Str × Value)) (hn:(l.map (·.1)).Nodup):merged [] l = l:=by
 have key:∀ (l acc:List (Str × Value)),(∀ p ∈ l,p.1 ∉ acc.map (·.1))→(l.map (·.1)).Nodup→merged acc l = acc ++ l:=by
  intro l
  induction l with
  | nil => intro acc _ _; simp [merged]
  | cons p r ih =>
   intro acc h1 h2
   obtain ⟨h3,h4⟩:=List.nodup_cons.mp h2
   have e:stored acc p.1 p.2 = acc ++ [p]:=by
    have h5:=h1 p (by simp)
    unfold stored
    rw [if_neg (by
     intro q
     left;rcases List.any_eq_true.mp q with ⟨kv,q1,q2⟩;right
     exact h5 (List.mem_map.mpr ⟨kv,q1,by simpa using q2⟩))] at ⊢
   show merged (stored acc p.1 p.2) r = _
   (rewrite [e]; rw [ih (acc ++ [p]) (fun q hq hm => by
    simp only [List.map_append,List.mem_append,List.map_cons,List.map_nil,List.mem_singleton] at hm
    rcases hm with hm | hm
    ·exact h1 q (by simp [hq]) hm
    ·exact h3 (by show p.1 ∈ _; rw [hm.symm]; exact List.mem_map_of_mem hq)) h4] at ⊢)
   simp
 simpa using key l [] (by simp) hn
set_option tactic.hygienic true in
theorem rdKv_of {w:World} {prog:Program} {own:List Addr} {h:Heap} {es:List DictEntry} {ps:List (Str × Value)} (hp:Pairs (PySem.strKind prog w) es ps):∀ {kvs:List (Str × D)},KeysOf (PySem.strKind prog w) es.toArray→ps.map (·.1) = kvs.map (·.1)→RdAll w.params own h (ps.map (·.2)) (kvs.map (·.2))→RdKv w.params own h es kvs:=by
 induction hp with
 | nil =>
  intro kvs _ hm r
  cases kvs with
  | nil => exact .nil
  | cons _ _ => simp at hm
 | @cons e kv es ps h1 h2 h3 ih =>
  intro kvs hk hm r
  cases kvs with
  | nil => simp at hm
  | cons p kvs =>
   simp only [List.map_cons,List.cons.injEq] at hm
   cases r with
   | cons rd rr =>
    have ih:=ih (kvs:=kvs) (fun e he => hk e (by simp at he ⊢; exact .inr he)) hm.2 rr
    left;rcases hk e (by simp) with ⟨k,q1,q2⟩;right
    left;rcases e with ⟨eh,ek,ev⟩;right
    simp only at h1 h2 q1 q2
    cases ek <;> simp [PySem.strKind,Value.isStrOf] at h1 q1
    rename_i x t
    obtain ⟨k',d⟩:=p
    have e3:kv.1 = k':=hm.1
    subst h2
    subst q1
    have e4:x = k':=by rw [e3.symm,h1.symm]
    subst e4
    have e6:eh = PyData.keyHash w.params x:=q2
    rw [e6]
    exact .cons rd ih
theorem Sit.notSys {A:Around} {own:List Addr} {s:Shared} (S:Sit c n A env own lo s):s.heap.objs.size ≠ sysModules:=fun z => by
 left;rcases c.sysm with ⟨a,o,h1,h2⟩;right
 have:=Heap.lt_size (S.ext _ _ h1)
 rw [z] at this
 exact Nat.lt_irrefl _ (Nat.lt_trans this h2)
theorem EV.dict0 {pos:Pos}:EV c n env lo (.Dict [] [] pos) (.dct []):=fun A E s own Q S h =>
 wpAny_Dict_empty (h _ _ ((K2.refl s).push _) (.dct (es:=[]) ⟨S.size,S.notSys⟩ (Heap.get?_push_size _ rfl) .nil))
theorem Sit.opened {A:Around} {own:List Addr} {s:Shared} (S:Sit c n A env own lo s) (o:Obj) {oD:Obj} (hD:(s.heap.push o).get? s.heap.objs.size = some oD) (hot:¬ (oD.cls = .type "tuple"∧∃ vs n,oD.data = .seq vs n)):Sit c n A env (s.heap.objs.size :: own) lo { s with heap:=s.heap.push o } where
 ek:=S.ek
 ao:=S.ao.ext (ext_push _ _)
 ext:=Ext.trans S.ext (ext_push _ _)
 ok:=fun a ha => by
  rcases List.mem_cons.mp ha with rfl | ha
  ·exact ⟨oD,hD,hot⟩
  ·exact S.ok.ext (ext_push _ _) a ha
 base:=fun a ha => by
  rcases List.mem_cons.mp ha with rfl | ha
  ·exact none_of_ext S.ext (none_size _)
  ·exact S.base a ha
 tok:=S.tok
 names:=fun x d e => by
  left;rcases S.names x d e with ⟨v,a,r⟩;right
  exact ⟨v,a.ext (ext_push _ _),(Rd.fresh (more:=[s.heap.objs.size]) (fun q hq => by simp at hq; subst hq; exact none_size _) r).ext (ext_push _ _)⟩
theorem EV.dict {ks:List (Str × Nat × Pos)} {es:List PySem.Expr} {pos:Pos} {kvs:List (Str × D)} {keys:List (Option PySem.Expr)} (x:DV c n env lo pos ks es kvs) (hne:ks ≠ []) (hel:es.length = ks.length) (hn:ks.length ≤ 15) (hnd:(kvs.map (·.1)).Nodup) (hkeys:keys = ks.map fun k => some (.Constant (.str k.1) k.2.1 k.2.2))
  (hshape:(evalEachOpt keys env).zip ((evalEach es env).map fun v => do let x ← v; standAt pos; pure x) = ((ks.map fun k => eval (.Constant (.str k.1) k.2.1 k.2.2) env).zip (es.map fun e => do let x ← eval e env; standAt pos; pure x)).map fun p => (some p.1,p.2)) :
  EV c n env lo (.Dict keys es pos) (.dct kvs):=fun A E s own Q S h => by
 refine wpAny_Dict_pairs (knd:=PySem.strKind c.prog c.w) hshape (fun z => ?_) (by simp [List.length_zip,hel]; omega) (x A E _ (s.heap.objs.size :: own) _ (S.opened _ (Heap.get?_push_size _ rfl) (fun z => by left;rcases z with ⟨_,vs,m,z⟩;right; cases z)) fun vs ps s₁ k hc hm hr => ?_)
 ·have:=congrArg List.length z
  simp [hel] at this
  exact hne this
 ·have hD:s₁.heap.get? s.heap.objs.size = some { cls:=.type "dict",data:=.dict #[] }:=k.ext _ _ (Heap.get?_push_size _ rfl)
  refine ⟨ps,hc,⟨_,#[],_,hD,⟨rfl,rfl,rfl⟩,rfl,fun e he => by simp at he,.nil,by simp⟩,fun h' hd sb => ?_⟩
  have hnd':(ps.map (·.1)).Nodup:=by rw [hm]; exact hnd
  rw [merged_nodup ps hnd'] at hd
  left;rcases hd with ⟨o,es',ep,g1,⟨g2,g3,g4⟩,g5,g6,g7,_⟩;right
  have e1:Ext s.heap h':=fun a o e => (sb.2 a (ne_of_get e)).trans (k.ext _ _ (Heap.get?_push_of_some _ e))
  have kk:K2 s { s₁ with heap:=h',toks:=s₁.toks + vs.length }:=by
   left;rcases k with ⟨⟨hh,tt,z0_,_⟩,ht⟩;right;subst z0_
   exact ⟨⟨_,_,rfl,e1⟩,Nat.le_trans ht (Nat.le_add_right _ _)⟩
  refine h _ _ kk ?_
  left;rcases o with ⟨oc,od,odt,osl⟩;right
  simp only at g2 g3 g4 g5
  subst g2 g3 g4 g5
  -- the values stand off the new dict
  have ok1:OwnOk (s.heap.objs.size :: own) s₁.heap:=fun a ha => by
   rcases List.mem_cons.mp ha with rfl | ha
   ·exact ⟨_,hD,fun z => by left;rcases z with ⟨_,vs,m,z⟩;right; cases z⟩
   ·left;rcases S.ok a ha with ⟨o,q1,q2⟩;right
    exact ⟨o,k.ext _ _ (Heap.get?_push_of_some _ q1),q2⟩
  have hr':RdAll c.w.params own h' (ps.map (·.2)) (kvs.map (·.2)):=(hr.keep ok1 (keep_of (.head _) sb)).sub fun a ha => .tail _ ha
  exact .dct (es:=es'.toList) ⟨S.size,S.notSys⟩ (by simpa using g1) (rdKv_of (prog:=c.prog) g7 (by simpa using g6) hm hr')
end
end
section
open PySem.Builtin.ObjectAttr
theorem AOk.step {c:Cx} {n:Nat} {A B:Around} {h:Heap} (x:AOk c (n + 1) A h) (h1:B.handled = A.handled) (h2:B.depth ≤ A.depth + 1) (h3:B.units ≤ A.units + 8) (h4:B.frames = A.frames):AOk c n B h:=by
 refine ⟨by rw [h1]; exact x.handled,?_,?_,by rw [h4]; exact x.frames⟩
 ·have:=x.depth; omega
 ·have:=x.units; omega
section
variable {c:Cx} {n:Nat} {A:Around} {env:Env} {b:Shared} {co own:List Addr} {ad:Str→List Addr} {lo lo':List (Str × D)} {ow ow':List (Str × OwnD)} {ex:List (Str × Value)} {s s':Shared} {o:Out} {tg:PySem.Expr}
theorem Ex1.unpack {tgs:List PySem.Expr} {k:Nat} {tp pos:Pos} {e:PySem.Expr} {ds:List D} (y:EV c n env lo e (.tup ds)) (t:Tgs c n env ex tgs ds lo ow lo') (hn:autoParam ((assignEach tgs env).length = ds.length) byRfl) (hstar:autoParam ((assignEach tgs env).findIdx? (·.1) = none) byRfl)
  (hs:autoParam (swapsWithSole [.Tuple tgs k tp] e pos.line env = pure false) byRfl) (hw:autoParam (swappedStores [.Tuple tgs k tp] e env = pure none) byRfl):Ex1 c n env ex (.Assign [.Tuple tgs k tp] e pos) lo ow (.next lo' ow):=fun A E b co s ⟨own,ad,S⟩ =>
 Assign_Tuple (y A E s own _ S.sit fun v s₁ kk r => Tg.tuple t hn hstar A E b co own ad s₁ v _ (S.mono kk) r fun s' own' ad' S' => ⟨rfl,own',ad',S'⟩) hs hw
noncomputable def Bns (c:Cx) (n:Nat) (env:Env) (ex:List (Str × Value)) (xs:List Str) (ds:List D) (lo:List (Str × D)) (ow:List (Str × OwnD)) (lo':List (Str × D)):Prop:=
 ∀ (A:Around) (E:Value→Shared→Prop) (b:Shared) (co own:List Addr) (ad:Str→List Addr) (s:Shared) (vs:List Value) (Q:Unit→Shared→Prop),Sto c n A env b co own ad lo ow ex s→RdAll c.w.params own s.heap vs ds →
  (∀ s' own' ad',Sto c n A env b co own' ad' lo' ow ex s'→Q () s')→wpAny (model c.prog c.w) A (assignInOrder (xs.map fun n => bindName env n) vs) Q E s
theorem Bns.nil:Bns c n env ex [] [] lo ow lo:=fun A E b co own ad s vs Q S r h => by
 cases r
 exact wpAny_pure (h _ _ _ S)
theorem Bns.cons {x:Str} {d:D} {xs:List Str} {ds:List D} (hk:canStore env x) (y:Bns c n env ex xs ds ((x,d) :: lo) ow lo') (how:autoParam (ow.lookup x = none) byRfl) (hex:autoParam (ex.lookup x = none) byRfl) :
  Bns c n env ex (x :: xs) (d :: ds) lo ow lo':=fun A E b co own ad s vs Q S r h => by
 cases r with
 | cons r rs =>
  left;rcases S.carry with ⟨b₁,S₁,k1,k2⟩;right
  refine assignInOrder_cons (wpAny_bindName (S₁.store hk how hex fun s' h1 _ => ?_))
  have S₂:=h1 d r
  left;rcases k1 S₂ with ⟨_,mv,_⟩;right
  exact y A E b₁ co own ad s' _ Q S₂ (rs.move S.sit.ok mv) fun s'' own' ad' S₃ => h s'' own' ad' (k1 S₃).1
theorem Ex1.swap {tgs:List PySem.Expr} {k:Nat} {tp pos:Pos} {e:PySem.Expr} {ds:List D} {xs:List Str} (y:EV c n env lo e (.tup ds)) (t:Bns c n env ex xs.reverse ds.reverse lo ow lo') (hn:autoParam (ds.length = xs.length) byRfl)
  (hs:autoParam (swapsWithSole [.Tuple tgs k tp] e pos.line env = pure false) byRfl) (hw:autoParam (swappedStores [.Tuple tgs k tp] e env = pure (some xs)) byRfl):Ex1 c n env ex (.Assign [.Tuple tgs k tp] e pos) lo ow (.next lo' ow):=fun A E b co s ⟨own,ad,S⟩ =>
 Assign_Tuple_swapped (names:=xs) (y A E s own _ S.sit fun v s₁ kk r => by
  left;rcases r.tup_inv with ⟨a,oa,nA,vs,z0_,ea,ca,da,xa⟩;right;subst z0_
  have hlen:=xa.length
  rw [hn.symm,← hlen]
  have:=unpackItems_tuple (prog:=c.prog) (w:=c.w) (E:=E) (A:=A) (s:=s₁) S.sit.ao.handled (t:=a) (items:=vs.toArray) ⟨_,ea,ca,_,da⟩ (Q:=fun items s₂ => wpAny (model c.prog c.w) A (assignInOrder (xs.reverse.map fun n => bindName env n) items.reverse) (fun _ => OutIs c n A env b co ex (.next lo' ow) .next) E s₂) fun h' eb => by
   have e:Ext s₁.heap h':=fun q o hq => eb q o (ne_of_get hq) hq
   have k2:K2 s₁ { s₁ with heap:=h' }:=⟨⟨h',s₁.toks,rfl,e⟩,Nat.le_refl _⟩
   have:=t A E b co own ad { s₁ with heap:=h' } vs.reverse (fun _ => OutIs c n A env b co ex (.next lo' ow) .next) ((S.mono kk).mono k2) ((xa.reverse).ext e) fun s' own' ad' S' => ⟨rfl,own',ad',S'⟩
   simpa using this
  simpa using this) hs hw
set_option tactic.hygienic true in
theorem setattr_dict {E:Value→Shared→Prop} {x C dx:Addr} {es:List DictEntry} {m:Nat} {name:Str} {v:Value} {Q:Unit→Shared→Prop} (X:c.K.In s.heap) (hxd:x ≠ dx) (hx:s.heap.get? x = some (instObj C dx)) (hdx:s.heap.get? dx = some (dictOf es m))
  (hs:findIn c.K (.ref C) "__setattr__" = some (some (.builtin "object.__setattr__"))) (hp:plainOver c.K C = true) (ht:takerIn c.K C name = some none) (hh:hasDictIn c.K C = true) (hl:getL name es = some none) (hz:es.length ≤ 900)
  (h:∀ h',Heap.SameBut dx s.heap h'→h'.get? dx = some (dictOf (es ++ [⟨PyData.keyHash c.w.params name,.str name (s.toks + 1),v⟩]) (m + 1))→Q () { s with heap:=h',toks:=s.toks + 2 }) :
  wpAny (model c.prog c.w) A (setAttr (.ref x) name v) Q E s:=by
 have I:InstAt s.heap x (instObj C dx) C (some (dictOf es m)):=⟨hx,rfl,rfl,hdx⟩
 refine set_plain X I hs (osa_open (s:={ s with toks:=s.toks + 1 }) X I hp ht fun bb => ?_)
 left;rcases any_some hh with ⟨cd,hc,hd'⟩;right
 have hput:Obj.putName name (PyData.keyHash c.w.params name) (.str name (s.toks + 1)) v (dictOf es m) = dictOf (es ++ [⟨PyData.keyHash c.w.params name,.str name (s.toks + 1),v⟩]) (m + 1):=by
  rw [putName_dict]
  have h1:es.find? (fun e => e.key.isStr name) = none:=by
   unfold PySem.W.getL at hl
   cases q:es.find? (fun e => e.key.isStr name) with
   | none => rfl
   | some e => rw [q] at hl; cases hl
  have h2:∀ es':List DictEntry,es'.find? (fun e => e.key.isStr name) = none→putL name (PyData.keyHash c.w.params name) (.str name (s.toks + 1)) v es' = es' ++ [⟨PyData.keyHash c.w.params name,.str name (s.toks + 1),v⟩]:=by
   intro es'
   induction es' with
   | nil => intro _; rfl
   | cons e r ih =>
    intro q
    rw [List.find?_cons] at q
    cases qe:e.key.isStr name with
    | true => rw [qe] at q; cases q
    | false =>
     rw [qe] at q
     unfold putL
     rw [qe]
     simp only [Bool.false_eq_true,if_false]
     rw [ih q]; rfl
  rw [h2 es h1]
  have h3:putN name es m = m + 1:=by
   unfold putN
   rw [if_neg (by
    intro q
    left;rcases List.any_eq_true.mp q with ⟨e,q1,q2⟩;right
    have:=List.find?_eq_none.mp h1 e q1
    exact this q2)] at ⊢
  rw [h3]
 have hD':(s.heap.update dx (Obj.putName name (PyData.keyHash c.w.params name) (.str name (s.toks + 1)) v)).get? dx = some (dictOf (es ++ [⟨PyData.keyHash c.w.params name,.str name (s.toks + 1),v⟩]) (m + 1)):=by
  rw [← hput]
  exact Heap.get?_update_self _ hdx (by rw [hput]; rfl)
 have I2:=I
 left;rcases I2 with ⟨hx',hcl,hn,-⟩;right
 refine wpAny_bind (wpAny_pure (wpAny_bind (wpAny_bind (wpAny_loadPart hx' (wpAny_bind (Looks.here (s:={ s with toks:=s.toks + 1 }) (looks_clsIn (h:=s.heap) X hc) ?_))))))
 rw [hd']
 refine wpAny_pure (a:=some dx) (wpAny_bind (wpAny_pure (wpAny_bind ?_)))
 unfold nsSet
 refine wpAny_bind (wpAny_bind (wpAny_askSetting (wpAny_pure (wpAny_bind (wpAny_mkText (wpAny_bind (wpAny_loadPart hdx ?_)))))))
 have cc:(!es.toArray.any (·.key.isStr name) && es.toArray.any (·.refKey)) = false:=by
  rw [← Array.any_toList,← Array.any_toList]
  unfold PySem.W.getL at hl
  split at hl
  ·cases hl
  ·split at hl
   ·cases hl
   ·rename_i z
    rw [Bool.not_eq_true] at z
    simp only [List.toList_toArray]
    rw [z,Bool.and_false]
 dsimp only
 rw [aRefKeyMayBeTheName_at,cc]
 refine wpAny_updatePart hdx ?_
 refine wpAny_bind (wpAny_lookBehind hD' (pastItsLine_dict (by rw [List.size_toArray,sizeLine_eq]; simp; omega)) ?_)
 exact wpAny_pure (h _ (Heap.SameBut.update ..) hD')
end
end
section
noncomputable def typeD:D→Option String
 | .str _ => some "str"
 | .lst _ => some "list"
 | .int _ => some "int"
 | .none => some "NoneType"
 | _ => none
section
variable {c:Cx} {n:Nat} {A:Around} {env:Env} {b:Shared} {co own:List Addr} {ad:Str→List Addr} {lo lo':List (Str × D)} {ow ow':List (Str × OwnD)} {ex:List (Str × Value)} {s s':Shared} {o:Out} {tg:PySem.Expr}
theorem typeD_is {v:Value} {d:D} {T:String} (r:Rd c.w.params own s.heap v d) (e:typeD d = some T):s.TypeIs v T:=by
 unfold typeD at e
 split at e
 ·cases e; cases r; exact typeIs_str _ _ _
 ·cases e
  cases r with
  | lst na ea ca da xa => exact ⟨_,ea,ca⟩
 ·cases e; cases r; exact typeIs_int _ _ _
 ·cases e; cases r; rfl
 ·cases e
theorem TV.typeIs {e:PySem.Expr} {x y:Str} {p1 p2 pos:Pos} {q:Pos} {op:CmpOp} {d:D} {T U:String} {t:Bool} (g1:GlobIs c env x (.type "type")) (g2:GlobIs c env y (.type U)) (a:EV c n env lo e d) (hT:typeD d = some T) (hop:(op = .Is∧t = (T == U)) ∨ (op = .IsNot∧t = !(T == U)))
  (hnb:autoParam ((Value.type T == Value.type "builtin_function_or_method") = false) byDec) (hp:autoParam (Plain [e] env q) byPl) (he:autoParam (starEach [e] env = (false,eval e env) :: starEach [] env) byRfl) (hd1:autoParam ((x == ("__debug__":Str)) = false) byDec) (hd2:autoParam ((y == ("__debug__":Str)) = false) byDec) :
  TV c n env lo (.Compare (.Call (.Name x p1) [e] [] q) [op] [.Name y p2] pos) t:=fun A E s own Q S h => by
 refine wpAny_isTrue_Compare1 (PyProof.Rows.Call_ (glob_eval g1 S hd1 (callWith_ev KeepF.type (EVs.cons a EVs.nil he) hp S fun vs s₁ k r => ?_))) (by rcases hop with ⟨rfl,_⟩ | ⟨rfl,_⟩ <;> rfl)
 cases r with
 | cons r rn =>
  cases rn
  refine call_type_of (typeD_is (s:=s₁) r hT) hnb (glob_eval g2 (S.mono k) hd2 ?_)
  have e1:isSame (.type T) (.type U) = pure ((Value.type T) == .type U):=isSame_plain rfl
  have e2:((Value.type T) == (Value.type U)) = (T == U):=by
   by_cases z:T = U
   ·subst z; simp
   ·have:(T == U) = false:=by simpa using z
    rw [this]
    simpa using z
  rcases hop with ⟨rfl,rfl⟩ | ⟨rfl,rfl⟩
  ·show wpAny _ A (do return Value.bool (← isSame (.type T) (.type U)):Sem Value) _ E s₁
   rw [e1]
   refine wpAny_bind (wpAny_pure (wpAny_pure (wpAny_truthy_bool ?_)))
   rw [e2]; exact h _ k
  ·show wpAny _ A (do return Value.bool (!(← isSame (.type T) (.type U))):Sem Value) _ E s₁
   rw [e1]
   refine wpAny_bind (wpAny_pure (wpAny_pure (wpAny_truthy_bool ?_)))
   rw [e2]; exact h _ k
structure SetOk (c:Cx) (C:Addr) (name:Str):Prop where
 at_:findIn c.K (.ref C) "__setattr__" = some (some (.builtin "object.__setattr__"))
 plain:plainOver c.K C = true
 taker:takerIn c.K C name = some none
 dict:hasDictIn c.K C = true
theorem RdKv.append {P:Params} {own:List Addr} {h:Heap} {es es':List DictEntry} {kvs kvs':List (Str × D)} (r:RdKv P own h es kvs) (r':RdKv P own h es' kvs'):RdKv P own h (es ++ es') (kvs ++ kvs'):=
 r.ind (m:=fun es kvs => RdKv P own h (es ++ es') (kvs ++ kvs')) r' fun _ _ _ _ _ _ x _ ih => .cons x ih
theorem RdKv.length {P:Params} {own:List Addr} {h:Heap} {es:List DictEntry} {kvs:List (Str × D)} (r:RdKv P own h es kvs):es.length = kvs.length:=
 r.ind (m:=fun es kvs => es.length = kvs.length) rfl fun _ _ _ _ _ _ _ _ ih => congrArg (· + 1) ih
theorem Ex1.setattr {x name:Str} {p p2 pos:Pos} {e:PySem.Expr} {d:D} {C:Addr} {kvs:List (Str × D)} (y:EV c n env (lo ++ frozen ow) e d) (hf:flatD d = true) (hx:ow.lookup x = some (.ins C kvs)) (k:SetOk c C name) (hn:kvs.lookup name = none) (hl:kvs.length ≤ 900) (hd:autoParam ((x == ("__debug__":Str)) = false) byDec) (hcd:autoParam ((x == ("__classdict__":Str)) = false) byDec)
  (hs:autoParam (swapsWith e (some (.Attribute (.Name x p) name p2)) pos.line env = pure false) byRfl) :
  Ex1 c n env ex (.Assign [.Attribute (.Name x p) name p2] e pos) lo ow (.next lo ((x,.ins C (kvs ++ [(name,d)])) :: ow)):=fun A E b co s ⟨own,ad,S⟩ =>
 plainObj_wpAny_Assign_Attribute (y A E s _ _ S.thawed fun v s₁ k1 rv => by
  have S1:=S.mono k1
  left;rcases S1.owns x _ hx with ⟨a,n1,o1,l1⟩;right
  refine wpAny_Name (nameIs_load S1.sit.ek n1 hcd ?_) hd
  left;rcases o1 with ⟨dx,es,m,e1,hne,e2,e3,r⟩;right
  refine setattr_dict S1.sit.K hne e2 e3 k.at_ k.plain k.taker k.dict (r.getL_none hn) (by rw [r.length]; exact hl) fun h' sb ho => ?_
  refine ⟨rfl,own,ad,S1.mut hx (q:=dx) (by rw [e1]; simp) (by omega) sb ho (fun vs z => by cases z) (fun z => by left;rcases z with ⟨_,vs,m,z⟩;right; cases z) fun a' n2 o2 => ?_⟩
  left;rcases o2 with ⟨dx',es',m',e1',hne',e2',e3',r'⟩;right
  rw [e1] at e1'; cases e1'
  rw [e3] at e3'
  have q:es.toArray = es'.toArray∧m = m':=by
   have:=congrArg (fun o => o.map (·.data)) e3'
   simp only [Option.map_some,Option.some.injEq] at this
   injection this with q1 q2
   exact ⟨q1,q2⟩
  have q1:es = es':=by simpa using q.1
  subst q1
  have kp:=keep_of (l1 dx (by rw [e1]; simp)).1 sb
  refine ⟨dx,_,_,e1,hne,(sb.2 a hne).trans e2,ho,?_⟩
  exact (r.keep S1.sit.ok kp).append (.cons ((rv.flat hf).keep S1.sit.ok kp) .nil)) hs
noncomputable def InitOk (c:Cx) (n:Nat) (C fI:Addr) (ds:List D) (kvs:List (Str × D)):Prop:=
 ∀ (A:Around) (s:Shared) (own:List Addr) (vs:List Value) (x dx:Addr) (R:Result→Shared→Prop),AOk c n A s.heap→Ext c.H s.heap→OwnOk own s.heap→(∀ a ∈ own,c.H.get? a = none)→1 ≤ s.toks→RdAll c.w.params (dx :: x :: own) s.heap vs ds →
  s.heap.get? x = some (instObj C dx)→s.heap.get? dx = some (dictOf [] 0)→x ≠ dx→x ∉ own→dx ∉ own→c.H.get? x = none→c.H.get? dx = none →
  (∀ s',(∃ h' tk,s' = { s with heap:=h',toks:=tk })→Keep [x,dx] s.heap s'.heap→s.toks ≤ s'.toks→Rd c.w.params own s'.heap (.ref x) (.inst C kvs)→R (.ok (.ret .none)) s') →
  codeAny (model c.prog c.w) A (.call (.ref fI) ⟨.ref x :: vs,[]⟩) R s
theorem EV.new {C fI:Addr} {x:Str} {p pos:Pos} {es:List PySem.Expr} {ds:List D} {kvs:List (Str × D)} (g:GlobIs c env x (.ref C)) (hk:KeepF c (.ref C)) (hm:makesIn c.K C = true) (hi:findIn c.K (.ref C) "__init__" = some (some (.ref fI))) (hf:isFn c.K (.ref fI) = true)
  (a:EVs c (n + 1) env lo es ds) (I:InitOk c n C fI ds kvs) (hp:autoParam (Plain es env pos) byPl2) (hd:autoParam ((x == ("__debug__":Str)) = false) byDec):EV c (n + 1) env lo (.Call (.Name x p) es [] pos) (.inst C kvs):=fun A E s own Q S h =>
 PyProof.Rows.Call_ (glob_eval g S hd (callWith_ev hk a hp S fun vs s₁ k r => by
  have S1:=S.mono k
  left;rcases s₁ with ⟨hh,g',d',t',os'⟩;right
  refine wpAny_call (make_core (makes_of S1.K hm) (looks_findIn S1.K hi) (fun self => bind_fn S1.K self (beq_iff_eq.mp hf)) (.inl rfl) ?_)
  have e1:Ext hh ((hh.push emptyDict).push (instObj C hh.objs.size)):=Ext.trans (ext_push _ _) (ext_push _ _)
  have hsz:(hh.push emptyDict).objs.size = hh.objs.size + 1:=Heap.size_push ..
  have hxn:hh.get? (hh.objs.size + 1) = Option.none:=by
   cases q:hh.get? (hh.objs.size + 1) with
   | none => rfl
   | some o => exact absurd (Heap.lt_size q) (Nat.not_lt.mpr (Nat.le_succ _))
  have hdn:hh.get? hh.objs.size = Option.none:=none_size _
  have hx:((hh.push emptyDict).push (instObj C hh.objs.size)).get? (hh.objs.size + 1) = some (instObj C hh.objs.size):=by
   rw [hsz.symm]; exact Heap.get?_push_size _ rfl
  have hdx:((hh.push emptyDict).push (instObj C hh.objs.size)).get? hh.objs.size = some (dictOf [] 0):=Heap.get?_push_of_some _ (Heap.get?_push_size _ rfl)
  refine I _ _ own vs (hh.objs.size + 1) hh.objs.size _ ((S1.ao.ext e1).step (B:=A.under (.builtin "type.__call__" ⟨.ref C :: ([] ++ vs),[]⟩)) rfl (Nat.le_of_eq rfl) ?_ ?_) (Ext.trans S1.ext e1) (S1.ok.ext e1) S1.base S1.tok ((RdAll.fresh (more:=[hh.objs.size,hh.objs.size + 1]) (fun a ha => by
   simp at ha
   rcases ha with rfl | rfl
   ·exact hdn
   ·exact hxn) r).ext e1) hx hdx (Nat.succ_ne_self _) (fun z => ?_) (fun z => ?_) (none_of_ext S1.ext hxn) (none_of_ext S1.ext hdn) fun s' hs' kp htk rx => ?_
  ·show A.units + (Code.builtin "type.__call__" ⟨.ref C :: ([] ++ vs),[]⟩).cUnits ≤ A.units + 8
   have e:(Code.builtin "type.__call__" ⟨.ref C :: ([] ++ vs),[]⟩).cUnits = 1:=rfl
   omega
  ·rfl
  ·left;rcases S1.ok _ z with ⟨o,ho,_⟩;right
   have ho:hh.get? (hh.objs.size + 1) = some o:=ho
   rw [hxn] at ho; cases ho
  ·left;rcases S1.ok _ z with ⟨o,ho,_⟩;right
   have ho:hh.get? hh.objs.size = some o:=ho
   rw [hdn] at ho; cases ho
  ·left;rcases hs' with ⟨h',tk,z0_⟩;right;subst z0_
   refine ⟨rfl,h _ _ (k.trans ⟨⟨h',tk,rfl,fun q o e => kp _ _ (fun hm => ?_) (e1 _ _ e)⟩,htk⟩) rx⟩
   simp at hm
   rcases hm with rfl | rfl
   ·rw [hxn] at e; cases e
   ·rw [hdn] at e; cases e))
theorem nameIs_unique {h:Heap} {x:Str} {u v:Value} (a:NameIs env h x u) (b:NameIs env h x v):u = v:=by
 rcases a with ⟨a1,m,a2,a3⟩ | ⟨a1,q,a2,a3⟩ <;> rcases b with ⟨b1,m',b2,b3⟩ | ⟨b1,q',b2,b3⟩
 ·have:=ns_unique a2 b2; subst this
  rw [a3] at b3; cases b3; rfl
 ·rw [a1] at b1; rcases b1 with b1 | b1 <;> cases b1
 ·rw [b1] at a1; rcases a1 with a1 | a1 <;> cases a1
 ·rw [a2] at b2; cases b2
  left;rcases a3 with ⟨o,e1,e2⟩;right
  left;rcases b3 with ⟨o',e3,e4⟩;right
  rw [e1] at e3; cases e3
  rw [e2] at e4; cases e4; rfl
section
variable {name qual:Str} {params:Arguments} {body:List Stmt} {scope:Scope} {dV kV doc pm cdv ct oc:Value} {an od:Option Addr} {osl:Array (Option Value)} {f:Addr}
theorem init_core {C:Addr} {ds:List D} {N:List Str} {ds0:List D} {W:OwnD} {lo₁:List (Str × D)} {ow₁:List (Str × OwnD)} (ho:c.K.lookup f = some ⟨oc,od,.func (fnOf name qual params body scope dV kV doc pm an cdv ct),osl⟩) (hcd:codeIn c.K cdv qual = true)
  (hb:∀ (s:Shared) (own:List Addr) (x:Addr) (vs:List Value),Ext c.H s.heap→RdAll c.w.params own s.heap vs ds→∃ B:List (Str × Value),BindsTo s (fnOf name qual params body scope dV kV doc pm an cdv ct) ⟨.ref x :: vs,[]⟩ (("self",.ref x) :: B)∧B.map (·.1) = N∧RdAll c.w.params own s.heap (B.map (·.2)) ds0)
  (hN:(("self":Str) :: N).Nodup) (hk:(("self":Str) :: N).all (fun y => scope.names.lookup y == some .local || scope.names.lookup y == some .cell) = true)
  (hbody:∀ L x,Ex c n (envOfC qual scope L f cdv) [("self",.ref x)] body (N.zip ds0) [("self",.ins C [])] (.next lo₁ ow₁)) (how:ow₁.lookup (Str.ofString "self") = some W)
  (hco:scope.isCoroutine = false) (hgen:scope.isGenerator = false) (hkind:scope.kind = .function) {A:Around} {s:Shared} {own:List Addr} {vs:List Value} {x dx:Addr} {R:Result→Shared→Prop} (ao:AOk c (n + 1) A s.heap) (ext:Ext c.H s.heap) (ok:OwnOk own s.heap) (base:∀ a ∈ own,c.H.get? a = none) (tok:1 ≤ s.toks) (r:RdAll c.w.params (dx :: x :: own) s.heap vs ds)
  (hx:s.heap.get? x = some (instObj C dx)) (hdx:s.heap.get? dx = some (dictOf [] 0)) (hne:x ≠ dx) (hxo:x ∉ own) (hdo:dx ∉ own) (hxb:c.H.get? x = none) (hdb:c.H.get? dx = none)
  (h:∀ A s' own2 ad,Sto c n A (envOfC qual scope s.heap.objs.size f cdv) { s with heap:=hideAll s.heap [x,dx] } own own2 ad lo₁ ow₁ [("self",.ref x)] s'→s.toks ≤ s'.toks→OwnIs c.w.params own2 s'.heap x W (ad (Str.ofString "self")) →
   (∀ q ∈ ad (Str.ofString "self"),q ∈ own2∧q ∉ own)→R (.ok (.ret .none)) s'):codeAny (model c.prog c.w) A (.call (.ref f) ⟨.ref x :: vs,[]⟩) R s:=by
 left;rcases hb s (dx :: x :: own) x vs ext r with ⟨B,hbind,z0_,rB⟩;right;subst z0_
 have hB':((("self",.ref x) :: B:List (Str × Value)).map (·.1)).Nodup:=hN
 have hk':∀ m,∀ y ∈ (("self",.ref x) :: B:List (Str × Value)),scope.names.lookup y.1 = some .local ∨ (scope.names.lookup y.1 = some .cell∧((cellsFrom m scope.names []).lookup y.1).isSome = true):=kindsX (binds:=("self",.ref x) :: B) (by
  rw [List.all_eq_true] at hk ⊢
  intro y hy
  have:y.1 ∈ (("self":Str) :: B.map (·.1)):=by
   rcases List.mem_cons.mp hy with rfl | hy
   ·simp
   ·exact .tail _ (List.mem_map_of_mem hy)
  exact hk y.1 this)
 have X:c.K.In s.heap:=c.X.keeps ext
 refine codeAny_with_toks (Nat.le_refl s.toks) (codeAny_call_function (by have:=ao.depth; omega) (X _ _ ho) rfl hco hgen rfl (codeRec_of X hcd) (hbind _ _ _ _ ?_))
 refine wpAny_with_toks (Nat.le_refl s.toks) (wpAny_newFunctionEnv_cells hkind (hk' _) fun env he s' xx htk => ?_)
 subst he
 refine ⟨(c.T.nolimit.keeps ext).keeps xx.toInCall.keep,codeAny_func ?_⟩
 have ok2:OwnOk (dx :: x :: own) s.heap:=fun a ha => by
  rcases List.mem_cons.mp ha with rfl | ha
  ·exact ⟨_,hdx,fun z => by left;rcases z with ⟨_,vs,m,z⟩;right; cases z⟩
  ·rcases List.mem_cons.mp ha with rfl | ha
   ·exact ⟨_,hx,fun z => by left;rcases z with ⟨_,vs,m,z⟩;right; cases z⟩
   ·exact ok a ha
 have base2:∀ a ∈ dx :: x :: own,c.H.get? a = none:=fun a ha => by
  rcases List.mem_cons.mp ha with rfl | ha
  ·exact hdb
  ·rcases List.mem_cons.mp ha with rfl | ha
   ·exact hxb
   ·exact base a ha
 obtain ⟨own',ad,S⟩:=entry_sto (n:=n) (qual:=qual) (f:=f) (cdv:=cdv) ao ext ok2 base2 tok htk hkind hB' (hk' _) (lo0:=(B.map (·.1)).zip ds0) (fun y d e => by
   left;rcases zip_lookup rB e with ⟨v,h1,h2⟩;right
   exact ⟨v,.tail _ h1,h2⟩) (ex0:=[("self",.ref x)]) (fun y v e => by
   rw [List.lookup_cons] at e
   by_cases z:(y == ("self":Str)) = true
   ·rw [z] at e; cases e
    have:y = "self" := by simpa using z
    subst this; exact .head _
   ·have z':(y == ("self":Str)) = false:=by simpa using z
    rw [z'] at e; simp at e) xx
 have e0:Ext s.heap s'.heap:=Keeps.ext S.keep
 let bb:Shared:={ s with heap:=hideAll s.heap [x,dx] }
 have kb:Keeps bb s':=by
  left;rcases S.keep with ⟨h',tk,z0_,k⟩;right;subst z0_
  exact ⟨h',tk,rfl,fun a o e => k _ _ (of_hideAll _ e)⟩
 have hid:∀ a ∈ [x,dx],bb.heap.get? a = none:=fun a ha => hideAll_none _ ha
 have S₂:Sto c n (A.deeper (envOfC qual scope s.heap.objs.size f cdv)) (envOfC qual scope s.heap.objs.size f cdv) bb own own' (fun _ => [x,dx]) ((B.map (·.1)).zip ds0) [("self",.ins C [])] [("self",.ref x)] s':={ S with
  coIn:=fun a ha => S.coIn a (.tail _ (.tail _ ha))
  new:=fun a ha => by
   rcases S.new a ha with z | z
   ·rcases List.mem_cons.mp z with rfl | z
    ·exact .inr (hid _ (by simp))
    ·rcases List.mem_cons.mp z with rfl | z
     ·exact .inr (hid _ (by simp))
     ·exact .inl z
   ·exact .inr (none_of_ext (fun a o e => of_hideAll _ e) z)
  keep:=kb
  loc:=⟨S.loc.1,S.loc.2.1,fun z => S.loc.2.2 (.tail _ (.tail _ z))⟩
  cell:=fun y a h1 h2 h3 => by
   left;rcases S.cell y a h1 h2 h3 with ⟨q1,q2,q3⟩;right
   exact ⟨q1,q2,fun z => q3 (.tail _ (.tail _ z))⟩
  owns:=fun y w e => by
   rw [List.lookup_cons] at e
   by_cases z:(y == ("self":Str)) = true
   ·rw [z] at e; cases e
    have:y = "self" := by simpa using z
    subst this
    refine ⟨x,S.exact _ _ rfl,⟨dx,[],0,rfl,hne,e0 _ _ hx,e0 _ _ hdx,.nil⟩,fun q hq => ?_⟩
    simp at hq
    rcases hq with rfl | rfl
    ·exact ⟨S.coIn _ (.tail _ (.head _)),hxo,fun z => S.loc.2.2 (z ▸ .tail _ (.head _))⟩
    ·exact ⟨S.coIn _ (.head _),hdo,fun z => S.loc.2.2 (z ▸ .head _)⟩
   ·have z':(y == ("self":Str)) = false:=by simpa using z
    rw [z'] at e; simp at e
  apart:=fun y z w w' q e e' hn => by
   have f:∀ y w,([("self",OwnD.ins C [])]:List (Str × OwnD)).lookup y = some w→y = "self" := fun y w e => by
    rw [List.lookup_cons] at e
    by_cases z:(y == ("self":Str)) = true
    ·simpa using z
    ·have z':(y == ("self":Str)) = false:=by simpa using z
     rw [z'] at e; simp at e
   exact absurd ((f y w e).trans (f z w' e').symm) hn }
 refine wpAny_mono (hbody _ x _ _ bb own s' ⟨own',_,S₂⟩) (fun fl s'' ho hts => ?_) fun _ _ z => z
 left;rcases ho with ⟨z0_,own'',ad'',S₃⟩;right;subst z0_
 left;rcases S₃.owns _ _ how with ⟨a,n1,o1,l1⟩;right
 have ha:a = x:=by
  have:=nameIs_unique n1 (S₃.exact "self" (.ref x) rfl)
  injection this
 subst ha
 exact h _ s'' own'' ad'' S₃ hts o1 fun q hq => ⟨(l1 q hq).1,(l1 q hq).2.1⟩
theorem InitOk.def {C:Addr} {ds:List D} {N:List Str} {ds0:List D} {kvs:List (Str × D)} {lo₁:List (Str × D)} {ow₁:List (Str × OwnD)} (ho:c.K.lookup f = some ⟨oc,od,.func (fnOf name qual params body scope dV kV doc pm an cdv ct),osl⟩) (hcd:codeIn c.K cdv qual = true)
  (hb:∀ (s:Shared) (own:List Addr) (x:Addr) (vs:List Value),Ext c.H s.heap→RdAll c.w.params own s.heap vs ds→∃ B:List (Str × Value),BindsTo s (fnOf name qual params body scope dV kV doc pm an cdv ct) ⟨.ref x :: vs,[]⟩ (("self",.ref x) :: B)∧B.map (·.1) = N∧RdAll c.w.params own s.heap (B.map (·.2)) ds0)
  (hN:(("self":Str) :: N).Nodup) (hk:(("self":Str) :: N).all (fun y => scope.names.lookup y == some .local || scope.names.lookup y == some .cell) = true)
  (hbody:∀ L x,Ex c n (envOfC qual scope L f cdv) [("self",.ref x)] body (N.zip ds0) [("self",.ins C [])] (.next lo₁ ow₁)) (how:ow₁.lookup (Str.ofString "self") = some (.ins C kvs))
  (hco:autoParam (scope.isCoroutine = false) byRfl) (hgen:autoParam (scope.isGenerator = false) byRfl) (hkind:autoParam (scope.kind = .function) byRfl):InitOk c (n + 1) C f ds kvs:=fun A s own vs x dx R ao ext ok base tok r hx hdx hne hxo hdo hxb hdb h =>
 init_core ho hcd hb hN hk hbody how hco hgen hkind ao ext ok base tok r hx hdx hne hxo hdo hxb hdb fun A s' own2 ad S hts o1 l1 =>
  h s' (let ⟨h',tk,e,_⟩:=S.keep; ⟨h',tk,e⟩) (fun q o nq e => (Keeps.ext S.keep) _ _ (hideAll_get _ e nq)) hts (o1.froze (fun q hq => S.coIn q hq) fun q hq => (l1 q hq).2)
end
end
end
section
section
variable {c:Cx} {n:Nat} {A:Around} {env:Env} {b:Shared} {co own:List Addr} {ad:Str→List Addr} {lo lo':List (Str × D)} {ow ow':List (Str × OwnD)} {ex:List (Str × Value)} {s s':Shared} {o:Out} {tg:PySem.Expr}
theorem EV.clsStr {x name:Str} {p pos:Pos} {C:Addr} {mc:Value} {y:Str} {t:Tok} (g:GlobIs c env x (.ref C)) (hr:readsIn c.K C mc = true) (e:findCls c.K (.ref C) mc name = some (.val (.str y t)))
  (he:autoParam (eval (.Attribute (.Name x p) name pos) env = (do
   let ov ← eval (.Name x p) env
   standAt pos.atName
   let r ← holding [ov] (getAttr ov name true)
   letTemporaryGo (.Name x p) ov r
   pure r)) byRfl) (hd:autoParam ((x == ("__debug__":Str)) = false) byDec):EV c n env lo (.Attribute (.Name x p) name pos) (.str y):=fun A E s own Q S h => by
 rw [he]
 refine wpAny_bind (glob_eval g S hd ?_)
 refine wpAny_bind (wpAny_standAt (wpAny_bind (wpAny_holding (cls_value S.K hr e rfl ?_))))
 exact wpAny_bind (wpAny_letTemporaryGo (wpAny_pure (h _ _ ⟨keeps_toks _ _,Nat.le_succ _⟩ (.str _ _))))
theorem Ex1.assign3 {x y z:Str} {p1 p2 p3 pos:Pos} {e:PySem.Expr} {i:Int} (v:EV c n env lo e (.int i)) (h1:canStore env x) (h2:canStore env y) (h3:canStore env z) (o1:autoParam (ow.lookup x = none) byRfl) (o2:autoParam (ow.lookup y = none) byRfl) (o3:autoParam (ow.lookup z = none) byRfl) (e1:autoParam (ex.lookup x = none) byRfl) (e2:autoParam (ex.lookup y = none) byRfl) (e3:autoParam (ex.lookup z = none) byRfl)
  (hs:autoParam (swapsWithSole [.Name x p1,.Name y p2,.Name z p3] e pos.line env = pure false) byRfl) (hw:autoParam (swappedStores [.Name x p1,.Name y p2,.Name z p3] e env = pure none) byRfl) :
  Ex1 c n env ex (.Assign [.Name x p1,.Name y p2,.Name z p3] e pos) lo ow (.next ((z,.int i) :: (y,.int i) :: (x,.int i) :: lo) ow):=fun A E b co s ⟨own,ad,S⟩ => by
 rw [PyProof.Rows.exec_Assign]
 refine wpAny_bind (wpAny_standAt ?_)
 rw [hs]
 refine wpAny_bind (wpAny_pure ?_)
 rw [if_neg (by decide)] at ⊢
 refine wpAny_bind (v A E s own _ S.sit fun u s₁ k r => ?_)
 rw [hw]
 refine wpAny_bind (wpAny_pure ?_)
 obtain ⟨t,rfl⟩:=r.int_inv
 show wpAny _ A (do (do holding [.int i t] (PySem.assign (.Name x p1) env (.int i t)); (do holding [.int i t] (PySem.assign (.Name y p2) env (.int i t)); PySem.assign (.Name z p3) env (.int i t))); pure Flow.next) _ E s₁
 refine wpAny_bind (wpAny_bind (wpAny_holding (wpAny_assign_Name ((S.mono k).store h1 o1 e1 fun s2 q1 _ => ?_))))
 refine wpAny_bind (wpAny_holding (wpAny_assign_Name ((q1 _ (.int i t)).store h2 o2 e2 fun s3 q2 _ => ?_)))
 refine wpAny_assign_Name ((q2 _ (.int i t)).store h3 o3 e3 fun s4 q3 _ => ?_)
 exact wpAny_pure ⟨rfl,own,ad,q3 _ (.int i t)⟩
theorem Ex1.refresh {x:Str} {p pos:Pos} {e:PySem.Expr} {ds:List D} (y:EVF c n env (lo ++ frozen ow) e ds) (hf:flatDs ds = true) (hk:canStore env x) (ho:SubO ow' ow) (how:autoParam (ow'.lookup x = none) byRfl) (hlo:autoParam (lo.lookup x = none) byRfl) (hex:autoParam (ex.lookup x = none) byRfl) (hs:autoParam (swapsWith e (some (.Name x p)) pos.line env = pure false) byRfl) :
  Ex1 c n env ex (.Assign [.Name x p] e pos) lo ow (.next lo ((x,.lst ds) :: ow')):=fun A E b co s ⟨own,ad,S⟩ =>
 wpAny_Assign_Name (y A E s _ _ S.thawed fun a vs m s₁ k h1 h2 r => by
  have S':=(S.weak (lo':=lo) (fun _ _ e => e) ho.at).grow k h1 h2 (fun z => not_tuple z.1)
  refine S'.store hk how hex fun s' _ h' => ?_
  refine ⟨rfl,a :: own,_,h' a (.lst ds) [a] rfl ⟨rfl,vs,m,h2,r.flat hf⟩ ?_ ?_ hlo⟩
  ·intro q hq
   simp at hq; subst hq
   refine ⟨.head _,fun z => S.held h1 (S.coIn _ z),fun z => ?_⟩
   subst z
   left;rcases S.loc.1 with ⟨mm,o,_,_,ho,_⟩;right
   rw [h1] at ho; cases ho
  ·intro z w' hz q hq hm
   simp at hq; subst hq
   left;rcases S.owns z w' (ho.at _ _ hz) with ⟨_,_,_,l1⟩;right
   exact S.held h1 (l1 _ hm).1) hs
end
end
section
section heapK
noncomputable abbrev nope:Stmt:=.Pass ⟨0,0,0,0⟩
noncomputable abbrev stK (i:Nat):Stmt:=PySem.Challenge.pw_pe0268_01.main.body.getD i nope
noncomputable abbrev msK (i j:Nat):Stmt:=match stK i with
 | .ClassDef _ _ _ b _ _ _ _ _ _ _ => b.getD j nope
 | _ => nope
noncomputable def foK (s:Stmt) (q:String) (d kd:Value) (m:String) (mt:Nat) (co:Addr):Obj:=match s with
 | .FunctionDef n a b _ _ _ sc _ _ _ => { cls:=.type "function",data:=.func { name:=n,qualname:=Str.ofString q,params:=a,body:=.stmts b,scope:=sc,globals:=3,closure:=[],defaults:=d,kwdefaults:=kd,pyModule:=.str (Str.ofString m) mt,code:=.ref co } }
 | _ => { cls:=.none,data:=.plain }
noncomputable abbrev coK (l:Array Value):Obj:={ cls:=.type "code",data:=.fields l }
noncomputable abbrev tuK (l:Array Value):Obj:={ cls:=.type "tuple",data:=.seq l }
noncomputable abbrev eK (P:Params) (k:String) (t:Nat) (v:Value):DictEntry:={ hash:=PyData.keyHash P (Str.ofString k),key:=.str (Str.ofString k) t,val:=v }
noncomputable abbrev eS (P:Params) (k:Str) (t:Nat) (v:Value):DictEntry:={ hash:=PyData.keyHash P k,key:=.str k t,val:=v }
noncomputable abbrev iK (n:Int):Value:=.int n 0
noncomputable abbrev rK (n:Addr):Value:=.ref n
noncomputable abbrev tK (s:String) (t:Nat):Value:=.str (Str.ofString s) t
noncomputable def heapK:Params→Frag:=fun P => [
 (2,{ cls:=.none,data:=.dict #[eS P ⟨#[105,109,112,111,114,116,46,108,111,97,100,101,100,46,95,115,114,101]⟩ 183 (.bool true),eK P "class._frozen_importlib.BuiltinImporter" 185 (rK 14),eS P ⟨#[119,97,116,99,104,101,100,46,105,109,112,111,114,116]⟩ 206 (rK 18),eK P "class._frozen_importlib.ModuleSpec" 216 (rK 22),eK P "sys.modules.booked-epoch" 245 (iK 3),eS P ⟨#[105,109,112,111,114,116,46,108,97,116,101,114,45,108,97,105,100,46,95,115,114,101]⟩ 270 (.bool true),eK P "watched.library" 272 (rK 27),eK P "watched.library-objects" 0 (tK "\x0c" 0),eK P "watched.library-deep._sre" 273 (tK "\x04\x00\x00\x0b\x04\x00\x00\x0b\x04\x00\x00\x03\x04\x00\x00\x0b\x08\x04dict\x02" 0)] 9 }),
 (3,{ cls:=.type "dict",data:=.dict #[eK P "__name__" 165 (tK "law_pe0268_01" 666),eK P "__doc__" 166 (.none),eK P "__package__" 167 (.none),eK P "__loader__" 168 (.builtin "__main__.__loader__#opaque"),eK P "__spec__" 169 (.none),eK P "__annotations__" 170 (rK 6),eK P "__builtins__" 171 (rK 4),eK P "__file__" 173 (tK "/claim/cut.py" 172),eK P "__cached__" 174 (.none),eK P "_sre" 275 (rK 12),eK P "_wall" 288 (rK 38),eK P "tspecials" 324 (rK 43),eK P "_name_disallowed_re" 350 (rK 48),eK P "_value_disallowed_re" 384 (rK 53),eK P "_formatparam" 394 (rK 61),eK P "Headers" 551 (rK 182),eK P "Whitespace" 656 (rK 248),eK P "format_witnesses" 665 (rK 259),eK P "_law_headers" 673 (rK 264),eK P "_law_line" 686 (rK 271),eK P "_law_pieces" 695 (rK 278),eK P "_law_folded" 706 (rK 285),eK P "_law_put" 716 (rK 292),eK P "_law_page" 722 (rK 297),eK P "_law_read" 734 (rK 304),eK P "_law_columns" 746 (rK 311),eK P "_law_taken" 752 (rK 316),eK P "_law_tried" 761 (rK 323),eK P "_law_told" 767 (rK 328),eK P "_law_due" 773 (rK 333),eK P "law" 781 (rK 340)] 31 }),
 (32,tuK #[]),
 (34,tuK #[tK "k" 285]),
 (35,tuK #[]),
 (37,coK #[tK "_wall" 282,tK "_wall" 283,tK "/claim/cut.py" 284,iK 2,iK 1,iK 0,iK 0,iK 3,rK 32,.bool true,iK 276,rK 33,.none,rK 34,rK 35,rK 36,iK 286,iK 2,tK "/claim/cut.py" 287]),
 (38,foK (stK 1) "_wall" (.none) (.none) "__main__" 164 37),
 (42,tuK #[iK 14,iK 14,iK 4,iK 1,iK 1,iK 9,iK 0,iK 4227896069,iK 939524097,iK 0,iK 0,iK 0,iK 0,iK 0,iK 0,iK 13,iK 11,iK 9,iK 0,iK 4227896069,iK 939524097,iK 0,iK 0,iK 0,iK 0,iK 0,iK 0,iK 1]),
 (43,{ cls:=.type "re.Pattern",data:=.fields #[tK "[ \\(\\)<>@,;:\\\\\"/\\[\\]\\?=]" 292,.int 32 323,iK 0,.none,.none,rK 42,iK 0] }),
 (47,tuK #[iK 14,iK 10,iK 4,iK 1,iK 1,iK 22,iK 0,iK 31,iK 16,iK 127,iK 0,iK 13,iK 7,iK 22,iK 0,iK 31,iK 16,iK 127,iK 0,iK 1]),
 (48,{ cls:=.type "re.Pattern",data:=.fields #[tK "[\\x00-\\x1F\\x7F]" 326,.int 32 349,iK 0,.none,.none,rK 47,iK 0] }),
 (52,tuK #[iK 14,iK 14,iK 4,iK 1,iK 1,iK 9,iK 4294966783,iK 0,iK 0,iK 2147483648,iK 0,iK 0,iK 0,iK 0,iK 0,iK 13,iK 11,iK 9,iK 4294966783,iK 0,iK 0,iK 2147483648,iK 0,iK 0,iK 0,iK 0,iK 0,iK 1]),
 (53,{ cls:=.type "re.Pattern",data:=.fields #[tK "[\\x00-\\x08\\x0A-\\x1F\\x7F]" 352,.int 32 383,iK 0,.none,.none,rK 52,iK 0] }),
 (54,tuK #[.none,.int 1 385]),
 (55,tuK #[]),
 (57,tuK #[tK "param" 389,tK "value" 390,tK "quote" 391]),
 (58,tuK #[]),
 (60,coK #[tK "_formatparam" 386,tK "_formatparam" 387,tK "/claim/cut.py" 388,iK 9,iK 3,iK 0,iK 0,iK 3,rK 55,.bool true,iK 276,rK 56,.none,rK 57,rK 58,rK 59,iK 392,iK 9,tK "/claim/cut.py" 393]),
 (61,foK (stK 6) "_formatparam" (rK 54) (.none) "cpy313.wsgiref.headers" 289 60),
 (69,tuK #[.none]),
 (70,tuK #[]),
 (72,tuK #[tK "self" 410,tK "headers" 411,tK "k" 412,tK "v" 413]),
 (73,tuK #[]),
 (75,coK #[tK "__init__" 407,tK "Headers.__init__" 408,tK "/claim/cut.py" 409,iK 20,iK 2,iK 0,iK 0,iK 3,rK 70,.bool true,iK 276,rK 71,.none,rK 72,rK 73,rK 74,iK 414,iK 20,tK "/claim/cut.py" 415]),
 (76,foK (msK 7 0) "Headers.__init__" (rK 69) (.none) "cpy313.wsgiref.headers" 289 75),
 (77,tuK #[]),
 (79,tuK #[tK "self" 420,tK "value" 421,tK "name" 422,tK "regex" 423]),
 (80,tuK #[]),
 (82,coK #[tK "_convert_string_type" 417,tK "Headers._convert_string_type" 418,tK "/claim/cut.py" 419,iK 30,iK 2,iK 0,iK 1,iK 3,rK 77,.bool true,iK 276,rK 78,.none,rK 79,rK 80,rK 81,iK 424,iK 30,tK "/claim/cut.py" 425]),
 (83,foK (msK 7 1) "Headers._convert_string_type" (.none) (.none) "cpy313.wsgiref.headers" 289 82),
 (84,tuK #[]),
 (86,tuK #[tK "self" 430]),
 (87,tuK #[]),
 (89,coK #[tK "__len__" 427,tK "Headers.__len__" 428,tK "/claim/cut.py" 429,iK 38,iK 1,iK 0,iK 0,iK 3,rK 84,.bool true,iK 276,rK 85,.none,rK 86,rK 87,rK 88,iK 431,iK 38,tK "/claim/cut.py" 432]),
 (90,foK (msK 7 2) "Headers.__len__" (.none) (.none) "cpy313.wsgiref.headers" 289 89),
 (91,tuK #[]),
 (93,tuK #[tK "self" 437,tK "name" 438,tK "val" 439]),
 (94,tuK #[]),
 (96,coK #[tK "__setitem__" 434,tK "Headers.__setitem__" 435,tK "/claim/cut.py" 436,iK 41,iK 3,iK 0,iK 0,iK 3,rK 91,.bool true,iK 276,rK 92,.none,rK 93,rK 94,rK 95,iK 440,iK 41,tK "/claim/cut.py" 441]),
 (97,foK (msK 7 3) "Headers.__setitem__" (.none) (.none) "cpy313.wsgiref.headers" 289 96),
 (98,tuK #[]),
 (101,coK #[tK "__delitem__" 443,tK "Headers.__delitem__" 444,tK "/claim/cut.py" 445,iK 45,iK 2,iK 0,iK 0,iK 3,rK 98,.bool true,iK 276,rK 99,.none,.none,.none,rK 100,iK 446,iK 45,tK "/claim/cut.py" 447]),
 (102,foK (msK 7 4) "Headers.__delitem__" (.none) (.none) "cpy313.wsgiref.headers" 289 101),
 (103,tuK #[]),
 (105,tuK #[tK "self" 452,tK "name" 453]),
 (106,tuK #[]),
 (108,coK #[tK "__getitem__" 449,tK "Headers.__getitem__" 450,tK "/claim/cut.py" 451,iK 49,iK 2,iK 0,iK 0,iK 3,rK 103,.bool true,iK 276,rK 104,.none,rK 105,rK 106,rK 107,iK 454,iK 49,tK "/claim/cut.py" 455]),
 (109,foK (msK 7 5) "Headers.__getitem__" (.none) (.none) "cpy313.wsgiref.headers" 289 108),
 (110,tuK #[]),
 (112,tuK #[tK "self" 460,tK "name" 461]),
 (113,tuK #[]),
 (115,coK #[tK "__contains__" 457,tK "Headers.__contains__" 458,tK "/claim/cut.py" 459,iK 52,iK 2,iK 0,iK 0,iK 3,rK 110,.bool true,iK 276,rK 111,.none,rK 112,rK 113,rK 114,iK 462,iK 52,tK "/claim/cut.py" 463]),
 (116,foK (msK 7 6) "Headers.__contains__" (.none) (.none) "cpy313.wsgiref.headers" 289 115),
 (117,tuK #[]),
 (120,coK #[tK "get_all" 465,tK "Headers.get_all" 466,tK "/claim/cut.py" 467,iK 55,iK 2,iK 0,iK 0,iK 3,rK 117,.bool true,iK 276,rK 118,.none,.none,.none,rK 119,iK 468,iK 55,tK "/claim/cut.py" 469]),
 (121,foK (msK 7 7) "Headers.get_all" (.none) (.none) "cpy313.wsgiref.headers" 289 120),
 (122,tuK #[.none]),
 (123,tuK #[]),
 (125,tuK #[tK "self" 474,tK "name" 475,tK "default" 476,tK "k" 477,tK "v" 478]),
 (126,tuK #[]),
 (128,coK #[tK "get" 471,tK "Headers.get" 472,tK "/claim/cut.py" 473,iK 59,iK 3,iK 0,iK 0,iK 3,rK 123,.bool true,iK 276,rK 124,.none,rK 125,rK 126,rK 127,iK 479,iK 59,tK "/claim/cut.py" 480]),
 (129,foK (msK 7 8) "Headers.get" (rK 122) (.none) "cpy313.wsgiref.headers" 289 128),
 (130,tuK #[]),
 (133,coK #[tK "keys" 482,tK "Headers.keys" 483,tK "/claim/cut.py" 484,iK 66,iK 1,iK 0,iK 0,iK 3,rK 130,.bool true,iK 276,rK 131,.none,.none,.none,rK 132,iK 485,iK 66,tK "/claim/cut.py" 486]),
 (134,foK (msK 7 9) "Headers.keys" (.none) (.none) "cpy313.wsgiref.headers" 289 133),
 (135,tuK #[]),
 (138,coK #[tK "values" 488,tK "Headers.values" 489,tK "/claim/cut.py" 490,iK 69,iK 1,iK 0,iK 0,iK 3,rK 135,.bool true,iK 276,rK 136,.none,.none,.none,rK 137,iK 491,iK 69,tK "/claim/cut.py" 492]),
 (139,foK (msK 7 10) "Headers.values" (.none) (.none) "cpy313.wsgiref.headers" 289 138),
 (140,tuK #[]),
 (142,tuK #[tK "self" 497]),
 (143,tuK #[]),
 (145,coK #[tK "items" 494,tK "Headers.items" 495,tK "/claim/cut.py" 496,iK 72,iK 1,iK 0,iK 0,iK 3,rK 140,.bool true,iK 276,rK 141,.none,rK 142,rK 143,rK 144,iK 498,iK 72,tK "/claim/cut.py" 499]),
 (146,foK (msK 7 11) "Headers.items" (.none) (.none) "cpy313.wsgiref.headers" 289 145),
 (147,tuK #[]),
 (149,tuK #[tK "self" 504]),
 (150,tuK #[]),
 (152,coK #[tK "__repr__" 501,tK "Headers.__repr__" 502,tK "/claim/cut.py" 503,iK 75,iK 1,iK 0,iK 0,iK 3,rK 147,.bool true,iK 276,rK 148,.none,rK 149,rK 150,rK 151,iK 505,iK 75,tK "/claim/cut.py" 506]),
 (153,foK (msK 7 12) "Headers.__repr__" (.none) (.none) "cpy313.wsgiref.headers" 289 152),
 (154,tuK #[]),
 (157,coK #[tK "__str__" 508,tK "Headers.__str__" 509,tK "/claim/cut.py" 510,iK 78,iK 1,iK 0,iK 0,iK 3,rK 154,.bool true,iK 276,rK 155,.none,.none,.none,rK 156,iK 511,iK 78,tK "/claim/cut.py" 512]),
 (158,foK (msK 7 13) "Headers.__str__" (.none) (.none) "cpy313.wsgiref.headers" 289 157),
 (159,tuK #[]),
 (161,tuK #[tK "self" 517]),
 (162,tuK #[]),
 (164,coK #[tK "__bytes__" 514,tK "Headers.__bytes__" 515,tK "/claim/cut.py" 516,iK 81,iK 1,iK 0,iK 0,iK 3,rK 159,.bool true,iK 276,rK 160,.none,rK 161,rK 162,rK 163,iK 518,iK 81,tK "/claim/cut.py" 519]),
 (165,foK (msK 7 14) "Headers.__bytes__" (.none) (.none) "cpy313.wsgiref.headers" 289 164),
 (166,tuK #[]),
 (168,tuK #[tK "self" 524,tK "name" 525,tK "value" 526]),
 (169,tuK #[]),
 (171,coK #[tK "setdefault" 521,tK "Headers.setdefault" 522,tK "/claim/cut.py" 523,iK 84,iK 3,iK 0,iK 0,iK 3,rK 166,.bool true,iK 276,rK 167,.none,rK 168,rK 169,rK 170,iK 527,iK 84,tK "/claim/cut.py" 528]),
 (172,foK (msK 7 15) "Headers.setdefault" (.none) (.none) "cpy313.wsgiref.headers" 289 171),
 (173,tuK #[]),
 (175,tuK #[tK "self" 533,tK "_name" 534,tK "_value" 535,tK "_params" 536,tK "parts" 537,tK "k" 538,tK "v" 539]),
 (176,tuK #[]),
 (178,coK #[tK "add_header" 530,tK "Headers.add_header" 531,tK "/claim/cut.py" 532,iK 87,iK 3,iK 0,iK 0,iK 11,rK 173,.bool true,iK 276,rK 174,.none,rK 175,rK 176,rK 177,iK 540,iK 87,tK "/claim/cut.py" 541]),
 (179,foK (msK 7 16) "Headers.add_header" (.none) (.none) "cpy313.wsgiref.headers" 289 178),
 (180,tuK #[tK "_headers" 543]),
 (181,{ cls:=.type "dict",data:=.dict #[eK P "__module__" 402 (tK "cpy313.wsgiref.headers" 289),eK P "__firstlineno__" 406 (.int 18 405),eK P "__init__" 416 (rK 76),eK P "_convert_string_type" 426 (rK 83),eK P "__len__" 433 (rK 90),eK P "__setitem__" 442 (rK 97),eK P "__delitem__" 448 (rK 102),eK P "__getitem__" 456 (rK 109),eK P "__contains__" 464 (rK 116),eK P "get_all" 470 (rK 121),eK P "get" 481 (rK 129),eK P "keys" 487 (rK 134),eK P "values" 493 (rK 139),eK P "items" 500 (rK 146),eK P "__repr__" 507 (rK 153),eK P "__str__" 513 (rK 158),eK P "__bytes__" 520 (rK 165),eK P "setdefault" 529 (rK 172),eK P "add_header" 542 (rK 179),eK P "__static_attributes__" 544 (rK 180),eK P "__dict__" 546 (rK 183),eK P "__weakref__" 548 (rK 184),eK P "__doc__" 549 (.none)] 4 }),
 (182,{ cls:=.type "type",data:=.cls { name:=Str.ofString "Headers",bases:=[.type "object"],mro:=[rK 182,.type "object"],ns:=181,qualname:=Str.ofString "Headers" },slots:=#[none,none,some (tK "Headers" 395),some (tK "Headers" 403),some (.builtin "object.__new__"),some (.bool true)] }),
 (183,{ cls:=.type "getset_descriptor",data:=.fields #[tK "__dict__" 545,rK 182,.builtin "function.__dict__",.builtin "function.__dict__#set"] }),
 (184,{ cls:=.type "getset_descriptor",data:=.fields #[tK "__weakref__" 547,rK 182,.builtin "ExceptionGroup.__weakref__",.none] }),
 (197,tuK #[]),
 (199,tuK #[tK "self" 574,tK "ws" 575,tK "S" 576,tK "T" 577,tK "count" 578,tK "b" 579,tK "n" 580,tK "nt" 581,tK "ch" 582]),
 (200,tuK #[]),
 (202,coK #[tK "__init__" 571,tK "Whitespace.__init__" 572,tK "/claim/cut.py" 573,iK 104,iK 2,iK 0,iK 0,iK 3,rK 197,.bool true,iK 276,rK 198,.none,rK 199,rK 200,rK 201,iK 583,iK 104,tK "/claim/cut.py" 584]),
 (203,foK (msK 9 1) "Whitespace.__init__" (.none) (.none) "cpy313.tabnanny" 552 202),
 (204,tuK #[]),
 (206,tuK #[tK "self" 589,tK "count" 590,tK "trailing" 591]),
 (207,tuK #[]),
 (209,coK #[tK "longest_run_of_spaces" 586,tK "Whitespace.longest_run_of_spaces" 587,tK "/claim/cut.py" 588,iK 127,iK 1,iK 0,iK 0,iK 3,rK 204,.bool true,iK 276,rK 205,.none,rK 206,rK 207,rK 208,iK 592,iK 127,tK "/claim/cut.py" 593]),
 (210,foK (msK 9 2) "Whitespace.longest_run_of_spaces" (.none) (.none) "cpy313.tabnanny" 552 209),
 (211,tuK #[]),
 (213,tuK #[tK "self" 598,tK "tabsize" 599,tK "count" 600,tK "trailing" 601,tK "il" 602,tK "i" 603]),
 (214,tuK #[]),
 (216,coK #[tK "indent_level" 595,tK "Whitespace.indent_level" 596,tK "/claim/cut.py" 597,iK 131,iK 2,iK 0,iK 0,iK 3,rK 211,.bool true,iK 276,rK 212,.none,rK 213,rK 214,rK 215,iK 604,iK 131,tK "/claim/cut.py" 605]),
 (217,foK (msK 9 3) "Whitespace.indent_level" (.none) (.none) "cpy313.tabnanny" 552 216),
 (218,tuK #[]),
 (220,tuK #[tK "self" 610,tK "other" 611]),
 (221,tuK #[]),
 (223,coK #[tK "equal" 607,tK "Whitespace.equal" 608,tK "/claim/cut.py" 609,iK 138,iK 2,iK 0,iK 0,iK 3,rK 218,.bool true,iK 276,rK 219,.none,rK 220,rK 221,rK 222,iK 612,iK 138,tK "/claim/cut.py" 613]),
 (224,foK (msK 9 4) "Whitespace.equal" (.none) (.none) "cpy313.tabnanny" 552 223),
 (225,tuK #[]),
 (227,tuK #[tK "self" 618,tK "other" 619]),
 (228,tuK #[]),
 (230,coK #[tK "not_equal_witness" 615,tK "Whitespace.not_equal_witness" 616,tK "/claim/cut.py" 617,iK 141,iK 2,iK 0,iK 0,iK 3,rK 225,.bool true,iK 276,rK 226,.none,rK 227,rK 228,rK 229,iK 620,iK 141,tK "/claim/cut.py" 621]),
 (231,foK (msK 9 5) "Whitespace.not_equal_witness" (.none) (.none) "cpy313.tabnanny" 552 230),
 (232,tuK #[]),
 (234,tuK #[tK "self" 626,tK "other" 627,tK "n" 628,tK "ts" 629]),
 (235,tuK #[]),
 (237,coK #[tK "less" 623,tK "Whitespace.less" 624,tK "/claim/cut.py" 625,iK 144,iK 2,iK 0,iK 0,iK 3,rK 232,.bool true,iK 276,rK 233,.none,rK 234,rK 235,rK 236,iK 630,iK 144,tK "/claim/cut.py" 631]),
 (238,foK (msK 9 6) "Whitespace.less" (.none) (.none) "cpy313.tabnanny" 552 237),
 (239,tuK #[]),
 (241,tuK #[tK "self" 636,tK "other" 637,tK "n" 638,tK "a" 639,tK "ts" 640]),
 (242,tuK #[]),
 (244,coK #[tK "not_less_witness" 633,tK "Whitespace.not_less_witness" 634,tK "/claim/cut.py" 635,iK 155,iK 2,iK 0,iK 0,iK 3,rK 239,.bool true,iK 276,rK 240,.none,rK 241,rK 242,rK 243,iK 641,iK 155,tK "/claim/cut.py" 642]),
 (245,foK (msK 9 7) "Whitespace.not_less_witness" (.none) (.none) "cpy313.tabnanny" 552 244),
 (246,tuK #[tK "is_simple" 644,tK "n" 645,tK "norm" 646,tK "nt" 647,tK "raw" 648]),
 (247,{ cls:=.type "dict",data:=.dict #[eK P "__module__" 561 (tK "cpy313.tabnanny" 552),eK P "__firstlineno__" 565 (.int 101 564),eK P "S" 569 (tK " " 567),eK P "T" 570 (tK "\t" 568),eK P "__init__" 585 (rK 203),eK P "longest_run_of_spaces" 594 (rK 210),eK P "indent_level" 606 (rK 217),eK P "equal" 614 (rK 224),eK P "not_equal_witness" 622 (rK 231),eK P "less" 632 (rK 238),eK P "not_less_witness" 643 (rK 245),eK P "__static_attributes__" 649 (rK 246),eK P "__dict__" 651 (rK 249),eK P "__weakref__" 653 (rK 250),eK P "__doc__" 654 (.none)] 4 }),
 (248,{ cls:=.type "type",data:=.cls { name:=Str.ofString "Whitespace",bases:=[.type "object"],mro:=[rK 248,.type "object"],ns:=247,qualname:=Str.ofString "Whitespace" },slots:=#[none,none,some (tK "Whitespace" 554),some (tK "Whitespace" 562),some (.builtin "object.__new__"),some (.bool true)] }),
 (249,{ cls:=.type "getset_descriptor",data:=.fields #[tK "__dict__" 650,rK 248,.builtin "function.__dict__",.builtin "function.__dict__#set"] }),
 (250,{ cls:=.type "getset_descriptor",data:=.fields #[tK "__weakref__" 652,rK 248,.builtin "ExceptionGroup.__weakref__",.none] }),
 (253,tuK #[]),
 (255,tuK #[tK "w" 660,tK "firsts" 661,tK "prefix" 662]),
 (256,tuK #[]),
 (258,coK #[tK "format_witnesses" 657,tK "format_witnesses" 658,tK "/claim/cut.py" 659,iK 162,iK 1,iK 0,iK 0,iK 3,rK 253,.bool true,iK 276,rK 254,.none,rK 255,rK 256,rK 257,iK 663,iK 162,tK "/claim/cut.py" 664]),
 (259,foK (stK 10) "format_witnesses" (.none) (.none) "cpy313.tabnanny" 552 258),
 (260,tuK #[]),
 (263,coK #[tK "_law_headers" 668,tK "_law_headers" 669,tK "/claim/cut.py" 670,iK 169,iK 1,iK 0,iK 0,iK 3,rK 260,.bool true,iK 276,rK 261,.none,.none,.none,rK 262,iK 671,iK 169,tK "/claim/cut.py" 672]),
 (264,foK (stK 12) "_law_headers" (.none) (.none) "law_pe0268_01" 666 263),
 (265,tuK #[]),
 (267,tuK #[tK "name" 677,tK "own" 678,tK "params" 679,tK "parts" 680,tK "key" 681,tK "text" 682,tK "sign" 683]),
 (268,tuK #[]),
 (270,coK #[tK "_law_line" 674,tK "_law_line" 675,tK "/claim/cut.py" 676,iK 187,iK 3,iK 0,iK 0,iK 3,rK 265,.bool true,iK 276,rK 266,.none,rK 267,rK 268,rK 269,iK 684,iK 187,tK "/claim/cut.py" 685]),
 (271,foK (stK 13) "_law_line" (.none) (.none) "law_pe0268_01" 666 270),
 (272,tuK #[]),
 (274,tuK #[tK "line" 690,tK "pieces" 691,tK "sign" 692]),
 (275,tuK #[]),
 (277,coK #[tK "_law_pieces" 687,tK "_law_pieces" 688,tK "/claim/cut.py" 689,iK 195,iK 1,iK 0,iK 0,iK 3,rK 272,.bool true,iK 276,rK 273,.none,rK 274,rK 275,rK 276,iK 693,iK 195,tK "/claim/cut.py" 694]),
 (278,foK (stK 14) "_law_pieces" (.none) (.none) "law_pe0268_01" 666 277),
 (279,tuK #[]),
 (281,tuK #[tK "line" 699,tK "bits" 700,tK "lines" 701,tK "place" 702,tK "piece" 703]),
 (282,tuK #[]),
 (284,coK #[tK "_law_folded" 696,tK "_law_folded" 697,tK "/claim/cut.py" 698,iK 202,iK 2,iK 0,iK 0,iK 3,rK 279,.bool true,iK 276,rK 280,.none,rK 281,rK 282,rK 283,iK 704,iK 202,tK "/claim/cut.py" 705]),
 (285,foK (stK 15) "_law_folded" (.none) (.none) "law_pe0268_01" 666 284),
 (286,tuK #[]),
 (288,tuK #[tK "lead" 710,tK "sign" 711,tK "other" 712,tK "cut" 713]),
 (289,tuK #[]),
 (291,coK #[tK "_law_put" 707,tK "_law_put" 708,tK "/claim/cut.py" 709,iK 209,iK 3,iK 0,iK 0,iK 3,rK 286,.bool true,iK 276,rK 287,.none,rK 288,rK 289,rK 290,iK 714,iK 209,tK "/claim/cut.py" 715]),
 (292,foK (stK 16) "_law_put" (.none) (.none) "law_pe0268_01" 666 291),
 (293,tuK #[]),
 (296,coK #[tK "_law_page" 717,tK "_law_page" 718,tK "/claim/cut.py" 719,iK 212,iK 3,iK 0,iK 0,iK 3,rK 293,.bool true,iK 276,rK 294,.none,.none,.none,rK 295,iK 720,iK 212,tK "/claim/cut.py" 721]),
 (297,foK (stK 17) "_law_page" (.none) (.none) "law_pe0268_01" 666 296),
 (298,tuK #[]),
 (300,tuK #[tK "page" 726,tK "margin" 727,tK "heads" 728,tK "place" 729,tK "line" 730,tK "here" 731]),
 (301,tuK #[]),
 (303,coK #[tK "_law_read" 723,tK "_law_read" 724,tK "/claim/cut.py" 725,iK 225,iK 1,iK 0,iK 0,iK 3,rK 298,.bool true,iK 276,rK 299,.none,rK 300,rK 301,rK 302,iK 732,iK 225,tK "/claim/cut.py" 733]),
 (304,foK (stK 18) "_law_read" (.none) (.none) "law_pe0268_01" 666 303),
 (305,tuK #[]),
 (307,tuK #[tK "lead" 738,tK "most" 739,tK "columns" 740,tK "size" 741,tK "column" 742,tK "sign" 743]),
 (308,tuK #[]),
 (310,coK #[tK "_law_columns" 735,tK "_law_columns" 736,tK "/claim/cut.py" 737,iK 237,iK 2,iK 0,iK 0,iK 3,rK 305,.bool true,iK 276,rK 306,.none,rK 307,rK 308,rK 309,iK 744,iK 237,tK "/claim/cut.py" 745]),
 (311,foK (stK 19) "_law_columns" (.none) (.none) "law_pe0268_01" 666 310),
 (312,tuK #[]),
 (315,coK #[tK "_law_taken" 747,tK "_law_taken" 748,tK "/claim/cut.py" 749,iK 245,iK 1,iK 0,iK 0,iK 3,rK 312,.bool true,iK 276,rK 313,.none,.none,.none,rK 314,iK 750,iK 245,tK "/claim/cut.py" 751]),
 (316,foK (stK 20) "_law_taken" (.none) (.none) "law_pe0268_01" 666 315),
 (317,tuK #[]),
 (319,tuK #[tK "name" 756,tK "text" 757,tK "table" 758]),
 (320,tuK #[]),
 (322,coK #[tK "_law_tried" 753,tK "_law_tried" 754,tK "/claim/cut.py" 755,iK 261,iK 2,iK 0,iK 0,iK 3,rK 317,.bool true,iK 276,rK 318,.none,rK 319,rK 320,rK 321,iK 759,iK 261,tK "/claim/cut.py" 760]),
 (323,foK (stK 21) "_law_tried" (.none) (.none) "law_pe0268_01" 666 322),
 (324,tuK #[]),
 (327,coK #[tK "_law_told" 762,tK "_law_told" 763,tK "/claim/cut.py" 764,iK 268,iK 2,iK 0,iK 0,iK 3,rK 324,.bool true,iK 276,rK 325,.none,.none,.none,rK 326,iK 765,iK 268,tK "/claim/cut.py" 766]),
 (328,foK (stK 22) "_law_told" (.none) (.none) "law_pe0268_01" 666 327),
 (329,tuK #[]),
 (332,coK #[tK "_law_due" 768,tK "_law_due" 769,tK "/claim/cut.py" 770,iK 286,iK 2,iK 0,iK 0,iK 3,rK 329,.bool true,iK 276,rK 330,.none,.none,.none,rK 331,iK 771,iK 286,tK "/claim/cut.py" 772]),
 (333,foK (stK 23) "_law_due" (.none) (.none) "law_pe0268_01" 666 332),
 (334,tuK #[]),
 (336,tuK #[tK "script" 777,tK "rows" 778]),
 (337,tuK #[]),
 (339,coK #[tK "law" 774,tK "law" 775,tK "/claim/cut.py" 776,iK 299,iK 1,iK 0,iK 0,iK 3,rK 334,.bool true,iK 276,rK 335,.none,rK 336,rK 337,rK 338,iK 779,iK 299,tK "/claim/cut.py" 780]),
 (340,foK (stK 24) "law" (.none) (.none) "law_pe0268_01" 666 339)]
end heapK
end
section
noncomputable def Is (c:Cx):Prop:=c.K = heapK c.w.params
section
variable {c:Cx} {n:Nat} {env:Env} {x:Str} {v:Value}
theorem GlobIs.glob (e:nsIn c.K mainGlobals x = some (some v)) (hk:autoParam (env.kindOf x = some .globalImplicit) byRfl):GlobIs c env x v:=⟨hk,.inl (mg_of c.X c.T.g e)⟩
theorem GlobIs.built (e:nsIn c.K mainGlobals x = some none) (hv:bootBuiltins x = some v) (hn:x ≠ "__name__") (hk:autoParam (env.kindOf x = some .globalImplicit) byRfl):GlobIs c env x v:=⟨hk,.inr ⟨mg_none_of c.X c.T.g e,(c.T.builtins x hn).trans hv⟩⟩
end
theorem g_range {c:Cx} (h:Is c) {env:Env} (hk:autoParam (env.kindOf "range" = some .globalImplicit) byRfl):GlobIs c env "range" (.type "range"):=GlobIs.built (by rw [h]; rfl) (by rfl) (by decide) hk
theorem g_len {c:Cx} (h:Is c) {env:Env} (hk:autoParam (env.kindOf "len" = some .globalImplicit) byRfl):GlobIs c env "len" (.builtin "len"):=GlobIs.built (by rw [h]; rfl) (by rfl) (by decide) hk
noncomputable def colD (size:Int):Int→List Nat→Int
 | k,[] => k
 | k,ch :: r => colD size (if ch = 32 then k + 1 else (k.fdiv size + 1) * size) r
theorem rangeD_at {a:Int} {m i:Nat} {d:D} (h:(rangeD a m)[i]? = some d):i < m∧d = .int (a + i):=by
 unfold rangeD at h
 rw [List.getElem?_map] at h
 left;rcases Option.map_eq_some_iff.mp h with ⟨j,hj,z0_⟩;right;subst z0_
 obtain ⟨h1,h2⟩:=List.getElem?_eq_some_iff.mp hj
 simp at h1 h2
 subst h2
 exact ⟨h1,rfl⟩
theorem rangeD_len {a:Int} {m:Nat}:(rangeD a m).length = m:=by simp [rangeD]
theorem signsD_at {x:Str} {i:Nat} {d:D} (h:(signsD x)[i]? = some d):∃ ch,x.cps.toList[i]? = some ch∧d = .str ⟨#[ch]⟩:=by
 unfold signsD at h
 rw [List.getElem?_map] at h
 left;rcases Option.map_eq_some_iff.mp h with ⟨j,hj,z0_⟩;right;subst z0_
 exact ⟨j,hj,rfl⟩
section
variable {c:Cx} {n:Nat} {env:Env} {lo:List (Str × D)} {l r:PySem.Expr} {pos:Pos}
theorem EV.mul {i j:Int} (x:EV c n env lo l (.int i)) (y:EV c n env lo r (.int j)) (h:i.natAbs < 2 ^ 60):EV c n env lo (.BinOp l .Mult r pos) (.int (i * j)):=EV.bin x y (by
 show (if small i = true then _ else _) = _
 rw [if_pos (by unfold small; exact decide_eq_true h)] at ⊢)
theorem EV.fdiv {i j:Int} (x:EV c n env lo l (.int i)) (y:EV c n env lo r (.int j)) (h0:j ≠ 0) (h:j.natAbs < 2 ^ 60):EV c n env lo (.BinOp l .FloorDiv r pos) (.int (i.fdiv j)):=EV.bin x y (by
 show (if j = 0 ∨ small j = false then _ else _) = _
 rw [if_neg (by unfold small; simp [h0,h])] at ⊢)
theorem EV.fmod {i j:Int} (x:EV c n env lo l (.int i)) (y:EV c n env lo r (.int j)) (h0:j ≠ 0):EV c n env lo (.BinOp l .Mod r pos) (.int (i.fmod j)):=EV.bin x y (by
 show (if j = 0 then _ else _) = _
 rw [if_neg h0])
theorem EV.cat {a b:Str} (x:EV c n env lo l (.str a)) (y:EV c n env lo r (.str b)) (h:a.length + b.length ≤ lim):EV c n env lo (.BinOp l .Add r pos) (.str (a ++ b)):=EV.bin x y (by
 show (if _ then _ else _) = _
 rw [if_pos h])
end
theorem colD_append (size:Int):∀ (l r:List Nat) (k:Int),colD size k (l ++ r) = colD size (colD size k l) r
 | [],r,k => rfl
 | ch :: l,r,k => colD_append size l r _
theorem colD_bound {size:Int} (hs:1 ≤ size∧size ≤ 2000):∀ (l:List Nat) (k:Int),0 ≤ k→0 ≤ colD size k l∧colD size k l ≤ k + 2000 * l.length
 | [],k,h0 => by simp [colD,h0]
 | ch :: r,k,h0 => by
  have step:0 ≤ (if ch = 32 then k + 1 else (k.fdiv size + 1) * size)∧(if ch = 32 then k + 1 else (k.fdiv size + 1) * size) ≤ k + 2000:=by
   split
   ·omega
   ·have e:(k.fdiv size + 1) * size = size * (k / size) + size:=by
     (rewrite [Int.fdiv_eq_ediv_of_nonneg _ (by omega)] at ⊢; rw [Int.add_mul,Int.one_mul,Int.mul_comm])
    have h1:=Int.mul_ediv_self_le (x:=k) (k:=size) (by omega)
    have h2:0 ≤ size * (k / size):=Int.mul_nonneg (by omega) (Int.ediv_nonneg h0 (by omega))
    omega
  obtain ⟨a,b⟩:=colD_bound hs r _ step.1
  refine ⟨a,Int.le_trans b ?_⟩
  have:=step.2
  simp only [List.length_cons]
  omega
set_option maxHeartbeats 1000000 in
theorem f_columns {c:Cx} (h:Is c) {n:Nat} (lead:Str) (most:Int) (hl:lead.length ≤ 100) (hm:0 ≤ most∧most ≤ 1000):FnOk c (n + 1) (.ref 311) [.str lead,.int most] [] (.lst ((List.range most.toNat).map fun (k:Nat) => .int (colD (1 + k) 0 lead.cps.toList))):=by
 refine FnOk.def (ho:=by rw [h]; rfl) (hcd:=by rw [h]; rfl) (N:=["lead", "most"]) (ds0:=[.str lead,.int most]) ?_ (by decide) (by rfl) ?_ (.inl rfl)
 ·intro s own vs ext r
  cases r with
  | cons r1 r => cases r with
   | cons r2 r =>
    cases r
    exact ⟨_,.of_eq rfl,rfl,.cons r1 (.cons r2 .nil)⟩
 ·intro L
  refine Ex.cons (Ex1.fresh (EVF.list .nil) (.inl rfl)) ?_
  refine Ex.cons (Ex1.loop (IT.range2 (g_range h) EV.int (EV.bin (EV.name rfl) EV.int rfl) (by decide) (by omega)) (fun _ => [("lead",.str lead),("most",.int most)]) (fun i => [("columns",.lst ((List.range i).map fun (k:Nat) => .int (colD (1 + k) 0 lead.cps.toList)))]) most.toNat
   (by rw [rangeD_len]; omega) (.of rfl) (.of rfl) ?_ (.inl ⟨by rw [rangeD_len]; omega,rfl⟩)) ?_
  ·intro i d hi hd
   obtain ⟨hi2,rfl⟩:=rangeD_at hd
   refine Step.of (Tg.name (.inl rfl)) ?_
   refine Ex.post (Ex.cons (Ex1.assign EV.int (.inl rfl)) (Ex.cons (Ex1.loop (IT.str (EV.name rfl)) (fun j => [("lead",.str lead),("most",.int most),("size",.int (1 + i)),("column",.int (colD (1 + i) 0 (lead.cps.toList.take j)))]) (fun _ => [("columns",.lst ((List.range i).map fun (k:Nat) => .int (colD (1 + k) 0 lead.cps.toList)))]) lead.cps.toList.length
    (by simp [signsD]) (.of rfl) (.of rfl) ?_ (.inl ⟨by simp [signsD],rfl⟩)) (Ex.cons (Ex1.append (EV.name rfl) rfl ?_) Ex.nil))) (.of rfl) ⟨?_,trivial⟩
   ·intro j d hj hd
    left;rcases signsD_at hd with ⟨ch,hc,z0_⟩;right;subst z0_
    have hb:=colD_bound (size:=1 + i) (by omega) (lead.cps.toList.take j) 0 (by omega)
    have hj':(lead.cps.toList.take j).length ≤ 100:=by
     have:lead.cps.toList.length ≤ 100:=hl
     simp [List.length_take]; omega
    refine Step.of (Tg.name (.inl rfl)) (Ex.post (Ex.cons (Ex1.assign (EV.ite (TV.cmp (EV.name rfl) EV.str rfl) (fun _ => EV.bin (EV.name rfl) EV.int rfl)
     (fun _ => EV.mul (EV.bin (EV.fdiv (EV.name rfl) (EV.name rfl) (by omega) (by omega)) EV.int rfl) (EV.name rfl) ?_)) (.inl rfl)) Ex.nil) ⟨rfl,rfl,rfl,?_,trivial⟩ (.of rfl))
    ·rw [Int.fdiv_eq_ediv_of_nonneg _ (by omega)] at ⊢
     have:=Int.ediv_le_self (1 + (i:Int)) hb.1
     have h0:0 ≤ colD (1 + ↑i) 0 (lead.cps.toList.take j) / (1 + (i:Int)):=Int.ediv_nonneg hb.1 (by omega)
     omega
    ·rw [List.take_add_one,hc,colD_append]
     simp only [Option.toList_some,colD]
     have e:(((⟨#[ch]⟩:Str).cps.toList == (Str.ofString " ").cps.toList)) = decide (ch = 32):=by
      show ([ch] == [32]) = _
      by_cases hq:ch = 32 <;> simp [hq]
     rw [e]
     by_cases hq:ch = 32
     ·simp [hq]
     ·simp [hq]
   ·simp [lim]; omega
   ·rw [List.take_length,List.range_succ,List.map_append]; rfl
  ·refine Ex.cons_ret (Ex1.ret ?_)
   exact EV.name rfl
end
section
noncomputable def wsD (raw:Str) (n nt:Int) (cnt:List Int) (b:Int) (simple:Bool):D:=
 .inst 248 [("raw",.str raw),("n",.int n),("nt",.int nt),("norm",.tup [.tup (cnt.map .int),.int b]),("is_simple",.bool simple)]
theorem a_norm {c:Cx} (h:Is c):AttrOk c 248 "norm" := ⟨by rw [h]; rfl,by rw [h]; rfl,none,by rw [h]; rfl,rfl⟩
theorem a_nt {c:Cx} (h:Is c):AttrOk c 248 "nt" := ⟨by rw [h]; rfl,by rw [h]; rfl,none,by rw [h]; rfl,rfl⟩
theorem a_n {c:Cx} (h:Is c):AttrOk c 248 "n" := ⟨by rw [h]; rfl,by rw [h]; rfl,none,by rw [h]; rfl,rfl⟩
theorem a_simple {c:Cx} (h:Is c):AttrOk c 248 "is_simple" := ⟨by rw [h]; rfl,by rw [h]; rfl,none,by rw [h]; rfl,rfl⟩
theorem g_max {c:Cx} (h:Is c) {env:Env} (hk:autoParam (env.kindOf "max" = some .globalImplicit) byRfl):GlobIs c env "max" (.builtin "max"):=GlobIs.built (by rw [h]; rfl) (by rfl) (by decide) hk
theorem b1 {c:Cx} {fd:FuncData} {d1:D} {x:Str} (hb:∀ v1,bindArgs fd ⟨[v1],[]⟩ = pure [(x,v1)]) (s:Shared) (own:List Addr) (vs:List Value) (_:Ext c.H s.heap) (r:RdAll c.w.params own s.heap vs [d1]) :
  ∃ B:List (Str × Value),BindsTo s fd ⟨vs,([]:List (Str × Bool)).map fun p => (p.1,.bool p.2)⟩ B∧B.map (·.1) = [x]∧RdAll c.w.params own s.heap (B.map (·.2)) [d1]:=by
 cases r with
 | cons r1 r =>
  cases r
  exact ⟨_,.of_eq (hb _),rfl,.cons r1 .nil⟩
theorem b2 {c:Cx} {fd:FuncData} {d1 d2:D} {x y:Str} (hb:∀ v1 v2,bindArgs fd ⟨[v1,v2],[]⟩ = pure [(x,v1),(y,v2)]) (s:Shared) (own:List Addr) (vs:List Value) (_:Ext c.H s.heap) (r:RdAll c.w.params own s.heap vs [d1,d2]) :
  ∃ B:List (Str × Value),BindsTo s fd ⟨vs,([]:List (Str × Bool)).map fun p => (p.1,.bool p.2)⟩ B∧B.map (·.1) = [x,y]∧RdAll c.w.params own s.heap (B.map (·.2)) [d1,d2]:=by
 cases r with
 | cons r1 r => cases r with
  | cons r2 r =>
   cases r
   exact ⟨_,.of_eq (hb _ _),rfl,.cons r1 (.cons r2 .nil)⟩
theorem b3 {c:Cx} {fd:FuncData} {d1 d2 d3:D} {x y z:Str} (hb:∀ v1 v2 v3,bindArgs fd ⟨[v1,v2,v3],[]⟩ = pure [(x,v1),(y,v2),(z,v3)]) (s:Shared) (own:List Addr) (vs:List Value) (_:Ext c.H s.heap) (r:RdAll c.w.params own s.heap vs [d1,d2,d3]) :
  ∃ B:List (Str × Value),BindsTo s fd ⟨vs,([]:List (Str × Bool)).map fun p => (p.1,.bool p.2)⟩ B∧B.map (·.1) = [x,y,z]∧RdAll c.w.params own s.heap (B.map (·.2)) [d1,d2,d3]:=by
 cases r with
 | cons r1 r => cases r with
  | cons r2 r => cases r with
   | cons r3 r =>
    cases r
    exact ⟨_,.of_eq (hb _ _ _),rfl,.cons r1 (.cons r2 (.cons r3 .nil))⟩
section
variable {c:Cx} {n:Nat} {env:Env} {lo:List (Str × D)} {e:PySem.Expr} {p pos:Pos}
theorem EV.lenT (h:Is c) {xs:List D} (x:EV c n env lo e (.tup xs)) (hl:xs.length ≤ lim) (hk:autoParam (env.kindOf "len" = some .globalImplicit) byRfl) (hp:autoParam (Plain [e] env pos) byPl) (he:autoParam (starEach [e] env = (false,eval e env) :: starEach [] env) byRfl):EV c n env lo (.Call (.Name "len" p) [e] [] pos) (.int (xs.length:Int)):=
 EV.call (g_len h hk) KeepF.builtin (EVs.cons x .nil he) (FnOk.builtin (call_lenT hl)) hp
theorem EV.lenL (h:Is c) {xs:List D} (x:EV c n env lo e (.lst xs)) (hl:xs.length ≤ lim) (hk:autoParam (env.kindOf "len" = some .globalImplicit) byRfl) (hp:autoParam (Plain [e] env pos) byPl) (he:autoParam (starEach [e] env = (false,eval e env) :: starEach [] env) byRfl):EV c n env lo (.Call (.Name "len" p) [e] [] pos) (.int (xs.length:Int)):=
 EV.call (g_len h hk) KeepF.builtin (EVs.cons x .nil he) (FnOk.builtin (call_lenL hl)) hp
theorem EV.lenS (h:Is c) {x:Str} (y:EV c n env lo e (.str x)) (hl:x.length ≤ lim) (hk:autoParam (env.kindOf "len" = some .globalImplicit) byRfl) (hp:autoParam (Plain [e] env pos) byPl) (he:autoParam (starEach [e] env = (false,eval e env) :: starEach [] env) byRfl):EV c n env lo (.Call (.Name "len" p) [e] [] pos) (.int (x.length:Int)):=
 EV.call (g_len h hk) KeepF.builtin (EVs.cons y .nil he) (FnOk.builtin (call_lenS hl)) hp
end
noncomputable def longestZ (cnt:List Int) (b:Int):Int:=if b > (cnt.length:Int) - 1 then b else (cnt.length:Int) - 1
theorem f_longest {c:Cx} (h:Is c) {n:Nat} {raw:Str} {k nt b:Int} {cnt:List Int} {sm:Bool} (hl:cnt.length ≤ 1000):FnOk c (n + 1) (.ref 210) [wsD raw k nt cnt b sm] [] (.int (longestZ cnt b)):=by
 refine FnOk.def (ho:=by rw [h]; rfl) (hcd:=by rw [h]; rfl) (N:=["self"]) (ds0:=[wsD raw k nt cnt b sm]) (b1 fun _ => rfl) (by decide) (by rfl) ?_ (.inl rfl)
 intro L
 refine Ex.cons (Ex1.unpack (EV.attr (EV.name rfl) (a_norm h) rfl) (Tgs.cons (.inl rfl) (Tgs.cons (.inl rfl) Tgs.nil))) (Ex.cons_ret (Ex1.ret ?_))
 have hl2:(cnt.map D.int).length ≤ lim:=by simp [lim]; omega
 have e:longestZ cnt b = (if b > ((cnt.map D.int).length:Int) - 1 then b else ((cnt.map D.int).length:Int) - 1):=by simp [longestZ]
 rw [e]
 exact EV.call (g_max h) KeepF.builtin (EVs.cons (EV.bin (EV.lenT h (EV.name rfl) hl2) EV.int rfl) (EVs.cons (EV.name rfl) .nil)) (FnOk.builtin call_max2)
section
variable {c:Cx} {n:Nat} {env:Env} {lo:List (Str × D)} {o i:PySem.Expr} {pos:Pos}
theorem idx_pos {k:Int} {m:Nat} (h0:0 ≤ k) (h1:k < m):idx k m = some k.toNat:=by
 unfold idx
 (rewrite [if_pos h0]; rw [if_pos (by omega)] at ⊢)
theorem EV.itemT {ds:List D} {k:Int} {d:D} (x:EV c n env lo o (.tup ds)) (y:EV c n env lo i (.int k)) (h0:0 ≤ k) (hd:ds[k.toNat]? = some d) (hl:ds.length ≤ lim) (hs:autoParam (∀ u v,subscripted i false u v = operate [u,v] (getItem u v)) byIIR):EV c n env lo (.Subscript o i pos) d:=
 EV.item x y (by
  have h1:k.toNat < ds.length:=(List.getElem?_eq_some_iff.mp hd).1
  show (if _ then _ else _) = _
  (rewrite [if_pos hl]; rw [idx_pos h0 (by omega)] at ⊢)
  exact hd) hs
theorem EV.itemL {ds:List D} {k:Int} {d:D} (x:EV c n env lo o (.lst ds)) (y:EV c n env lo i (.int k)) (h0:0 ≤ k) (hd:ds[k.toNat]? = some d) (hl:ds.length ≤ lim) (hs:autoParam (∀ u v,subscripted i false u v = operate [u,v] (getItem u v)) byIIR):EV c n env lo (.Subscript o i pos) d:=
 EV.item x y (by
  have h1:k.toNat < ds.length:=(List.getElem?_eq_some_iff.mp hd).1
  show (if _ then _ else _) = _
  (rewrite [if_pos hl]; rw [idx_pos h0 (by omega)] at ⊢)
  exact hd) hs
end
noncomputable def ilZ (ts:Int) (cnt:List Int):Nat→Int
 | 0 => 0
 | k + 1 => ilZ ts cnt k + (ts + k).fdiv ts * cnt.getD (ts + k).toNat 0
noncomputable def indentZ (ts nt:Int) (cnt:List Int) (b:Int):Int:=b + ts * (ilZ ts cnt ((cnt.length:Int) - ts).toNat + nt)
theorem f_indent {c:Cx} (h:Is c) {n:Nat} {raw:Str} {k nt b ts:Int} {cnt:List Int} {sm:Bool} (hl:cnt.length ≤ 1000) (ht:1 ≤ ts∧ts ≤ 1000):FnOk c (n + 1) (.ref 217) [wsD raw k nt cnt b sm,.int ts] [] (.int (indentZ ts nt cnt b)):=by
 refine FnOk.def (ho:=by rw [h]; rfl) (hcd:=by rw [h]; rfl) (N:=["self", "tabsize"]) (ds0:=[wsD raw k nt cnt b sm,.int ts]) (b2 fun _ _ => rfl) (by decide) (by rfl) ?_ (.inl rfl)
 intro L
 have hl2:(cnt.map D.int).length ≤ lim:=by simp [lim]; omega
 have hl3:(cnt.map D.int).length = cnt.length:=by simp
 refine Ex.cons (Ex1.unpack (EV.attr (EV.name rfl) (a_norm h) rfl) (Tgs.cons (.inl rfl) (Tgs.cons (.inl rfl) Tgs.nil))) (Ex.cons (Ex1.assign EV.int (.inl rfl)) ?_)
 refine Ex.cons (Ex1.loop (IT.range2 (g_range h) (EV.name rfl) (EV.lenT h (EV.name rfl) hl2) (by omega) (by rw [hl3]; omega))
  (fun j => [("self",wsD raw k nt cnt b sm),("tabsize",.int ts),("count",.tup (cnt.map .int)),("trailing",.int b),("il",.int (ilZ ts cnt j))]) (fun _ => []) ((cnt.length:Int) - ts).toNat (by rw [rangeD_len,hl3]; omega) (.of rfl) trivial ?_ (.inl ⟨by rw [rangeD_len,hl3],rfl⟩)) ?_
 ·intro j d hj hd
  obtain ⟨hj2,rfl⟩:=rangeD_at hd
  have hlt:(ts + (j:Int)).toNat < cnt.length:=by omega
  have hi:(cnt.map D.int)[(ts + (j:Int)).toNat]? = some (.int (cnt.getD (ts + (j:Int)).toNat 0)):=by
   rw [List.getElem?_map,List.getElem?_eq_getElem hlt,List.getD_eq_getElem?_getD,List.getElem?_eq_getElem hlt] at ⊢; rfl
  have hq:((ts + (j:Int)).fdiv ts).natAbs < 2 ^ 60:=by
   rw [Int.fdiv_eq_ediv_of_nonneg _ (by omega)] at ⊢
   have:=Int.ediv_le_self ts (a:=ts + (j:Int)) (by omega)
   have h0:0 ≤ (ts + (j:Int)) / ts:=Int.ediv_nonneg (by omega) (by omega)
   omega
  refine Step.of (Tg.name (.inl rfl)) (Ex.post (Ex.cons (Ex1.assign (EV.bin (EV.name rfl) (EV.mul (EV.fdiv (EV.name rfl) (EV.name rfl) (by omega) (by omega)) (EV.itemT (EV.name rfl) (EV.name rfl) (by omega) hi hl2) hq) rfl) (.inl rfl)) Ex.nil) (.of rfl) trivial)
 ·refine Ex.cons_ret (Ex1.ret ?_)
  exact EV.bin (EV.name rfl) (EV.mul (EV.name rfl) (EV.bin (EV.name rfl) (EV.attr (EV.name rfl) (a_nt h) rfl) rfl) (by omega)) rfl
theorem canLay_ints:∀ l:List Int,PyData.canLayAll0 (toPys (l.map .int)) = true
 | [] => rfl
 | a :: r => by
  show (_ && _) = true
  rw [canLay_ints r]; rfl
theorem depth_ints:∀ l:List Int,PyData.depthAll (toPys (l.map .int)) = 0
 | [] => rfl
 | a :: r => by
  show max _ _ = 0
  rw [depth_ints r]; rfl
theorem eqv_ints:∀ l l':List Int,PyData.eqvAll (toPys (l.map .int)) (toPys (l'.map .int)) = decide (l = l')
 | [],[] => rfl
 | [],_ :: _ => rfl
 | _ :: _,[] => rfl
 | a :: r,b :: r' => by
  show (_ && _) = _
  rw [eqv_ints r r']
  show ((a == b) && _) = _
  by_cases h1:a = b <;> by_cases h2:r = r' <;> simp [h1,h2]
theorem ok_norm (l:List Int) (b:Int):okD (.tup [.tup (l.map .int),.int b]) = true:=by
 unfold okD
 have h1:(toPy (.tup [.tup (l.map .int),.int b])).canLay0 = true:=by
  show PyData.canLayAll0 _ = true
  show (PyData.canLayAll0 (toPys (l.map .int)) && _) = true
  rw [canLay_ints]; rfl
 have h2:(toPy (.tup [.tup (l.map .int),.int b])).depth = 2:=by
  show max (PyData.depthAll (toPys (l.map .int)) + 1) _ + 1 = 2
  rw [depth_ints]; rfl
 rw [h1,h2]; rfl
theorem f_equal {c:Cx} (h:Is c) {n:Nat} {raw raw2:Str} {k nt b k2 nt2 b2':Int} {cnt cnt2:List Int} {sm sm2:Bool}:FnOk c (n + 1) (.ref 224) [wsD raw k nt cnt b sm,wsD raw2 k2 nt2 cnt2 b2' sm2] [] (.bool (decide (cnt = cnt2) && (b == b2'))):=by
 refine FnOk.def (ho:=by rw [h]; rfl) (hcd:=by rw [h]; rfl) (N:=["self", "other"]) (ds0:=[wsD raw k nt cnt b sm,wsD raw2 k2 nt2 cnt2 b2' sm2]) (b2 fun _ _ => rfl) (by decide) (by rfl) ?_ (.inl rfl)
 intro L
 refine Ex.cons_ret (Ex1.ret (EV.cmp (EV.attr (EV.name rfl) (a_norm h) rfl) (EV.attr (EV.name rfl) (a_norm h) rfl) ?_))
 show (if _ then _ else _) = _
 rw [if_pos (by rw [ok_norm,ok_norm]; rfl)] at ⊢
 show some (PyData.eqvAll (toPys (cnt.map .int)) (toPys (cnt2.map .int)) && ((b == b2') && true)) = _
 rw [eqv_ints,Bool.and_true]
theorem firstBad (p:Nat→Bool):∀ m,(∀ i,i < m→p i = true) ∨ ∃ N,N < m∧(∀ i,i < N→p i = true)∧p N = false:=by
 intro m
 induction m with
 | zero => exact .inl fun i h => absurd h (Nat.not_lt_zero i)
 | succ m ih =>
  rcases ih with h | ⟨N,h1,h2,h3⟩
  ·cases q:p m with
   | true =>
    refine .inl fun i hi => ?_
    by_cases z:i = m
    ·rw [z]; exact q
    ·exact h i (by omega)
   | false => exact .inr ⟨m,Nat.lt_succ_self _,h,q⟩
  ·exact .inr ⟨N,Nat.lt_succ_of_lt h1,h2,h3⟩
noncomputable def topZ (cnt cnt2:List Int) (b b2:Int):Int:=(if longestZ cnt2 b2 > longestZ cnt b then longestZ cnt2 b2 else longestZ cnt b) + 1
noncomputable def lessZ (k nt:Int) (cnt:List Int) (b:Int) (sm:Bool) (k2 nt2:Int) (cnt2:List Int) (b2:Int) (sm2:Bool):Bool:=
 if k ≥ k2 then false else if sm && sm2 then decide (nt ≤ nt2) else (List.range (topZ cnt cnt2 b b2 + 1 - 2).toNat).all fun j => decide (¬ indentZ (2 + j) nt cnt b ≥ indentZ (2 + j) nt2 cnt2 b2)
theorem m_longest {c:Cx} (h:Is c):MethOk c 248 "longest_run_of_spaces" 210:=⟨by rw [h]; rfl,by rw [h]; rfl,by rw [h]; rfl⟩
theorem m_indent {c:Cx} (h:Is c):MethOk c 248 "indent_level" 217:=⟨by rw [h]; rfl,by rw [h]; rfl,by rw [h]; rfl⟩
theorem longest_bd {cnt:List Int} {b:Int} (hl:cnt.length ≤ 500) (hb:0 ≤ b∧b ≤ 500):-1 ≤ longestZ cnt b∧longestZ cnt b ≤ 500:=by
 unfold longestZ; split <;> omega
set_option maxHeartbeats 1000000 in
theorem f_less {c:Cx} (h:Is c) {n:Nat} {raw raw2:Str} {k nt b k2 nt2 b2':Int} {cnt cnt2:List Int} {sm sm2:Bool} (hl:cnt.length ≤ 500) (hl2:cnt2.length ≤ 500) (hb:0 ≤ b∧b ≤ 500) (hb2:0 ≤ b2'∧b2' ≤ 500) :
  FnOk c (n + 2) (.ref 238) [wsD raw k nt cnt b sm,wsD raw2 k2 nt2 cnt2 b2' sm2] [] (.bool (lessZ k nt cnt b sm k2 nt2 cnt2 b2' sm2)):=by
 refine FnOk.def (ho:=by rw [h]; rfl) (hcd:=by rw [h]; rfl) (N:=["self", "other"]) (ds0:=[wsD raw k nt cnt b sm,wsD raw2 k2 nt2 cnt2 b2' sm2]) (b2 fun _ _ => rfl) (by decide) (by rfl) ?_ (.inl rfl)
 intro L
 have a1:=longest_bd hl hb
 have a2:=longest_bd hl2 hb2
 have top:-1 ≤ topZ cnt cnt2 b b2'∧topZ cnt cnt2 b b2' ≤ 600:=by unfold topZ; split <;> omega
 by_cases h1:k ≥ k2
 ·have e:lessZ k nt cnt b sm k2 nt2 cnt2 b2' sm2 = false:=by unfold lessZ; rw [if_pos h1]
  rw [e]
  exact Ex.cons_ret (Ex1.ite (TV.cmp (t:=true) (EV.attr (EV.name rfl) (a_n h) rfl) (EV.attr (EV.name rfl) (a_n h) rfl) (by show some (decide (k ≥ k2)) = _; rw [decide_eq_true h1])) (fun _ => Ex.cons_ret (Ex1.ret EV.bool)) fun z => by cases z)
 ·refine Ex.cons (Ex1.ite (t:=false) (TV.cmp (EV.attr (EV.name rfl) (a_n h) rfl) (EV.attr (EV.name rfl) (a_n h) rfl) (by show some (decide (k ≥ k2)) = _; rw [decide_eq_false h1])) (fun z => by cases z) (fun _ => Ex.nil)) ?_
  cases hT:(sm && (sm2 && true)) with
  | true =>
   have e:lessZ k nt cnt b sm k2 nt2 cnt2 b2' sm2 = decide (nt ≤ nt2):=by unfold lessZ; (rewrite [if_neg h1]; rw [if_pos (by simpa using hT)] at ⊢)
   rw [e]
   refine Ex.cons_ret (Ex1.ite (t:=sm && (sm2 && true)) (TV.boolop (AV.and_cons (TV.value (EV.attr (EV.name rfl) (a_simple h) rfl) rfl) fun _ => AV.and_cons (TV.value (EV.attr (EV.name rfl) (a_simple h) rfl) rfl) fun _ => AV.and_nil))
    (fun _ => Ex.cons_ret (Ex1.ret (EV.cmp (EV.attr (EV.name rfl) (a_nt h) rfl) (EV.attr (EV.name rfl) (a_nt h) rfl) rfl))) fun z => ?_)
   rw [hT] at z; cases z
  | false =>
   have e:lessZ k nt cnt b sm k2 nt2 cnt2 b2' sm2 = (List.range (topZ cnt cnt2 b b2' + 1 - 2).toNat).all fun j => decide (¬ indentZ (2 + j) nt cnt b ≥ indentZ (2 + j) nt2 cnt2 b2'):=by
    unfold lessZ; (rewrite [if_neg h1]; rw [if_neg (by simpa using hT)] at ⊢)
   rw [e]
   refine Ex.cons (Ex1.ite (t:=sm && (sm2 && true)) (TV.boolop (AV.and_cons (TV.value (EV.attr (EV.name rfl) (a_simple h) rfl) rfl) fun _ => AV.and_cons (TV.value (EV.attr (EV.name rfl) (a_simple h) rfl) rfl) fun _ => AV.and_nil))
    (fun z => ?_) (fun _ => Ex.nil)) ?_
   ·rw [hT] at z; cases z
   refine Ex.cons (Ex1.assign (EV.bin (EV.call (g_max h) KeepF.builtin (EVs.cons (EV.meth (EV.name rfl) .nil (m_longest h) rfl (KeepF.of (by rw [h]; rfl)) (f_longest h (by omega))) (EVs.cons (EV.meth (EV.name rfl) .nil (m_longest h) rfl (KeepF.of (by rw [h]; rfl)) (f_longest h (by omega))) .nil)) (FnOk.builtin call_max2)) EV.int rfl) (.inl rfl)) ?_
   generalize hm:(topZ cnt cnt2 b b2' + 1 - 2).toNat = m
   have hm6:m ≤ 600:=by omega
   have ind:∀ j:Nat,j < m→∀ (x:Str),FnOk c (n + 1) (.ref 217) [wsD raw k nt cnt b sm,.int (2 + j)] [] (.int (indentZ (2 + j) nt cnt b)):=fun j hj _ => f_indent h (by omega) (by omega)
   have ind2:∀ j:Nat,j < m→∀ (x:Str),FnOk c (n + 1) (.ref 217) [wsD raw2 k2 nt2 cnt2 b2' sm2,.int (2 + j)] [] (.int (indentZ (2 + j) nt2 cnt2 b2')):=fun j hj _ => f_indent h (by omega) (by omega)
   have hlen:(rangeD 2 (topZ cnt cnt2 b b2' + 1 - 2).toNat).length = m:=by rw [rangeD_len,hm]
   rcases firstBad (fun j => decide (¬ indentZ (2 + j) nt cnt b ≥ indentZ (2 + j) nt2 cnt2 b2')) m with hall | ⟨N,hN,hgood,hbad⟩
   ·have e2:((List.range m).all fun j => decide (¬ indentZ (2 + j) nt cnt b ≥ indentZ (2 + j) nt2 cnt2 b2')) = true:=List.all_eq_true.mpr fun j hj => hall j (List.mem_range.mp hj)
    rw [e2]
    refine Ex.cons (Ex1.loop (IT.range2 (g_range h) EV.int (EV.bin (EV.name rfl) EV.int rfl) (by decide) (by show -1000 ≤ topZ cnt cnt2 b b2' + 1∧topZ cnt cnt2 b b2' + 1 ≤ 100000; omega))
     (fun _ => [("self",wsD raw k nt cnt b sm),("other",wsD raw2 k2 nt2 cnt2 b2' sm2),("n",.int (topZ cnt cnt2 b b2'))]) (fun _ => []) m (Nat.le_of_eq hlen.symm) (.of rfl) trivial ?_ (.inl ⟨hlen.symm,rfl⟩)) (Ex.cons_ret (Ex1.ret EV.bool))
    intro j d hj hd
    obtain ⟨_,rfl⟩:=rangeD_at hd
    have hg:=hall j hj
    refine Step.of (Tg.name (.inl rfl)) (Ex.post (Ex.cons (Ex1.ite (t:=false) (TV.cmp (EV.meth (EV.name rfl) (EVs.cons (EV.name rfl) .nil) (m_indent h) rfl (KeepF.of (by rw [h]; rfl)) (ind j hj "")) (EV.meth (EV.name rfl) (EVs.cons (EV.name rfl) .nil) (m_indent h) rfl (KeepF.of (by rw [h]; rfl)) (ind2 j hj "")) ?_) (fun z => by cases z) (fun _ => Ex.nil)) Ex.nil) (.of rfl) trivial)
    show some (decide (_ ≥ _)) = _
    rw [decide_eq_false (of_decide_eq_true hg)]
   ·have e2:((List.range m).all fun j => decide (¬ indentZ (2 + j) nt cnt b ≥ indentZ (2 + j) nt2 cnt2 b2')) = false:=by
     rw [List.all_eq_false]
     exact ⟨N,List.mem_range.mpr hN,by rw [hbad]; decide⟩
    rw [e2]
    have hat:(rangeD 2 (topZ cnt cnt2 b b2' + 1 - 2).toNat)[N]? = some (.int (2 + (N:Int))):=by
     unfold rangeD
     (rewrite [List.getElem?_map] at ⊢; rewrite [hm]; rw [List.getElem?_range hN] at ⊢); rfl
    refine Ex.cons_ret (Ex1.loop (IT.range2 (g_range h) EV.int (EV.bin (EV.name rfl) EV.int rfl) (by decide) (by show -1000 ≤ topZ cnt cnt2 b b2' + 1∧topZ cnt cnt2 b b2' + 1 ≤ 100000; omega))
     (fun _ => [("self",wsD raw k nt cnt b sm),("other",wsD raw2 k2 nt2 cnt2 b2' sm2),("n",.int (topZ cnt cnt2 b b2'))]) (fun _ => []) N (Nat.le_trans (Nat.le_of_lt hN) (Nat.le_of_eq hlen.symm)) (.of rfl) trivial ?_ (.inr ⟨_,hat,.inr ⟨.bool false,?_,rfl⟩⟩))
    ·intro j d hj hd
     obtain ⟨_,rfl⟩:=rangeD_at hd
     have hg:=hgood j hj
     refine Step.of (Tg.name (.inl rfl)) (Ex.post (Ex.cons (Ex1.ite (t:=false) (TV.cmp (EV.meth (EV.name rfl) (EVs.cons (EV.name rfl) .nil) (m_indent h) rfl (KeepF.of (by rw [h]; rfl)) (ind j (by omega) "")) (EV.meth (EV.name rfl) (EVs.cons (EV.name rfl) .nil) (m_indent h) rfl (KeepF.of (by rw [h]; rfl)) (ind2 j (by omega) "")) ?_) (fun z => by cases z) (fun _ => Ex.nil)) Ex.nil) (.of rfl) trivial)
     show some (decide (_ ≥ _)) = _
     rw [decide_eq_false (of_decide_eq_true hg)]
    ·refine Step.of (Tg.name (.inl rfl)) (Ex.cons_ret (Ex1.ite (t:=true) (TV.cmp (EV.meth (EV.name rfl) (EVs.cons (EV.name rfl) .nil) (m_indent h) rfl (KeepF.of (by rw [h]; rfl)) (ind N hN "")) (EV.meth (EV.name rfl) (EVs.cons (EV.name rfl) .nil) (m_indent h) rfl (KeepF.of (by rw [h]; rfl)) (ind2 N hN "")) ?_) (fun _ => Ex.cons_ret (Ex1.ret EV.bool)) (fun z => by cases z)))
     show some (decide (_ ≥ _)) = _
     have:=of_decide_eq_false hbad
     rw [decide_eq_true (Classical.not_not.mp this)]
end
section
noncomputable def witZ (nt:Int) (cnt:List Int) (b nt2:Int) (cnt2:List Int) (b2:Int) (m:Nat):List D:=
 ((List.range m).filter fun (j:Nat) => decide (indentZ (1 + j) nt cnt b ≥ indentZ (1 + j) nt2 cnt2 b2)).map fun (j:Nat) => .tup [.int (1 + j),.int (indentZ (1 + j) nt cnt b),.int (indentZ (1 + j) nt2 cnt2 b2)]
theorem witZ_succ (nt:Int) (cnt:List Int) (b nt2:Int) (cnt2:List Int) (b2:Int) (m:Nat):witZ nt cnt b nt2 cnt2 b2 (m + 1) = witZ nt cnt b nt2 cnt2 b2 m ++ (if indentZ (1 + m) nt cnt b ≥ indentZ (1 + m) nt2 cnt2 b2 then [.tup [.int (1 + m),.int (indentZ (1 + m) nt cnt b),.int (indentZ (1 + m) nt2 cnt2 b2)]] else []):=by
 unfold witZ
 rw [List.range_succ,List.filter_append,List.map_append]
 congr 1
 by_cases h:indentZ (1 + m) nt cnt b ≥ indentZ (1 + m) nt2 cnt2 b2
 ·simp [h]
 ·simp [h]
set_option maxHeartbeats 1000000 in
theorem f_witness {c:Cx} (h:Is c) {n:Nat} {raw raw2:Str} {k nt b k2 nt2 b2':Int} {cnt cnt2:List Int} {sm sm2:Bool} (hl:cnt.length ≤ 500) (hl2:cnt2.length ≤ 500) (hb:0 ≤ b∧b ≤ 500) (hb2:0 ≤ b2'∧b2' ≤ 500) :
  FnOk c (n + 2) (.ref 245) [wsD raw k nt cnt b sm,wsD raw2 k2 nt2 cnt2 b2' sm2] [] (.lst (witZ nt cnt b nt2 cnt2 b2' (topZ cnt cnt2 b b2').toNat)):=by
 refine FnOk.def (ho:=by rw [h]; rfl) (hcd:=by rw [h]; rfl) (N:=["self", "other"]) (ds0:=[wsD raw k nt cnt b sm,wsD raw2 k2 nt2 cnt2 b2' sm2]) (b2 fun _ _ => rfl) (by decide) (by rfl) ?_ (.inl rfl)
 intro L
 have a1:=longest_bd hl hb
 have a2:=longest_bd hl2 hb2
 have top:-1 ≤ topZ cnt cnt2 b b2'∧topZ cnt cnt2 b b2' ≤ 600:=by unfold topZ; split <;> omega
 refine Ex.cons (Ex1.assign (EV.bin (EV.call (g_max h) KeepF.builtin (EVs.cons (EV.meth (EV.name rfl) .nil (m_longest h) rfl (KeepF.of (by rw [h]; rfl)) (f_longest h (by omega))) (EVs.cons (EV.meth (EV.name rfl) .nil (m_longest h) rfl (KeepF.of (by rw [h]; rfl)) (f_longest h (by omega))) .nil)) (FnOk.builtin call_max2)) EV.int rfl) (.inl rfl)) ?_
 refine Ex.cons (Ex1.fresh (EVF.list .nil) (.inl rfl)) ?_
 have hm:(topZ cnt cnt2 b b2' + 1 - 1).toNat = (topZ cnt cnt2 b b2').toNat:=by congr 1; omega
 generalize hmm:(topZ cnt cnt2 b b2').toNat = m at hm
 have hm6:m ≤ 600:=by omega
 have ind:∀ j:Nat,j < m→FnOk c (n + 1) (.ref 217) [wsD raw k nt cnt b sm,.int (1 + j)] [] (.int (indentZ (1 + j) nt cnt b)):=fun j hj => f_indent h (by omega) (by omega)
 have ind2:∀ j:Nat,j < m→FnOk c (n + 1) (.ref 217) [wsD raw2 k2 nt2 cnt2 b2' sm2,.int (1 + j)] [] (.int (indentZ (1 + j) nt2 cnt2 b2')):=fun j hj => f_indent h (by omega) (by omega)
 have hlen:(rangeD 1 (topZ cnt cnt2 b b2' + 1 - 1).toNat).length = m:=by rw [rangeD_len,hm]
 have wl:∀ j:Nat,(witZ nt cnt b nt2 cnt2 b2' j).length ≤ j:=fun j => by
  unfold witZ
  rw [List.length_map]
  exact Nat.le_trans (List.length_filter_le _ _) (by simp)
 refine Ex.cons (Ex1.loop (IT.range2 (g_range h) EV.int (EV.bin (EV.name rfl) EV.int rfl) (by decide) (by show -1000 ≤ topZ cnt cnt2 b b2' + 1∧topZ cnt cnt2 b b2' + 1 ≤ 100000; omega))
  (fun _ => [("self",wsD raw k nt cnt b sm),("other",wsD raw2 k2 nt2 cnt2 b2' sm2),("n",.int (topZ cnt cnt2 b b2'))]) (fun j => [("a",.lst (witZ nt cnt b nt2 cnt2 b2' j))]) m (Nat.le_of_eq hlen.symm) (.of rfl) (.of rfl) ?_ (.inl ⟨hlen.symm,rfl⟩)) (Ex.cons_ret (Ex1.ret (EV.name rfl)))
 intro j d hj hd
 obtain ⟨_,rfl⟩:=rangeD_at hd
 have i1:=ind j hj
 have i2:=ind2 j hj
 refine Step.of (Tg.name (.inl rfl)) ?_
 have m1:∀ {lo:List (Str × D)} {env:Env} {p q r:Pos},True:=trivial
 cases hg:decide (indentZ (1 + j) nt cnt b ≥ indentZ (1 + j) nt2 cnt2 b2') with
 | true =>
  refine Ex.post (Ex.cons (Ex1.ite (t:=true) (TV.cmp (EV.meth (EV.name rfl) (EVs.cons (EV.name rfl) .nil) (m_indent h) rfl (KeepF.of (by rw [h]; rfl)) i1) (EV.meth (EV.name rfl) (EVs.cons (EV.name rfl) .nil) (m_indent h) rfl (KeepF.of (by rw [h]; rfl)) i2) ?_)
   (fun _ => Ex.cons (Ex1.append (EV.tuple (EVs.cons (EV.name rfl) (EVs.cons (EV.meth (EV.name rfl) (EVs.cons (EV.name rfl) .nil) (m_indent h) rfl (KeepF.of (by rw [h]; rfl)) i1) (EVs.cons (EV.meth (EV.name rfl) (EVs.cons (EV.name rfl) .nil) (m_indent h) rfl (KeepF.of (by rw [h]; rfl)) i2) .nil)))) rfl (by have:=wl j; simp [lim]; omega)) Ex.nil) (fun z => by cases z)) Ex.nil) (.of rfl) ⟨?_,trivial⟩
  ·show some (decide (_ ≥ _)) = _
   rw [hg]
  ·rw [witZ_succ,if_pos (of_decide_eq_true hg)]; rfl
 | false =>
  refine Ex.post (Ex.cons (Ex1.ite (t:=false) (TV.cmp (EV.meth (EV.name rfl) (EVs.cons (EV.name rfl) .nil) (m_indent h) rfl (KeepF.of (by rw [h]; rfl)) i1) (EV.meth (EV.name rfl) (EVs.cons (EV.name rfl) .nil) (m_indent h) rfl (KeepF.of (by rw [h]; rfl)) i2) ?_)
   (fun z => by cases z) (fun _ => Ex.nil)) Ex.nil) (.of rfl) ⟨?_,trivial⟩
  ·show some (decide (_ ≥ _)) = _
   rw [hg]
  ·rw [witZ_succ,if_neg (of_decide_eq_false hg),List.append_nil]; rfl
end
section
noncomputable def bump (cnt:List Int) (b:Nat):List Int:=
 let c':=if b ≥ cnt.length then cnt ++ List.replicate (b - cnt.length + 1) 0 else cnt
 c'.set b (c'.getD b 0 + 1)
structure WsS where
 n:Nat
 nt:Nat
 cnt:List Int
 b:Nat
noncomputable def wsStep (s:WsS) (ch:Nat):WsS:=if ch = 32 then ⟨s.n + 1,s.nt,s.cnt,s.b + 1⟩ else ⟨s.n + 1,s.nt + 1,bump s.cnt s.b,0⟩
noncomputable def isWs (ch:Nat):Bool:=ch == 32 || ch == 9
noncomputable def wsOf (l:List Nat):WsS:=l.foldl wsStep ⟨0,0,[],0⟩
noncomputable def wsPre (raw:Str):List Nat:=raw.cps.toList.takeWhile isWs
noncomputable def wsObj (raw:Str):D:=wsD raw (wsOf (wsPre raw)).n (wsOf (wsPre raw)).nt (wsOf (wsPre raw)).cnt (wsOf (wsPre raw)).b (decide ((wsOf (wsPre raw)).cnt.length ≤ 1))
theorem bump_len (cnt:List Int) (b:Nat):(bump cnt b).length ≤ max cnt.length (b + 1):=by
 unfold bump
 simp only [List.length_set]
 split
 ·rw [List.length_append,List.length_replicate]; omega
 ·omega
theorem wsOf_snoc (l:List Nat) (ch:Nat):wsOf (l ++ [ch]) = wsStep (wsOf l) ch:=by simp [wsOf,List.foldl_append]
theorem Ex.postB {c:Cx} {n:Nat} {env:Env} {ex:List (Str × Value)} {lo lo':List (Str × D)} {ow ow':List (Str × OwnD)} {st:List Stmt} {lo1:List (Str × D)} {ow1:List (Str × OwnD)} (x:Ex c n env ex st lo ow (.brk lo1 ow1)) (h1:Sub lo' lo1) (h2:SubO ow' ow1):Ex c n env ex st lo ow (.brk lo' ow'):=fun A E b co s S =>
 wpAny_mono (x A E b co s S) (fun fl s' h => ⟨h.1,h.2.weak h1 h2⟩) fun _ _ z => z
noncomputable def WsI (s:WsS) (m:Nat):Prop:=s.cnt.length ≤ m∧s.b ≤ m∧s.n = m
theorem wsI_step {s:WsS} {m:Nat} (ch:Nat) (h:WsI s m):WsI (wsStep s ch) (m + 1):=by
 left;rcases h with ⟨h1,h2,h3⟩;right
 unfold wsStep WsI
 split
 ·exact ⟨by simp; omega,by simp; omega,by simp; omega⟩
 ·have:=bump_len s.cnt s.b
  exact ⟨by simp; omega,by simp,by simp; omega⟩
theorem wsI_fold:∀ (l:List Nat) (s:WsS) (m:Nat),WsI s m→WsI (l.foldl wsStep s) (m + l.length)
 | [],s,m,h => h
 | ch :: l,s,m,h => by
  have:=wsI_fold l _ _ (wsI_step ch h)
  simpa [Nat.add_assoc,Nat.add_comm 1] using this
theorem wsOf_bd (l:List Nat):WsI (wsOf l) l.length:=by
 have:=wsI_fold l ⟨0,0,[],0⟩ 0 ⟨Nat.le_refl _,Nat.le_refl _,rfl⟩
 rw [Nat.zero_add] at this
 exact this
theorem flat_ints:∀ l:List Int,flatDs (l.map .int) = true
 | [] => rfl
 | a :: r => by
  show (_ && _) = true
  rw [flat_ints r]; rfl
theorem a_raw {c:Cx} (h:Is c):AttrOk c 248 "raw" := ⟨by rw [h]; rfl,by rw [h]; rfl,none,by rw [h]; rfl,rfl⟩
theorem s_raw {c:Cx} (h:Is c):SetOk c 248 "raw" := ⟨by rw [h]; rfl,by rw [h]; rfl,by rw [h]; rfl,by rw [h]; rfl⟩
theorem s_n {c:Cx} (h:Is c):SetOk c 248 "n" := ⟨by rw [h]; rfl,by rw [h]; rfl,by rw [h]; rfl,by rw [h]; rfl⟩
theorem s_nt {c:Cx} (h:Is c):SetOk c 248 "nt" := ⟨by rw [h]; rfl,by rw [h]; rfl,by rw [h]; rfl,by rw [h]; rfl⟩
theorem s_norm {c:Cx} (h:Is c):SetOk c 248 "norm" := ⟨by rw [h]; rfl,by rw [h]; rfl,by rw [h]; rfl,by rw [h]; rfl⟩
theorem s_simple {c:Cx} (h:Is c):SetOk c 248 "is_simple" := ⟨by rw [h]; rfl,by rw [h]; rfl,by rw [h]; rfl,by rw [h]; rfl⟩
theorem g_Whitespace {c:Cx} (h:Is c) {env:Env} (hk:autoParam (env.kindOf "Whitespace" = some .globalImplicit) byRfl):GlobIs c env "Whitespace" (.ref 248):=GlobIs.glob (by rw [h]; rfl) hk
theorem g_tuple {c:Cx} (h:Is c) {env:Env} (hk:autoParam (env.kindOf "tuple" = some .globalImplicit) byRfl):GlobIs c env "tuple" (.type "tuple"):=GlobIs.built (by rw [h]; rfl) (by rfl) (by decide) hk
theorem eqSign (a b:Nat):((⟨#[a]⟩:Str).cps.toList == (⟨#[b]⟩:Str).cps.toList) = decide (a = b):=by
 show ([a] == [b]) = _
 by_cases h:a = b <;> simp [h]
set_option maxHeartbeats 2000000 in
theorem f_Whitespace {c:Cx} (h:Is c) {n:Nat} {raw:Str} (hl:raw.length ≤ 500):InitOk c (n + 1) 248 203 [.str raw]
  [("raw",.str raw),("n",.int (wsOf (wsPre raw)).n),("nt",.int (wsOf (wsPre raw)).nt),("norm",.tup [.tup ((wsOf (wsPre raw)).cnt.map .int),.int (wsOf (wsPre raw)).b]),("is_simple",.bool (decide ((wsOf (wsPre raw)).cnt.length ≤ 1)))]:=by
 refine InitOk.def (ho:=by rw [h]; rfl) (hcd:=by rw [h]; rfl) (N:=["ws"]) (ds0:=[.str raw]) (lo₁:=[])
  (ow₁:=[("self",.ins 248 [("raw",.str raw),("n",.int (wsOf (wsPre raw)).n),("nt",.int (wsOf (wsPre raw)).nt),("norm",.tup [.tup ((wsOf (wsPre raw)).cnt.map .int),.int (wsOf (wsPre raw)).b]),("is_simple",.bool (decide ((wsOf (wsPre raw)).cnt.length ≤ 1)))])]) ?_ (by decide) (by rfl) (fun L x => ?_) rfl
 ·intro s own x vs ext r
  cases r with
  | cons r1 r =>
   cases r
   exact ⟨_,.of_eq rfl,rfl,.cons r1 .nil⟩
 ·refine Ex.cons (Ex1.setattr (EV.name rfl) rfl rfl (s_raw h) rfl (by decide)) ?_
  refine Ex.cons (Ex1.swap (xs:=["S", "T"]) (EV.tuple (EVs.cons (EV.clsStr (g_Whitespace h) (mc:=.type "type") (by rw [h]; rfl) (by rw [h]; rfl)) (EVs.cons (EV.clsStr (g_Whitespace h) (mc:=.type "type") (by rw [h]; rfl) (by rw [h]; rfl)) .nil))) (Bns.cons (.inl rfl) (Bns.cons (.inl rfl) Bns.nil))) ?_
  refine Ex.cons (Ex1.fresh (EVF.list .nil) (.inl rfl)) ?_
  refine Ex.cons (Ex1.assign3 EV.int (.inl rfl) (.inl rfl) (.inl rfl)) ?_
  have pre_le:(wsPre raw).length ≤ raw.cps.toList.length:=(List.takeWhile_sublist _).length_le
  have hraw:raw.cps.toList.length ≤ 500:=hl
  have pre_take:∀ j,j ≤ (wsPre raw).length→raw.cps.toList.take j = (wsPre raw).take j:=fun j hj => by
   obtain ⟨t,ht⟩:=List.takeWhile_prefix (p:=isWs) (l:=raw.cps.toList)
   have ht':wsPre raw ++ t = raw.cps.toList:=ht
   rw [ht'.symm,List.take_append_of_le_length hj]
  let lo:WsS→List (Str × D):=fun s => [("ws",.str raw),("S",.str " "),("T",.str "\t"),("b",.int s.b),("n",.int s.n),("nt",.int s.nt)]
  let ow:WsS→List (Str × OwnD):=fun s => [("count",.lst (s.cnt.map .int)),("self",.ins 248 [("raw",.str raw)])]
  let st:Nat→WsS:=fun j => wsOf ((wsPre raw).take j)
  refine Ex.cons (Ex1.loopG (ITS.strF (EV.attr (EV.name rfl) (a_raw h) rfl)) (fun j => lo (st j)) (fun j => ow (st j)) (wsPre raw).length (by simp [signsD]; exact pre_le) (.of rfl) (.of rfl) ?_ (o:=.next (lo (st (wsPre raw).length)) (ow (st (wsPre raw).length))) ?_) ?_
  ·intro i d hi hd
   left;rcases signsD_at hd with ⟨ch,hc,z0_⟩;right;subst z0_
   have hpre:(wsPre raw)[i]? = some ch:=by
    have h1:(raw.cps.toList.take (i + 1))[i]? = some ch:=by rw [List.getElem?_take_of_lt (Nat.lt_succ_self i)] at ⊢; exact hc
    rw [pre_take (i + 1) hi,List.getElem?_take_of_lt (Nat.lt_succ_self i)] at h1
    exact h1
   have hws:isWs ch = true:=List.all_eq_true.mp (List.all_takeWhile (p:=isWs) (l:=raw.cps.toList)) ch (List.mem_of_getElem? hpre)
   have hst:st (i + 1) = wsStep (st i) ch:=by
    show wsOf _ = _
    rw [List.take_add_one,hpre]
    exact wsOf_snoc _ _
   rw [hst]
   have hbd:=wsOf_bd ((wsPre raw).take i)
   have hlen:((wsPre raw).take i).length ≤ 500:=by rw [List.length_take]; omega
   generalize hs:st i = s
   have hs':wsOf ((wsPre raw).take i) = s:=hs
   rw [hs'] at hbd
   left;rcases hbd with ⟨q1,q2,q3⟩;right
   have hc5:(s.cnt.map D.int).length ≤ lim:=by simp [lim]; omega
   have e1:cmpD .Eq (.str ⟨#[ch]⟩) (.str " ") = some (decide (ch = 32)):=congrArg some (eqSign ch 32)
   have e2:cmpD .Eq (.str ⟨#[ch]⟩) (.str "\t") = some (decide (ch = 9)):=congrArg some (eqSign ch 9)
   by_cases h32:ch = 32
   ·have hw:wsStep s ch = ⟨s.n + 1,s.nt,s.cnt,s.b + 1⟩:=by unfold wsStep; rw [if_pos h32]
    rw [hw]
    rw [decide_eq_true h32] at e1
    exact Step.of (Tg.name (.inl rfl)) (Ex.post (Ex.cons (Ex1.ite (t:=true) (TV.cmp (EV.name rfl) (EV.name rfl) e1) (fun _ => Ex.cons (Ex1.assign (EV.bin (EV.name rfl) EV.int rfl) (.inl rfl)) (Ex.cons (Ex1.assign (EV.bin (EV.name rfl) EV.int rfl) (.inl rfl)) Ex.nil)) (fun z => by cases z)) Ex.nil) (.of rfl) (.of rfl))
   ·have h9:ch = 9:=by
     unfold isWs at hws
     simp [h32] at hws
     exact hws
    have hw:wsStep s ch = ⟨s.n + 1,s.nt + 1,bump s.cnt s.b,0⟩:=by unfold wsStep; rw [if_neg h32]
    rw [hw]
    rw [decide_eq_false h32] at e1
    rw [decide_eq_true h9] at e2
    refine Step.of (Tg.name (.inl rfl)) (Ex.post (Ex.cons (Ex1.ite (t:=false) (TV.cmp (EV.name rfl) (EV.name rfl) e1) (fun z => by cases z) (fun _ => Ex.cons (Ex1.ite (t:=true) (TV.cmp (EV.name rfl) (EV.name rfl) e2) (fun _ =>
     Ex.cons (Ex1.assign (EV.bin (EV.name rfl) EV.int rfl) (.inl rfl)) (Ex.cons (Ex1.assign (EV.bin (EV.name rfl) EV.int rfl) (.inl rfl)) ?_)) (fun z => by cases z)) Ex.nil)) Ex.nil) (lo1:=[("b",.int 0),("nt",.int ((s.nt:Int) + 1)),("n",.int ((s.n:Int) + 1)),("ws",.str raw),("S",.str " "),("T",.str "\t")]) (ow1:=[("count",.lst ((bump s.cnt s.b).map .int)),("self",.ins 248 [("raw",.str raw)])]) (.of rfl) (.of rfl))
    by_cases hb:s.b ≥ s.cnt.length
    ·have hlen2:((s.cnt ++ List.replicate (s.b - s.cnt.length + 1) 0).map D.int).length ≤ lim:=by simp [lim]; omega
     have hrep:(s.cnt.map D.int) ++ List.replicate ((s.b:Int) - ((s.cnt.map D.int).length:Int) + 1).toNat (D.int 0) = (s.cnt ++ List.replicate (s.b - s.cnt.length + 1) 0).map .int:=by
      have:((s.b:Int) - ((s.cnt.map D.int).length:Int) + 1).toNat = s.b - s.cnt.length + 1:=by simp; omega
      rw [this]; simp
     refine Ex.cons (Ex1.ite (t:=true) (TV.cmp (EV.name rfl) (EV.lenL h (EV.name rfl) hc5) (by show some (decide (_ ≥ _)) = _; rw [decide_eq_true (by simp; omega)] at ⊢)) (fun _ => Ex.cons (Ex1.refresh (ow':=[("self",.ins 248 [("raw",.str raw)])])
      (EVF.add (EV.name rfl) (EV.listmul (EV.list (EVs.cons EV.int .nil)) (EV.bin (EV.bin (EV.name rfl) (EV.lenL h (EV.name rfl) hc5) rfl) EV.int rfl) (by simp; omega)) (by simp [lim]; omega)) (by rw [hrep]; exact flat_ints _) (.inl rfl) (.of rfl)) Ex.nil) (fun z => by cases z)) ?_
     rw [hrep]
     have hbl:s.b < (s.cnt ++ List.replicate (s.b - s.cnt.length + 1) 0).length:=by simp; omega
     have hbm:bump s.cnt s.b = (s.cnt ++ List.replicate (s.b - s.cnt.length + 1) 0).set s.b ((s.cnt ++ List.replicate (s.b - s.cnt.length + 1) 0).getD s.b 0 + 1):=by unfold bump; rw [if_pos hb]
     rw [hbm]
     generalize (s.cnt ++ List.replicate (s.b - s.cnt.length + 1) 0) = c' at hlen2 hbl
     have hat:(c'.map D.int)[((s.b:Nat):Int).toNat]? = some (.int (c'.getD s.b 0)):=by
      (rewrite [Int.toNat_natCast]; rw [List.getElem?_map,List.getElem?_eq_getElem hbl,List.getD_eq_getElem?_getD,List.getElem?_eq_getElem hbl] at ⊢); rfl
     refine Ex.cons (Ex1.setF (k:=(s.b:Int)) (j:=s.b) (EV.bin (EV.itemL (EV.name rfl) (EV.name rfl) (by omega) hat hlen2) EV.int rfl) (EV.name rfl) rfl rfl hlen2 (by rw [idx_pos (by omega) (by simp; omega)] at ⊢; simp)) ?_
     refine Ex.post (Ex.cons (Ex1.assign EV.int (.inl rfl)) Ex.nil) (.of rfl) ⟨?_,rfl,trivial⟩
     rw [List.map_set]; rfl
    ·refine Ex.cons (Ex1.ite (t:=false) (TV.cmp (EV.name rfl) (EV.lenL h (EV.name rfl) hc5) (by show some (decide (_ ≥ _)) = _; rw [decide_eq_false (by simp; omega)] at ⊢)) (fun z => by cases z) (fun _ => Ex.nil)) ?_
     have hbl:s.b < s.cnt.length:=by omega
     have hbm:bump s.cnt s.b = s.cnt.set s.b (s.cnt.getD s.b 0 + 1):=by unfold bump; rw [if_neg hb]
     rw [hbm]
     have hat:(s.cnt.map D.int)[((s.b:Nat):Int).toNat]? = some (.int (s.cnt.getD s.b 0)):=by
      (rewrite [Int.toNat_natCast]; rw [List.getElem?_map,List.getElem?_eq_getElem hbl,List.getD_eq_getElem?_getD,List.getElem?_eq_getElem hbl] at ⊢); rfl
     refine Ex.cons (Ex1.setF (k:=(s.b:Int)) (j:=s.b) (EV.bin (EV.itemL (EV.name rfl) (EV.name rfl) (by omega) hat hc5) EV.int rfl) (EV.name rfl) rfl rfl hc5 (by rw [idx_pos (by omega) (by simp; omega)] at ⊢; simp)) ?_
     refine Ex.post (Ex.cons (Ex1.assign EV.int (.inl rfl)) Ex.nil) (.of rfl) ⟨?_,rfl,trivial⟩
     rw [List.map_set]; rfl
  ·by_cases hall:(wsPre raw).length = raw.cps.toList.length
   ·exact .inl ⟨by simp [signsD,hall],rfl⟩
   ·have hlt:(wsPre raw).length < raw.cps.toList.length:=by omega
    have hc:raw.cps.toList[(wsPre raw).length]? = some raw.cps.toList[(wsPre raw).length]:=List.getElem?_eq_getElem hlt
    generalize hch:raw.cps.toList[(wsPre raw).length] = ch at hc
    have hno:isWs ch = false:=by
     have h1:raw.cps.toList = wsPre raw ++ raw.cps.toList.dropWhile isWs:=(List.takeWhile_append_dropWhile).symm
     have h2:(raw.cps.toList.dropWhile isWs)[0]? = some ch:=by
      rw [h1,List.getElem?_append_right (Nat.le_refl _),Nat.sub_self] at hc
      exact hc
     cases hdw:raw.cps.toList.dropWhile isWs with
     | nil => rw [hdw] at h2; cases h2
     | cons a r =>
      rw [hdw] at h2; cases h2
      have:=List.head?_dropWhile_not isWs raw.cps.toList
      rw [hdw] at this
      simpa using this
    have e1:cmpD .Eq (.str ⟨#[ch]⟩) (.str " ") = some false:=(congrArg some (eqSign ch 32)).trans (by
     rw [decide_eq_false]
     intro z; rw [z] at hno; cases hno)
    have e2:cmpD .Eq (.str ⟨#[ch]⟩) (.str "\t") = some false:=(congrArg some (eqSign ch 9)).trans (by
     rw [decide_eq_false]
     intro z; rw [z] at hno; cases hno)
    refine .inr ⟨.str ⟨#[ch]⟩,by unfold signsD; (rewrite [List.getElem?_map] at ⊢; rw [hc]); rfl,.inl ⟨lo (st (wsPre raw).length),ow (st (wsPre raw).length),?_,rfl⟩⟩
    exact Step.of (Tg.name (.inl rfl)) (Ex.postB (Ex.cons_brk (Ex1.ite (t:=false) (TV.cmp (EV.name rfl) (EV.name rfl) e1) (fun z => by cases z) (fun _ => Ex.cons_brk (Ex1.ite (t:=false) (TV.cmp (EV.name rfl) (EV.name rfl) e2) (fun z => by cases z) (fun _ => Ex.cons_brk Ex1.brk))))) (.of rfl) (.of rfl))
  ·have hbd:=wsOf_bd (wsPre raw)
   have est:st (wsPre raw).length = wsOf (wsPre raw):=by show wsOf _ = _; rw [List.take_length]
   rw [est]
   left;rcases hbd with ⟨q1,q2,q3⟩;right
   generalize wsOf (wsPre raw) = s at q1 q2 q3 ⊢
   have hc:(s.cnt.map D.int).length ≤ lim:=by simp [lim]; omega
   refine Ex.cons (Ex1.setattr (EV.name rfl) rfl rfl (s_n h) rfl (by simp)) ?_
   refine Ex.cons (Ex1.setattr (EV.name rfl) rfl rfl (s_nt h) rfl (by simp)) ?_
   refine Ex.cons (Ex1.setattr (EV.tuple (EVs.cons (EV.call (g_tuple h) KeepF.type (EVs.cons (EV.name rfl) .nil) (FnOk.builtin (d:=.tup (s.cnt.map .int)) (call_tupL hc))) (EVs.cons (EV.name rfl) .nil))) (by simp [flatD,flatDs,flat_ints]) rfl (s_norm h) rfl (by simp)) ?_
   refine Ex.post (Ex.cons (Ex1.setattr (EV.cmp (t:=decide ((s.cnt.length:Int) ≤ 1)) (EV.lenL h (EV.name rfl) hc) EV.int (by show some (decide (((s.cnt.map D.int).length:Int) ≤ 1)) = _; simp)) rfl rfl (s_simple h) rfl (by simp)) Ex.nil) trivial ⟨?_,trivial⟩
   have e:decide ((s.cnt.length:Int) ≤ 1) = decide (s.cnt.length ≤ 1):=by
    by_cases z:s.cnt.length ≤ 1
    ·(rewrite [decide_eq_true z]; rw [decide_eq_true (by omega)] at ⊢)
    ·(rewrite [decide_eq_false z]; rw [decide_eq_false (by omega)] at ⊢)
   rw [e]
   rfl
end
section
noncomputable abbrev S (l:List Nat):Str:=⟨l.toArray⟩
theorem S_app (a b:List Nat):S a ++ S b = S (a ++ b):=by
 show (⟨a.toArray ++ b.toArray⟩:Str) = _
 simp
theorem S_len (a:List Nat):(S a).length = a.length:=by
 show (a.toArray).size = _
 simp
theorem S_signs (a:List Nat):signsD (S a) = a.map fun ch => .str (S [ch]):=by
 unfold signsD
 simp
theorem inStr_one (ch:Nat) (x:Str):inStr (S [ch]) x = decide (ch ∈ x.cps.toList):=by
 unfold inStr
 exact StrLaws.found_one x ch
theorem inWs (ch:Nat):inStr (S [ch]) " \t" = isWs ch:=by
 rw [inStr_one]
 show decide (ch ∈ [32,9]) = _
 unfold isWs
 by_cases h1:ch = 32 <;> by_cases h2:ch = 9 <;> simp [h1,h2]
noncomputable def pOpen (ps:List (List Nat)) (ch:Nat):List (List Nat):=if isWs ch != (ps.length % 2 == 0) then ps ++ [[]] else ps
noncomputable def pStep (ps:List (List Nat)) (ch:Nat):List (List Nat):=(pOpen ps ch).set ((pOpen ps ch).length - 1) ((pOpen ps ch).getD ((pOpen ps ch).length - 1) [] ++ [ch])
noncomputable def pieces (l:List Nat):List (List Nat):=l.foldl pStep [[]]
noncomputable def strsD (ps:List (List Nat)):List D:=ps.map fun p => .str (S p)
theorem pOpen_len (ps:List (List Nat)) (ch:Nat):ps.length ≤ (pOpen ps ch).length∧(pOpen ps ch).length ≤ ps.length + 1:=by
 unfold pOpen; split <;> simp
theorem pStep_len (ps:List (List Nat)) (ch:Nat):ps.length ≤ (pStep ps ch).length∧(pStep ps ch).length ≤ ps.length + 1:=by
 unfold pStep; rw [List.length_set]; exact pOpen_len ps ch
noncomputable def sumLen (ps:List (List Nat)):Nat:=(ps.map List.length).sum
theorem mem_sumLen {ps:List (List Nat)} {p:List Nat} (h:p ∈ ps):p.length ≤ sumLen ps:=by
 induction ps with
 | nil => cases h
 | cons a r ih =>
  unfold sumLen at *
  rcases List.mem_cons.mp h with rfl | h
  ·simp
  ·have:=ih h; simp; omega
theorem sumLen_set:∀ (ps:List (List Nat)) (i:Nat) (p:List Nat),i < ps.length→sumLen (ps.set i p) + (ps.getD i []).length = sumLen ps + p.length
 | [],i,p,h => by simp at h
 | a :: r,0,p,h => by simp [sumLen]; omega
 | a :: r,i + 1,p,h => by
  have:=sumLen_set r i p (by simpa using h)
  simp [sumLen] at this ⊢
  omega
theorem pStep_sum (ps:List (List Nat)) (ch:Nat) (h:0 < ps.length):sumLen (pStep ps ch) = sumLen ps + 1:=by
 unfold pStep
 have h1:=(pOpen_len ps ch).1
 have h2:=sumLen_set (pOpen ps ch) ((pOpen ps ch).length - 1) ((pOpen ps ch).getD ((pOpen ps ch).length - 1) [] ++ [ch]) (by omega)
 have h3:sumLen (pOpen ps ch) = sumLen ps:=by unfold pOpen; split <;> simp [sumLen]
 rw [h3] at h2
 simp only [List.length_append,List.length_cons,List.length_nil] at h2
 omega
theorem pieces_bd:∀ (l:List Nat) (ps:List (List Nat)),0 < ps.length→ps.length ≤ (l.foldl pStep ps).length∧(l.foldl pStep ps).length ≤ ps.length + l.length∧sumLen (l.foldl pStep ps) = sumLen ps + l.length
 | [],ps,h => ⟨Nat.le_refl _,Nat.le_refl _,rfl⟩
 | ch :: l,ps,h => by
  have h1:=pStep_len ps ch
  have h2:=pieces_bd l (pStep ps ch) (by omega)
  have h3:=pStep_sum ps ch h
  simp only [List.foldl_cons,List.length_cons]
  omega
theorem pieces_snoc (l:List Nat) (ch:Nat):pieces (l ++ [ch]) = pStep (pieces l) ch:=by simp [pieces,List.foldl_append]
theorem idx_last {m:Nat} (h:0 < m):idx (-1) m = some (m - 1):=by
 unfold idx
 rw [if_neg (by decide),if_pos (by omega)] at ⊢
 congr 1; omega
section
variable {c:Cx} {n:Nat} {env:Env} {lo:List (Str × D)} {o i:PySem.Expr} {pos:Pos}
theorem EV.last {ds:List D} {d:D} (x:EV c n env lo o (.lst ds)) (y:EV c n env lo i (.int (-1))) (h0:0 < ds.length) (hd:ds[ds.length - 1]? = some d) (hl:ds.length ≤ lim) (hs:autoParam (∀ u v,subscripted i false u v = operate [u,v] (getItem u v)) byIIR):EV c n env lo (.Subscript o i pos) d:=
 EV.item x y (by
  show (if _ then _ else _) = _
  rw [if_pos hl]
  rw [idx_last h0]
  exact hd) hs
end
theorem strsD_last {ps:List (List Nat)} (h:0 < ps.length):(strsD ps)[(strsD ps).length - 1]? = some (.str (S (ps.getD (ps.length - 1) []))):=by
 unfold strsD
 (rewrite [List.getElem?_map] at ⊢; rewrite [List.length_map]; rw [List.getElem?_eq_getElem (by omega),List.getD_eq_getElem?_getD,List.getElem?_eq_getElem (by omega)] at ⊢)
 rfl
theorem getD_le {ps:List (List Nat)} (h:0 < ps.length):(ps.getD (ps.length - 1) []).length ≤ sumLen ps:=by
 rw [List.getD_eq_getElem?_getD,List.getElem?_eq_getElem (by omega)] at ⊢
 exact mem_sumLen (List.getElem_mem _)
set_option maxHeartbeats 1000000 in
theorem f_pieces {c:Cx} (h:Is c) {n:Nat} (l:List Nat) (hl:l.length ≤ 1000):FnOk c (n + 1) (.ref 278) [.str (S l)] [] (.lst (strsD (pieces l))):=by
 refine FnOk.def (ho:=by rw [h]; rfl) (hcd:=by rw [h]; rfl) (N:=["line"]) (ds0:=[.str (S l)]) (b1 fun _ => rfl) (by decide) (by rfl) ?_ (.inl rfl)
 intro L
 refine Ex.cons (Ex1.fresh (EVF.list (EVs.cons EV.str .nil)) (.inl rfl)) ?_
 refine Ex.cons (Ex1.loop (IT.str (EV.name rfl)) (fun _ => [("line",.str (S l))]) (fun j => [("pieces",.lst (strsD (pieces (l.take j))))]) l.length (by rw [S_signs]; simp) (.of rfl) (.of rfl) ?_ (.inl ⟨by rw [S_signs]; simp,rfl⟩)) ?_
 ·intro j d hj hd
  rw [S_signs,List.getElem?_map] at hd
  left;rcases Option.map_eq_some_iff.mp hd with ⟨ch,hch,z0_⟩;right;subst z0_
  have hst:pieces (l.take (j + 1)) = pStep (pieces (l.take j)) ch:=by
   rw [List.take_add_one,hch]; exact pieces_snoc _ _
  rw [hst]
  left;rcases pieces_bd (l.take j) [[]] (by decide) with ⟨q1,q2,q3⟩;right
  have ht:(l.take j).length ≤ 1000:=by rw [List.length_take]; omega
  have q3':sumLen (pieces (l.take j)) = 0 + (l.take j).length:=q3
  have q1':1 ≤ (pieces (l.take j)).length:=q1
  have q2':(pieces (l.take j)).length ≤ 1 + (l.take j).length:=q2
  generalize pieces (l.take j) = ps at q1' q2' q3'
  have hc:(strsD ps).length ≤ lim:=by simp [strsD,lim]; omega
  have e0:cmpD .In (.str (S [ch])) (.str " \t") = some (isWs ch):=congrArg some (inWs ch)
  have e1:(((strsD ps).length:Int).fmod 2 == 0) = (ps.length % 2 == 0):=by
   have:(strsD ps).length = ps.length:=by simp [strsD]
   (rewrite [this]; rw [Int.fmod_eq_emod_of_nonneg _ (by decide)] at ⊢)
   have e:((ps.length:Int) % 2) = ((ps.length % 2:Nat):Int):=by omega
   rw [e]
   generalize ps.length % 2 = m
   by_cases z:m = 0
   ·subst z; rfl
   ·rw [Bool.eq_iff_iff]
    constructor
    ·intro q; have:=of_decide_eq_true q; exact absurd (by omega) z
    ·intro q; exact absurd (by simpa using q) z
  have hps':=pOpen_len ps ch
  have hsum:sumLen (pOpen ps ch) = sumLen ps:=by unfold pOpen; split <;> simp [sumLen]
  have fin:∀ (ps':List (List Nat)) (L:Addr) (lo0:List (Str × D)) (st:Stmt) (o:Out),True:=fun _ _ _ _ _ => trivial
  refine Step.of (Tg.name (.inl rfl)) (Ex.post (Ex.cons (Ex1.post (lo':=[("line",.str (S l)),("sign",.str (S [ch]))]) (ow':=[("pieces",.lst (strsD (pOpen ps ch)))]) (lo1:=[("sign",.str (S [ch])),("line",.str (S l))]) (ow1:=[("pieces",.lst (strsD (pOpen ps ch)))]) (Ex1.ite (t:=isWs ch != (ps.length % 2 == 0))
   (TV.cmp (EV.cmp (EV.name rfl) EV.str e0) (EV.cmp (EV.fmod (EV.lenL h (EV.name rfl) hc) EV.int (by decide)) EV.int (congrArg some e1)) rfl) (fun z => ?_) (fun z => ?_)) (.of rfl) (.of rfl)) (Ex.cons (Ex1.setF (k:=-1) (j:=(pOpen ps ch).length - 1) (EV.cat (EV.last (EV.name rfl) (EV.neg EV.int) (by simp [strsD]; omega) (strsD_last (by omega)) (by simp [strsD,lim]; omega)) (EV.name rfl) ?_) (EV.neg EV.int) rfl rfl (by simp [strsD,lim]; omega) (by rw [idx_last (by simp [strsD]; omega)] at ⊢; simp [strsD])) Ex.nil)) (.of rfl) ⟨?_,trivial⟩)
  ·have e:strsD (pOpen ps ch) = strsD ps ++ [.str ""]:=by
    unfold pOpen; rw [if_pos z]; simp [strsD]; rfl
   rw [e]
   exact Ex.post (Ex.cons (Ex1.append EV.str rfl hc) Ex.nil) (.of rfl) (.of rfl)
  ·have e:strsD (pOpen ps ch) = strsD ps:=by
    unfold pOpen; rw [if_neg (by rw [z]; decide)] at ⊢
   rw [e]
   exact Ex.nil
  ·have:=getD_le (ps:=pOpen ps ch) (by omega)
   rw [S_len,S_len]
   simp only [List.length_cons,List.length_nil]
   unfold lim
   omega
  ·rw [S_app]
   unfold strsD pStep
   rw [List.map_set]
   rfl
 ·refine Ex.cons_ret (Ex1.ret ?_)
  rw [List.take_length]
  exact EV.name rfl
end
section
section
variable {c:Cx} {n:Nat} {env:Env} {lo:List (Str × D)} {l r:PySem.Expr} {pos:Pos}
theorem EV.pow {i:Int} {j:Nat} (x:EV c n env lo l (.int i)) (y:EV c n env lo r (.int j)) (hi:i.natAbs ≤ 8) (hj:j ≤ 1000):EV c n env lo (.BinOp l .Pow r pos) (.int (i ^ j)):=EV.bin x y (by
 show (if _ then _ else _) = _
 (rewrite [if_pos ⟨hi,by omega,by omega⟩] at ⊢; rw [Int.toNat_natCast]))
theorem EV.fdivN {i j:Nat} (x:EV c n env lo l (.int (i:Int))) (y:EV c n env lo r (.int (j:Int))) (h0:0 < j) (h:j < 2 ^ 60):EV c n env lo (.BinOp l .FloorDiv r pos) (.int ((i / j:Nat):Int)):=by
 have:=EV.fdiv (pos:=pos) x y (by omega) (by omega)
 rw [Int.fdiv_eq_ediv_of_nonneg _ (by omega)] at this
 exact this
theorem EV.fmodN {i j:Nat} (x:EV c n env lo l (.int (i:Int))) (y:EV c n env lo r (.int (j:Int))) (h0:0 < j):EV c n env lo (.BinOp l .Mod r pos) (.int ((i % j:Nat):Int)):=by
 have:=EV.fmod (pos:=pos) x y (by omega)
 rw [Int.fmod_eq_emod_of_nonneg _ (by omega)] at this
 exact this
theorem EV.powN {i j:Nat} (x:EV c n env lo l (.int (i:Int))) (y:EV c n env lo r (.int (j:Int))) (hi:i ≤ 8) (hj:j ≤ 1000):EV c n env lo (.BinOp l .Pow r pos) (.int ((i ^ j:Nat):Int)):=by
 have:=EV.pow (pos:=pos) x y (by omega) hj
 have e:((i:Int) ^ j) = ((i ^ j:Nat):Int):=by push_cast; rfl
 rw [e] at this
 exact this
theorem EV.addN {i j:Nat} (x:EV c n env lo l (.int (i:Int))) (y:EV c n env lo r (.int (j:Int))):EV c n env lo (.BinOp l .Add r pos) (.int ((i + j:Nat):Int)):=EV.bin x y (by
 show some (D.int ((i:Int) + (j:Int))) = _
 push_cast; rfl)
theorem cmpEqN {i j:Nat}:cmpD .Eq (.int (i:Int)) (.int (j:Int)) = some (decide (i = j)):=by
 show some ((i:Int) == (j:Int)) = _
 by_cases h:i = j
 ·subst h; simp
 ·rw [decide_eq_false h]
  congr 1
  have:¬ (i:Int) = (j:Int):=by omega
  simpa using this
end
theorem enumD_at {ds:List D} {i:Nat} {d:D} (h:(enumD ds)[i]? = some d):∃ d0,ds[i]? = some d0∧d = .tup [.int (i:Int),d0]:=by
 unfold enumD at h
 rw [List.getElem?_map] at h
 left;rcases Option.map_eq_some_iff.mp h with ⟨p,hp,z0_⟩;right;subst z0_
 rw [List.getElem?_zipIdx] at hp
 left;rcases Option.map_eq_some_iff.mp hp with ⟨d0,hd0,z0_⟩;right;subst z0_
 exact ⟨d0,hd0,by simp⟩
theorem enumD_len {ds:List D}:(enumD ds).length = ds.length:=by simp [enumD]
noncomputable def fOpen (bits:Nat) (ls:List (List Nat)) (j:Nat):List (List Nat):=if (decide (j % 2 = 1) && (decide (bits / 2 ^ (j / 2) % 2 = 0) && true)) then ls ++ [[]] else ls
noncomputable def fAt (bits:Nat) (ps:List (List Nat)):Nat→List (List Nat)
 | 0 => [[]]
 | j + 1 => (fOpen bits (fAt bits ps j) j).set ((fOpen bits (fAt bits ps j) j).length - 1) ((fOpen bits (fAt bits ps j) j).getD ((fOpen bits (fAt bits ps j) j).length - 1) [] ++ ps.getD j [])
noncomputable def folded (l:List Nat) (bits:Nat):List (List Nat):=fAt bits (pieces l) (pieces l).length
theorem fOpen_len (bits:Nat) (ls:List (List Nat)) (j:Nat):ls.length ≤ (fOpen bits ls j).length∧(fOpen bits ls j).length ≤ ls.length + 1∧sumLen (fOpen bits ls j) = sumLen ls:=by
 unfold fOpen; split <;> simp [sumLen]
theorem fAt_bd (bits:Nat) (ps:List (List Nat)):∀ j,j ≤ ps.length→1 ≤ (fAt bits ps j).length∧(fAt bits ps j).length ≤ j + 1∧sumLen (fAt bits ps j) = sumLen (ps.take j)
 | 0,_ => ⟨Nat.le_refl _,Nat.le_refl _,by simp [fAt,sumLen]⟩
 | j + 1,hj => by
  left;rcases fAt_bd bits ps j (by omega) with ⟨h1,h2,h3⟩;right
  left;rcases fOpen_len bits (fAt bits ps j) j with ⟨q1,q2,q3⟩;right
  unfold fAt
  rw [List.length_set]
  refine ⟨by omega,by omega,?_⟩
  have:=sumLen_set (fOpen bits (fAt bits ps j) j) ((fOpen bits (fAt bits ps j) j).length - 1) ((fOpen bits (fAt bits ps j) j).getD ((fOpen bits (fAt bits ps j) j).length - 1) [] ++ ps.getD j []) (by omega)
  rw [List.length_append] at this
  have e:sumLen (ps.take (j + 1)) = sumLen (ps.take j) + (ps.getD j []).length:=by
   have e1:ps.take (j + 1) = ps.take j ++ [ps.getD j []]:=by
    (rewrite [List.take_add_one]; rw [List.getElem?_eq_getElem (by omega),List.getD_eq_getElem?_getD,List.getElem?_eq_getElem (by omega)] at ⊢); rfl
   unfold sumLen
   rw [e1,List.map_append,List.sum_append]
   rfl
  omega
theorem sumLen_take (ps:List (List Nat)) (j:Nat):sumLen (ps.take j) ≤ sumLen ps:=by
 conv => rhs; rw [← List.take_append_drop j ps]
 unfold sumLen
 rw [List.map_append,List.sum_append]
 omega
theorem g_pieces {c:Cx} (h:Is c) {env:Env} (hk:autoParam (env.kindOf "_law_pieces" = some .globalImplicit) byRfl):GlobIs c env "_law_pieces" (.ref 278):=GlobIs.glob (by rw [h]; rfl) hk
theorem g_enumerate {c:Cx} (h:Is c) {env:Env} (hk:autoParam (env.kindOf "enumerate" = some .globalImplicit) byRfl):GlobIs c env "enumerate" (.type "enumerate"):=GlobIs.built (by rw [h]; rfl) (by rfl) (by decide) hk
set_option maxHeartbeats 1000000 in
theorem f_folded {c:Cx} (h:Is c) {n:Nat} (l:List Nat) (bits:Nat) (hl:l.length ≤ 90):FnOk c (n + 2) (.ref 285) [.str (S l),.int (bits:Int)] [] (.lst (strsD (folded l bits))):=by
 refine FnOk.def (ho:=by rw [h]; rfl) (hcd:=by rw [h]; rfl) (N:=["line", "bits"]) (ds0:=[.str (S l),.int (bits:Int)]) (b2 fun _ _ => rfl) (by decide) (by rfl) ?_ (.inl rfl)
 intro L
 left;rcases pieces_bd l [[]] (by decide) with ⟨p1,p2,p3⟩;right
 have p1':1 ≤ (pieces l).length:=p1
 have p2':(pieces l).length ≤ 1 + l.length:=p2
 have p3':sumLen (pieces l) = 0 + l.length:=p3
 have hlen:(enumD (strsD (pieces l))).length = (pieces l).length:=by rw [enumD_len]; simp [strsD]
 refine Ex.cons (Ex1.fresh (EVF.list (EVs.cons EV.str .nil)) (.inl rfl)) ?_
 refine Ex.cons (Ex1.loop (IT.enum (g_enumerate h) (EV.call (g_pieces h) (KeepF.of (by rw [h]; rfl)) (EVs.cons (EV.name rfl) .nil) (f_pieces h l (by omega)))) (fun _ => [("line",.str (S l)),("bits",.int (bits:Int))]) (fun j => [("lines",.lst (strsD (fAt bits (pieces l) j)))]) (pieces l).length (by rw [hlen]; exact Nat.le_refl _) (.of rfl) (.of rfl) ?_ (.inl ⟨hlen.symm,rfl⟩)) (Ex.cons_ret (Ex1.ret (EV.name rfl)))
 intro j d hj hd
 left;rcases enumD_at hd with ⟨d0,hd0,z0_⟩;right;subst z0_
 unfold strsD at hd0
 rw [List.getElem?_map] at hd0
 left;rcases Option.map_eq_some_iff.mp hd0 with ⟨p,hp,z0_⟩;right;subst z0_
 left;rcases fAt_bd bits (pieces l) j (by omega) with ⟨q1,q2,q3⟩;right
 have q4:=sumLen_take (pieces l) j
 have hst:fAt bits (pieces l) (j + 1) = (fOpen bits (fAt bits (pieces l) j) j).set ((fOpen bits (fAt bits (pieces l) j) j).length - 1) ((fOpen bits (fAt bits (pieces l) j) j).getD ((fOpen bits (fAt bits (pieces l) j) j).length - 1) [] ++ p):=by
  show (fOpen bits (fAt bits (pieces l) j) j).set _ (_ ++ (pieces l).getD j []) = _
  (rewrite [List.getD_eq_getElem?_getD (l:=pieces l)] at ⊢; rw [hp]); rfl
 rw [hst]
 have hpl:p.length ≤ 90:=by have:=mem_sumLen (List.mem_of_getElem? hp); omega
 generalize fAt bits (pieces l) j = ls at q1 q2 q3
 left;rcases fOpen_len bits ls j with ⟨o1,o2,o3⟩;right
 have hc:(strsD ls).length ≤ lim:=by simp [strsD,lim]; omega
 have hj50:2 ^ (j / 2) < 2 ^ 60:=Nat.pow_lt_pow_right (by decide) (by omega)
 have hpos:0 < 2 ^ (j / 2):=Nat.pow_pos (by decide)
 refine Step.of (Tg.tuple (Tgs.cons (.inl rfl) (Tgs.cons (.inl rfl) Tgs.nil))) (Ex.post (Ex.cons (Ex1.post (lo':=[("line",.str (S l)),("bits",.int (bits:Int)),("piece",.str (S p))]) (ow':=[("lines",.lst (strsD (fOpen bits ls j)))]) (lo1:=[("piece",.str (S p)),("place",.int (j:Int)),("line",.str (S l)),("bits",.int (bits:Int))]) (ow1:=[("lines",.lst (strsD (fOpen bits ls j)))])
  (Ex1.ite (t:=(decide (j % 2 = 1) && (decide (bits / 2 ^ (j / 2) % 2 = 0) && true))) (TV.boolop (AV.and_cons (TV.cmp (EV.fmodN (j:=2) (EV.name rfl) EV.int (by decide)) EV.int (cmpEqN (j:=1))) fun _ => AV.and_cons (TV.cmp (EV.fmodN (j:=2) (EV.fdivN (EV.name rfl) (EV.powN (i:=2) EV.int (EV.fdivN (j:=2) (EV.name rfl) EV.int (by decide) (by decide)) (by decide) (by omega)) hpos hj50) EV.int (by decide)) EV.int (cmpEqN (j:=0))) fun _ => AV.and_nil)) (fun z => ?_) (fun z => ?_)) (.of rfl) (.of rfl))
  (Ex.cons (Ex1.setF (k:=-1) (j:=(fOpen bits ls j).length - 1) (EV.cat (EV.last (EV.name rfl) (EV.neg EV.int) (by simp [strsD]; omega) (strsD_last (by omega)) (by simp [strsD,lim]; omega)) (EV.name rfl) ?_) (EV.neg EV.int) rfl rfl (by simp [strsD,lim]; omega) (by rw [idx_last (by simp [strsD]; omega)] at ⊢; simp [strsD])) Ex.nil)) (.of rfl) ⟨?_,trivial⟩)
 ·have e:strsD (fOpen bits ls j) = strsD ls ++ [.str ""]:=by
   unfold fOpen; rw [if_pos z]; simp [strsD]; rfl
  rw [e]
  exact Ex.post (Ex.cons (Ex1.append EV.str rfl hc) Ex.nil) (.of rfl) (.of rfl)
 ·have e:strsD (fOpen bits ls j) = strsD ls:=by
   unfold fOpen; rw [if_neg (by rw [z]; decide)] at ⊢
  rw [e]
  exact Ex.nil
 ·have:=getD_le (ps:=fOpen bits ls j) (by omega)
  rw [S_len,S_len]
  unfold lim
  omega
 ·rw [S_app]
  unfold strsD
  rw [List.map_set]
  rfl
end
section
noncomputable def joinL (sep:List Nat):List (List Nat)→List Nat
 | [] => []
 | p :: r => r.foldl (fun acc q => acc ++ sep ++ q) p
theorem join_fold (sep:List Nat):∀ (r:List (List Nat)) (acc:List Nat),(r.map S).foldl (fun (a:Array Nat) (p:Str) => a ++ (S sep).cps ++ p.cps) acc.toArray = (r.foldl (fun acc q => acc ++ sep ++ q) acc).toArray
 | [],acc => rfl
 | p :: r,acc => by
  simp only [List.map_cons,List.foldl_cons]
  rw [← join_fold sep r (acc ++ sep ++ p)]
  congr 1
  simp
theorem txt_join (sep:List Nat) (ps:List (List Nat)):Txt.join (S sep) (ps.map S) = S (joinL sep ps):=by
 unfold Txt.join glued
 cases ps with
 | nil => rfl
 | cons p r =>
  have:=join_fold sep r p
  simp only [List.map_cons,List.drop_one,List.tail_cons,List.headD_cons]
  rw [this]; rfl
theorem asStrs_strsD:∀ ps:List (List Nat),asStrs (strsD ps) = some (ps.map S)
 | [] => rfl
 | p :: r => by
  show (asStrs (strsD r)).map _ = _
  rw [asStrs_strsD r]; rfl
theorem joinL_len (sep:List Nat):∀ (r:List (List Nat)) (acc:List Nat),(r.foldl (fun acc q => acc ++ sep ++ q) acc).length = acc.length + r.length * sep.length + sumLen r
 | [],acc => by simp [sumLen]
 | p :: r,acc => by
  rw [List.foldl_cons,joinL_len sep r]
  simp [sumLen,Nat.succ_mul]; omega
section
variable {c:Cx} {n:Nat} {env:Env} {lo:List (Str × D)} {o e:PySem.Expr} {apos pos:Pos}
theorem EV.join {sep:List Nat} {ps:List (List Nat)} {x:Str} {pl:Sem Bool} (hx:x = S sep) (y:EV c n env lo o (.str x)) (a:EV c n env lo e (.lst (strsD ps))) (h1:sep.length ≤ 1000) (h2:ps.length ≤ 1000) (h3:∀ p ∈ ps,p.length ≤ 10000)
  (he:autoParam (eval (.Call (.Attribute o "join" apos) [e] [] pos) env = (do
   let ov ← eval o env
   standAt apos.atName
   let (f,first) ← holding [ov] (getMethod ov "join" pl)
   callWith pos f first (backTo pos (starEach [e] env)) (backToKw pos (keywordEach [] env)))) byRfl) (hp:autoParam (Plain [e] env pos) byPl) (hse:autoParam (starEach [e] env = (false,eval e env) :: starEach [] env) byRfl) :
  EV c n env lo (.Call (.Attribute o "join" apos) [e] [] pos) (.str (S (joinL sep ps))):=by
 subst hx
 have q:=meth_join (x:=S sep) (asStrs_strsD ps) ⟨by rw [S_len]; exact h1,by simpa using h2,by
  rw [List.all_eq_true]
  intro y hy
  left;rcases List.mem_map.mp hy with ⟨p,hp,z0_⟩;right;subst z0_
  rw [decide_eq_true]
  rw [S_len]; exact h3 p hp⟩
 rw [txt_join] at q
 exact EV.smeth (m := "join") y (EVs.cons a .nil hse) q he hp
end
noncomputable def esc (l:List Nat):List Nat:=l.flatMap fun ch => if ch = 34 ∨ ch = 92 then [92,ch] else [ch]
noncomputable def optD:Option (List Nat)→D
 | none => .none
 | some l => .str (S l)
noncomputable def parD (ps:List (List Nat × Option (List Nat))):List (Str × D):=ps.map fun p => (S p.1,optD p.2)
noncomputable def keyT (k:List Nat):List Nat:=if k = [112,95,113] then [112,45,113] else k
noncomputable def partT (p:List Nat × Option (List Nat)):List Nat:=keyT p.1 ++ (if esc (p.2.getD []) = [] then [] else [61,34] ++ esc (p.2.getD []) ++ [34])
noncomputable def lineT (name:List Nat) (own:Option (List Nat)) (ps:List (List Nat × Option (List Nat))):List Nat:=name ++ [58,32] ++ joinL [59,32] (own.toList ++ ps.map partT)
theorem inEsc (ch:Nat):inStr (S [ch]) "\"\\" = decide (ch = 34 ∨ ch = 92):=by
 rw [inStr_one]
 show decide (ch ∈ [34,92]) = _
 by_cases h1:ch = 34 <;> by_cases h2:ch = 92 <;> simp [h1,h2]
theorem esc_snoc (l:List Nat) (ch:Nat):esc (l ++ [ch]) = esc l ++ (if ch = 34 ∨ ch = 92 then [92,ch] else [ch]):=by simp [esc,List.flatMap_append]
theorem esc_len:∀ l:List Nat,(esc l).length ≤ 2 * l.length
 | [] => Nat.le_refl _
 | ch :: r => by
  have ih:=esc_len r
  have e:esc (ch :: r) = (if ch = 34 ∨ ch = 92 then [92,ch] else [ch]) ++ esc r:=by unfold esc; rw [List.flatMap_cons]
  rw [e,List.length_append,List.length_cons]
  split
  ·simp only [List.length_cons,List.length_nil]; omega
  ·simp only [List.length_cons,List.length_nil]; omega
theorem S_inj {a b:List Nat} (h:S a = S b):a = b:=by
 have:=congrArg (fun x:Str => x.cps.toList) h
 simpa using this
theorem parD_lookup {ps:List (List Nat × Option (List Nat))} (hn:(ps.map (·.1)).Nodup) {i:Nat} {p:List Nat × Option (List Nat)} (h:ps[i]? = some p):(parD ps).lookup (S p.1) = some (optD p.2):=by
 induction ps generalizing i with
 | nil => simp at h
 | cons a r ih =>
  obtain ⟨h1,h2⟩:=List.nodup_cons.mp hn
  show List.lookup (S p.1) ((S a.1,optD a.2) :: parD r) = _
  rw [List.lookup_cons]
  cases i with
  | zero =>
   simp at h; subst h
   simp
  | succ i =>
   have hm:p ∈ r:=List.mem_of_getElem? (by simpa using h)
   have:(S p.1 == S a.1) = false:=by
    rw [Bool.eq_false_iff]
    intro z
    have:=S_inj (by simpa using z:S p.1 = S a.1)
    exact h1 (by show a.1 ∈ _; rw [← this]; exact List.mem_map_of_mem hm)
   rw [this]
   exact ih h2 (by simpa using h)
theorem eqStr (a:List Nat) (b:List Nat):((S a).cps.toList == (S b).cps.toList) = decide (a = b):=by
 show (a.toArray.toList == b.toArray.toList) = _
 by_cases h:a = b
 ·subst h; simp
 ·simp [h]
theorem cmpEqS (a b:List Nat):cmpD .Eq (.str (S a)) (.str (S b)) = some (decide (a = b)):=congrArg some (eqStr a b)
theorem cmpNeS (a b:List Nat):cmpD .NotEq (.str (S a)) (.str (S b)) = some (decide (a ≠ b)):=by
 show some ((S a).cps.toList != (S b).cps.toList) = _
 have:=eqStr a b
 unfold bne
 rw [this]
 by_cases h:a = b <;> simp [h]
theorem orText (v:Option (List Nat)) (h:(v.getD []).length ≤ 100):∃ t,truthD (optD v) = some t∧(if t then optD v else .str "") = .str (S (v.getD [])):=by
 cases v with
 | none => exact ⟨false,rfl,rfl⟩
 | some x =>
  have h:x.length ≤ 100:=h
  refine ⟨((S x).length:Int) != 0,?_,?_⟩
  ·show (if _ then _ else _) = _
   rw [if_pos (by rw [S_len]; unfold lim; omega)] at ⊢
  ·cases x with
   | nil => rfl
   | cons a r =>
    have:(((S (a :: r)).length:Int) != 0) = true:=by
     rw [S_len]
     simp only [bne_iff_ne,ne_eq,List.length_cons]
     omega
    rw [this]; rfl
theorem sumLen_le {m:Nat}:∀ (ps:List (List Nat)),(∀ p ∈ ps,p.length ≤ m)→sumLen ps ≤ ps.length * m
 | [],_ => by simp [sumLen]
 | a :: r,h => by
  have h1:=h a (by simp)
  have h2:=sumLen_le r fun p hp => h p (by simp [hp])
  unfold sumLen at *
  rw [List.map_cons,List.sum_cons,List.length_cons,Nat.succ_mul]
  omega
theorem joinL_le {m:Nat} (sep:List Nat) (ps:List (List Nat)) (h:∀ p ∈ ps,p.length ≤ m):(joinL sep ps).length ≤ ps.length * (m + sep.length):=by
 cases ps with
 | nil => simp [joinL]
 | cons p r =>
  show (r.foldl _ p).length ≤ _
  rw [joinL_len]
  have h1:=h p (by simp)
  have h2:=sumLen_le r fun q hq => h q (by simp [hq])
  rw [List.length_cons,Nat.succ_mul,Nat.mul_add]
  omega
theorem EV.cast {c:Cx} {n:Nat} {env:Env} {lo:List (Str × D)} {e:PySem.Expr} {d d':D} (x:EV c n env lo e d) (h:d = d'):EV c n env lo e d':=h ▸ x
set_option maxHeartbeats 1000000 in
theorem f_line {c:Cx} (h:Is c) {n:Nat} (name:List Nat) (own:Option (List Nat)) (ps:List (List Nat × Option (List Nat))) (hn:(ps.map (·.1)).Nodup) (h1:name.length ≤ 100) (h2:ps.length ≤ 10) (h3:∀ p ∈ ps,p.1.length ≤ 10∧(p.2.getD []).length ≤ 100) (h4:(own.getD []).length ≤ 100) :
  FnOk c (n + 1) (.ref 271) [.str (S name),optD own,.dct (parD ps)] [] (.str (S (lineT name own ps))):=by
 refine FnOk.def (ho:=by rw [h]; rfl) (hcd:=by rw [h]; rfl) (N:=["name", "own", "params"]) (ds0:=[.str (S name),optD own,.dct (parD ps)]) (b3 fun _ _ _ => rfl) (by decide) (by rfl) ?_ (.inl rfl)
 intro L
 have hisn:cmpD .Is (optD own) .none = some (own.isNone):=by cases own <;> rfl
 have hparts:(if own.isNone then [] else [optD own]) = strsD own.toList:=by cases own <;> rfl
 refine Ex.cons (Ex1.fresh (EVF.ite (TV.cmp (EV.name rfl) EV.none hisn) (fun _ => EVF.list .nil) (fun _ => EVF.list (EVs.cons (EV.name rfl) .nil))) (.inl rfl)) ?_
 rw [hparts]
 have hnod:((parD ps).map (·.1)).Nodup:=by
  have e:(parD ps).map (·.1) = (ps.map (·.1)).map S:=by simp [parD]
  rw [e]
  exact List.Pairwise.map S (fun a b hne z => hne (S_inj z)) hn
 have hlen:((parD ps).map fun p => D.str p.1).length = ps.length:=by simp [parD]
 have hol:own.toList.length ≤ 1:=by cases own <;> simp
 have partL:∀ p ∈ ps,(partT p).length ≤ 300:=fun p hp => by
  obtain ⟨a,b⟩:=h3 p hp
  have:=esc_len (p.2.getD [])
  unfold partT keyT
  split <;> split <;> simp <;> omega
 refine Ex.cons (Ex1.loop (IT.keys (EV.name rfl) hnod) (fun _ => [("name",.str (S name)),("params",.dct (parD ps))]) (fun j => [("parts",.lst (strsD (own.toList ++ (ps.take j).map partT)))]) ps.length (by rw [hlen]; exact Nat.le_refl _) (.of rfl) ⟨by simp [strsD],trivial⟩ ?_ (.inl ⟨hlen.symm,rfl⟩)) ?_
 ·intro j d hj hd
  have hp:ps[j]? = some ps[j]:=List.getElem?_eq_getElem hj
  generalize ps[j] = p at hp
  have hd':d = .str (S p.1):=by
   unfold parD at hd
   rw [List.getElem?_map,List.getElem?_map,hp] at hd
   cases hd; rfl
  subst hd'
  obtain ⟨b1,b2⟩:=h3 p (List.mem_of_getElem? hp)
  have hlk:=parD_lookup hn hp
  have hor:=orText p.2 b2
  left;rcases hor with ⟨t,ht,hto⟩;right
  have htake:(ps.take (j + 1)).map partT = (ps.take j).map partT ++ [partT p]:=by
   rw [List.take_add_one,hp,List.map_append]; rfl
  rw [htake]
  generalize hv:p.2.getD [] = v at b2 hto
  have hplen:(own.toList ++ (ps.take j).map partT).length ≤ 20:=by
   rw [List.length_append,List.length_map,List.length_take]; omega
  refine Step.of (Tg.name (.inl rfl)) (Ex.post (Ex.cons (Ex1.assign (x := "text") EV.str (.inl rfl)) (Ex.cons (Ex1.loop (IT.str (EV.cast (EV.or2 (a:=optD p.2) (EV.item (a:=.dct (parD ps)) (b:=.str (S p.1)) (EV.name rfl) (EV.name rfl) hlk) ht (fun _ => EV.str)) hto)) (fun i => [("name",.str (S name)),("params",.dct (parD ps)),("key",.str (S p.1)),("text",.str (S (esc (v.take i))))]) (fun _ => [("parts",.lst (strsD (own.toList ++ (ps.take j).map partT)))]) v.length (by rw [S_signs]; simp) (.of rfl) (.of rfl) ?_ (.inl ⟨by rw [S_signs]; simp,rfl⟩)) (Ex.cons (Ex1.append (d:=.str (S (partT p))) ?_ rfl (by simp [strsD,lim] at hplen ⊢; omega)) Ex.nil))) (.of rfl) ⟨?_,trivial⟩)
  ·intro i d hi hd
   rw [S_signs,List.getElem?_map] at hd
   left;rcases Option.map_eq_some_iff.mp hd with ⟨ch,hch,z0_⟩;right;subst z0_
   have he:esc (v.take (i + 1)) = esc (v.take i) ++ (if ch = 34 ∨ ch = 92 then [92,ch] else [ch]):=by
    rw [List.take_add_one,hch]; exact esc_snoc _ _
   rw [he]
   have hl:=esc_len (v.take i)
   have ht2:(v.take i).length ≤ 100:=by rw [List.length_take]; omega
   have e0:cmpD .In (.str (S [ch])) (.str "\"\\") = some (decide (ch = 34 ∨ ch = 92)):=congrArg some (inEsc ch)
   have e1:(if decide (ch = 34 ∨ ch = 92) then D.str ((S [92]) ++ (S [ch])) else D.str (S [ch])) = D.str (S (if ch = 34 ∨ ch = 92 then [92,ch] else [ch])):=by
    by_cases z:ch = 34 ∨ ch = 92
    ·rw [if_pos z,if_pos (decide_eq_true z),S_app]; rfl
    ·(rewrite [if_neg z]; rw [if_neg (by rw [decide_eq_false z]; decide)] at ⊢)
   refine Step.of (Tg.name (.inl rfl)) (Ex.post (Ex.cons (Ex1.assign (EV.cat (EV.name rfl) (EV.cast (EV.ite (TV.cmp (EV.name rfl) EV.str e0) (fun _ => EV.cat EV.str (EV.name rfl) (by rw [S_len]; show 1 + 1 ≤ 100000; decide)) (fun _ => EV.name rfl)) e1) ?_) (.inl rfl)) Ex.nil) ⟨rfl,rfl,rfl,?_,trivial⟩ (.of rfl))
   ·rw [S_len,S_len]
    unfold lim
    split <;> simp <;> omega
   ·rw [S_app]; rfl
  ·rw [List.take_length]
   have hl:=esc_len v
   have e2:(if decide (p.1 = [112,95,113]) then D.str "p-q" else D.str (S p.1)) = D.str (S (keyT p.1)):=by
    unfold keyT
    by_cases z:p.1 = [112,95,113]
    ·rw [if_pos z,if_pos (decide_eq_true z)]; rfl
    ·(rewrite [if_neg z]; rw [if_neg (by rw [decide_eq_false z]; decide)] at ⊢)
   have e3:(if decide (esc v ≠ []) then D.str (("=\"":Str) ++ S (esc v) ++ ("\"":Str)) else D.str "") = D.str (S (if esc v = [] then [] else [61,34] ++ esc v ++ [34])):=by
    by_cases z:esc v = []
    ·(rewrite [if_pos z]; rw [if_neg (by rw [decide_eq_false (fun q => q z)] at ⊢; decide)] at ⊢); rfl
    ·rw [if_neg z,if_pos (decide_eq_true z)]
     have:(("=\"":Str) ++ S (esc v) ++ ("\"":Str)) = S [61,34] ++ S (esc v) ++ S [34]:=rfl
     rw [this,S_app,S_app]
   have hk:(keyT p.1).length ≤ 10:=by
    unfold keyT
    split
    ·decide
    ·omega
   have hpt:partT p = keyT p.1 ++ (if esc v = [] then [] else [61,34] ++ esc v ++ [34]):=by unfold partT; rw [hv]
   rw [hpt,← S_app]
   refine EV.cat (EV.cast (EV.ite (TV.cmp (EV.name rfl) EV.str (cmpEqS p.1 [112,95,113])) (fun _ => EV.str) (fun _ => EV.name rfl)) e2) (EV.cast (EV.ite (TV.cmp (EV.name rfl) EV.str (cmpNeS (esc v) [])) (fun _ => EV.cat (EV.cat EV.str (EV.name rfl) ?_) EV.str ?_) (fun _ => EV.str)) e3) ?_
   all_goals first
    | (rw [S_len]; show 2 + (esc v).length ≤ 100000; omega)
    | (show (S [61,34] ++ S (esc v)).length + 1 ≤ 100000; rw [S_app,S_len]; simp only [List.length_append,List.length_cons,List.length_nil]; omega)
    | (rw [S_len,S_len]; unfold lim; split <;> simp <;> omega)
  ·unfold strsD
   simp
 ·rw [List.take_length]
  refine Ex.cons_ret (Ex1.ret ?_)
  have hm:∀ p ∈ own.toList ++ ps.map partT,p.length ≤ 10000:=fun p hp => by
   rcases List.mem_append.mp hp with q | q
   ·cases own with
    | none => simp at q
    | some x => simp at q; subst q; simp at h4; omega
   ·left;rcases List.mem_map.mp q with ⟨a,ha,z0_⟩;right;subst z0_
    have:=partL a ha; omega
  have e:lineT name own ps = name ++ [58,32] ++ joinL [59,32] (own.toList ++ ps.map partT):=rfl
  rw [e,← S_app,← S_app]
  have jl:(joinL [59,32] (own.toList ++ ps.map partT)).length ≤ 5000:=by
   have h5:=joinL_le (m:=300) [59,32] (own.toList ++ ps.map partT) fun p hp => by
    rcases List.mem_append.mp hp with q | q
    ·cases own with
     | none => simp at q
     | some x => simp at q; subst q; simp at h4; omega
    ·left;rcases List.mem_map.mp q with ⟨a,ha,z0_⟩;right;subst z0_
     exact partL a ha
   have h6:(own.toList ++ ps.map partT).length ≤ 11:=by rw [List.length_append,List.length_map]; omega
   have h7:=Nat.mul_le_mul_right (300 + [59,32].length) h6
   have h8:11 * (300 + ([59,32]:List Nat).length) = 3322:=rfl
   omega
  refine EV.cat (EV.cat (EV.name rfl) EV.str ?_) (EV.join (sep:=[59,32]) rfl EV.str (EV.name rfl) (by decide) (by rw [List.length_append,List.length_map]; omega) hm) ?_
  ·rw [S_len]; show _ + 2 ≤ 100000; omega
  ·rw [S_app,S_len,S_len,List.length_append]
   unfold lim
   simp only [List.length_cons,List.length_nil]
   omega
end
section
section
variable {c:Cx} {n:Nat} {env:Env} {lo:List (Str × D)} {o e:PySem.Expr} {apos pos p:Pos} {lower upper:Option PySem.Expr}
theorem EV.find {x y:Str} {pl:Sem Bool} (a:EV c n env lo o (.str x)) (b:EV c n env lo e (.str y))
  (he:autoParam (eval (.Call (.Attribute o "find" apos) [e] [] pos) env = (do
   let ov ← eval o env
   standAt apos.atName
   let (f,first) ← holding [ov] (getMethod ov "find" pl)
   callWith pos f first (backTo pos (starEach [e] env)) (backToKw pos (keywordEach [] env)))) byRfl) (hp:autoParam (Plain [e] env pos) byPl) (hse:autoParam (starEach [e] env = (false,eval e env) :: starEach [] env) byRfl) :
  EV c n env lo (.Call (.Attribute o "find" apos) [e] [] pos) (.int (Txt.find x y)):=EV.smeth (m := "find") a (EVs.cons b .nil hse) meth_find he hp
theorem EV.cut {x:Str} {l u:Option Int} (a:EV c n env lo o (.str x)) (yl:PV c n env lo lower l) (yu:PV c n env lo upper u) (hl:x.length ≤ lim)
  (hs:autoParam (∀ u v,subscripted (.Slice lower upper Option.none p) false u v = operate [u,v] (getItem u v) ∨ subscripted (.Slice lower upper Option.none p) false u v = operate [v,u] (getItem u v)) byIF) :
  EV c n env lo (.Subscript o (.Slice lower upper Option.none p) pos) (.str (Txt.slice x l u)):=EV.slice a yl yu PV.none (by
 show (if _ then _ else _) = _
 rw [if_pos hl]) hs
end
noncomputable def putT (lead sign other:Str):Str:=if decide (Txt.find lead sign < 0) then lead else Txt.slice lead none (some (Txt.find lead sign)) ++ other ++ Txt.slice lead (some (Txt.find lead sign + 1)) none
theorem str_len_app (a b:Str):(a ++ b).length = a.length + b.length:=by
 show (a.cps ++ b.cps).size = _
 simp; rfl
theorem f_put {c:Cx} (h:Is c) {n:Nat} (lead sign other:Str) (h1:lead.length ≤ 1000) (h2:other.length ≤ 1000):FnOk c (n + 1) (.ref 292) [.str lead,.str sign,.str other] [] (.str (putT lead sign other)):=by
 refine FnOk.def (ho:=by rw [h]; rfl) (hcd:=by rw [h]; rfl) (N:=["lead", "sign", "other"]) (ds0:=[.str lead,.str sign,.str other]) (b3 fun _ _ _ => rfl) (by decide) (by rfl) ?_ (.inl rfl)
 intro L
 have hl:lead.length ≤ lim:=by unfold lim; omega
 have s1:=Txt.slice_le lead none (some (Txt.find lead sign))
 have s2:=Txt.slice_le lead (some (Txt.find lead sign + 1)) none
 refine Ex.cons (Ex1.assign (EV.find (EV.name rfl) (EV.name rfl)) (.inl rfl)) (Ex.cons_ret (Ex1.ret ?_))
 refine EV.cast (EV.ite (TV.cmp (EV.name rfl) EV.int rfl) (fun _ => EV.name rfl) (fun _ => EV.cat (EV.cat (EV.cut (EV.name rfl) PV.none (PV.some (EV.name rfl)) hl) (EV.name rfl) ?_) (EV.cut (EV.name rfl) (PV.some (EV.bin (EV.name rfl) EV.int rfl)) PV.none hl) ?_)) ?_
 ·unfold lim; omega
 ·rw [str_len_app]; unfold lim; omega
 ·unfold putT; split <;> rfl
end
section
noncomputable def FnT (c:Cx) (n:Nat) (f:Value) (ds:List D) (d:D):Prop:=
 ∀ (A:Around) (E:Value→Shared→Prop) (s:Shared) (own:List Addr) (vs:List Value) (Q:Value→Shared→Prop),AOk c n A s.heap→Ext c.H s.heap→OwnOk own s.heap→(∀ a ∈ own,c.H.get? a = none) →
  RdAll c.w.params own s.heap vs ds→(∀ v s',K2 s s'→1 ≤ s'.toks→Rd c.w.params own s'.heap v d→Q v s')→wpAny (model c.prog c.w) A (call f vs []) Q E s
section
variable {c:Cx} {n:Nat} {name qual:Str} {params:Arguments} {scope:Scope} {dV kV doc pm cdv ct oc:Value} {an od:Option Addr} {osl:Array (Option Value)} {f:Addr} {rest:List Stmt} {x:Str} {p p2 p3 p4:Pos}
theorem inCall_fake {s s':Shared} {L:Addr} {m cm:Str→Option Value} {cs:List (Str × Addr)} (q:InCallC s L m cs cm s') (t:Nat):InCallC { s with toks:=1 } L m cs cm { s' with toks:=t }:=by
 have q:=q.tok t
 left;rcases q.toInCall.same with ⟨h,tk,e⟩;right
 exact ⟨⟨⟨h,tk,e⟩,q.toInCall.ns,q.toInCall.keep,q.toInCall.fresh⟩,q.cell,q.apart,q.above⟩
theorem keeps_fake {s s':Shared} {t:Nat} (k:Keeps { s with toks:=t } s'):Keeps s s':=by
 left;rcases k with ⟨h,tk,e,k⟩;right
 exact ⟨h,tk,e,k⟩
theorem fake_keeps {s s':Shared} {t:Nat} (k:Keeps s s'):Keeps { s with toks:=t } s':=by
 left;rcases k with ⟨h,tk,e,k⟩;right
 exact ⟨h,tk,e,k⟩
theorem FnT.def {y:Str} {k:Nat} {ds:List D} {N:List Str} {ds0:List D} {d:D} (ho:c.K.lookup f = some ⟨oc,od,.func (fnOf name qual params (.Assign [.Name x p] (.Constant (.str y) k p2) p3 :: rest) scope dV kV doc pm an cdv ct),osl⟩) (hcd:codeIn c.K cdv qual = true)
  (hb:∀ (s:Shared) (own:List Addr) (vs:List Value),Ext c.H s.heap→RdAll c.w.params own s.heap vs ds→∃ B:List (Str × Value),BindsTo s (fnOf name qual params (.Assign [.Name x p] (.Constant (.str y) k p2) p3 :: rest) scope dV kV doc pm an cdv ct) ⟨vs,([]:List (Str × Bool)).map fun p => (p.1,.bool p.2)⟩ B∧B.map (·.1) = N∧RdAll c.w.params own s.heap (B.map (·.2)) ds0)
  (hN:N.Nodup) (hk:N.all (fun y => scope.names.lookup y == some .local || scope.names.lookup y == some .cell) = true) (hx:∀ L,canStore (envOfC qual scope L f cdv) x)
  (hbody:∀ L,Ex c n (envOfC qual scope L f cdv) [] rest ((x,.str y) :: N.zip ds0) [] (.ret d)) (hs:autoParam (∀ L,swapsWith (.Constant (.str y) k p2) (some (.Name x p)) p3.line (envOfC qual scope L f cdv) = pure false) byIR)
  (hco:autoParam (scope.isCoroutine = false) byRfl) (hgen:autoParam (scope.isGenerator = false) byRfl) (hkind:autoParam (scope.kind = .function) byRfl):FnT c (n + 1) (.ref f) ds d:=fun A E s own vs Q ao ext ok base r h => by
 left;rcases hb s own vs ext r with ⟨B,hbind,z0_,rB⟩;right;subst z0_
 have hk':∀ m,∀ x ∈ B,scope.names.lookup x.1 = some .local ∨ (scope.names.lookup x.1 = some .cell∧((cellsFrom m scope.names []).lookup x.1).isSome = true):=kindsX (binds:=B) (by
  rw [List.all_eq_true] at hk ⊢
  exact fun x hx => hk x.1 (List.mem_map_of_mem hx))
 have X:c.K.In s.heap:=c.X.keeps ext
 refine wpAny_call (codeAny_with_toks (Nat.le_refl s.toks) (codeAny_call_function (by have:=ao.depth; omega) (X _ _ ho) rfl hco hgen rfl (codeRec_of X hcd) (hbind _ _ _ _ ?_)))
 refine wpAny_with_toks (Nat.le_refl s.toks) (wpAny_newFunctionEnv_cells hkind (hk' _) fun env he s' q htk => ?_)
 subst he
 refine ⟨(c.T.nolimit.keeps ext).keeps q.toInCall.keep,codeAny_func ?_⟩
 left;rcases entry_sto (s:={ s with toks:=1 }) (s':={ s' with toks:=s'.toks + 1 }) (n:=n) (qual:=qual) (f:=f) (cdv:=cdv) ao ext ok base (Nat.le_refl 1) (Nat.succ_le_succ (Nat.zero_le _)) hkind hN (hk' _) (fun y d e => zip_lookup rB e) (ex0:=[]) (fun y v e => by simp at e) (inCall_fake q _) with ⟨own1,ad,S⟩;right
 refine wpAny_execs_cons (wpAny_Assign_Name (wpAny_Constant_str (S.store (v:=.str y s'.toks) (hx _) rfl rfl fun s2 h1 _ => ?_)) (hs _))
 have S2:=h1 (.str y) (.str y _)
 refine wpAny_with_toks S2.sit.tok (wpAny_mono (hbody _ _ _ _ own s2 ⟨own1,ad,S2⟩) (fun fl s3 ho ht hts => ?_) fun _ _ z _ => z)
 left;rcases ho with ⟨v,z0_,rv,kk⟩;right;subst z0_
 exact h v s3 ⟨keeps_fake kk,hts⟩ ht rv
end
end
section
section
variable {c:Cx} {n:Nat} {env:Env} {lo:List (Str × D)} {o i:PySem.Expr} {pos:Pos}
theorem EV.signAt {l:List Nat} {m:Nat} (x:EV c n env lo o (.str (S l))) (y:EV c n env lo i (.int (m:Int))) (hm:m < l.length) (hl:l.length ≤ lim) (hs:autoParam (∀ u v,subscripted i false u v = operate [u,v] (getItem u v)) byIIR):EV c n env lo (.Subscript o i pos) (.str (S [l.getD m 0])):=
 EV.item x y (by
  show (if _ then _ else _) = _
  rw [if_pos (by rw [S_len]; exact hl),idx_pos (by omega) (by rw [S_len]; omega)] at ⊢
  show ((S l).cps[(m:Int).toNat]?).map _ = _
  have:(S l).cps[(m:Int).toNat]? = some (l.getD m 0):=by
   rw [Int.toNat_natCast]
   show l.toArray[m]? = _
   rw [List.getElem?_toArray,List.getElem?_eq_getElem hm,List.getD_eq_getElem?_getD,List.getElem?_eq_getElem hm] at ⊢; rfl
  rw [this]; rfl) hs
end
noncomputable def signsL:List Nat:=[97,32,9,98,59,34,92,58]
noncomputable def sgn (r q k:Nat):Nat:=signsL.getD ((r / q / 8 ^ k + k) % 8) 0
noncomputable def namesL:List (List Nat):=[[86,105,97],[65,103,101],[118,73,65],[84,101]]
noncomputable def ownT (r:Nat):Option (List Nat):=if r / 16384 % 4 = 1 then none else some [sgn r 4 0,sgn r 4 1,sgn r 4 2,sgn r 4 3]
noncomputable def textT (r:Nat):List Nat:=[sgn r 65536 0,sgn r 65536 1]
noncomputable def parT (r:Nat):List (List Nat × Option (List Nat)):=
 if r / 16384 % 4 = 1 then [([112],some (textT r))] else if r / 16384 % 4 = 2 then [([112,95,113],some (textT r)),([114],none)] else if r / 16384 % 4 = 3 then [([114],some []),([112],some (textT r))] else []
noncomputable def nameT (r:Nat):List Nat:=namesL.getD (r % 4) []
noncomputable def rowD (r:Nat):D:=.tup [.str (S (nameT r)),optD (ownT r),.dct (parD (parT r)),.int ((r / 4194304 % 256:Nat):Int),.int ((r / 1073741824:Nat):Int)]
noncomputable def restT (x:Int):Nat:=(x % 8589934592).toNat
noncomputable def fsS (r q:Nat):D→Option D
 | .int k => some (.str (S [sgn r q k.toNat]))
 | _ => none
theorem range_take (ds:List D):∀ m,m ≤ ds.length→(List.range m).filterMap (ds[·]?) = ds.take m
 | 0,_ => by simp
 | m + 1,h => by
  (rewrite [List.range_succ,List.filterMap_append]; rewrite [range_take ds m (by omega)] at ⊢; rw [List.take_add_one])
  have:ds[m]? = some ds[m]:=List.getElem?_eq_getElem (by omega)
  simp [this]
theorem clip_nat (n k:Nat):clipAt n (k:Int) = min k n:=by
 unfold clipAt
 rw [if_neg (Int.not_lt.mpr (Int.natCast_nonneg k))]
 rcases Nat.le_total k n with z | z
 ·rw [Nat.min_eq_left z,Int.min_eq_left (Int.ofNat_le.mpr z),Int.max_eq_right (Int.natCast_nonneg _),Int.toNat_natCast]
 ·rw [Nat.min_eq_right z,Int.min_eq_right (Int.ofNat_le.mpr z),Int.max_eq_right (Int.natCast_nonneg _),Int.toNat_natCast]
theorem pickD_take (ds:List D) (k:Nat):pickD ds none (some (k:Int)) none = ds.take k:=by
 unfold pickD
 rw [sliceBounds_plain]
 have e:=clip_nat ds.length k
 show (sliceRange ((0:Nat):Int) ((clipAt ds.length (k:Int):Nat):Int) 1).filterMap _ = _
 rw [e,sliceRange_one,Nat.sub_zero]
 have e2:(List.range (min k ds.length)).map (0 + ·) = List.range (min k ds.length):=by simp
 rw [e2,range_take ds _ (Nat.min_le_right ..)]
 exact (List.take_eq_take_min ..).symm
theorem parT_cases (r:Nat):D.dct (parD (parT r)) = if r / 16384 % 4 = 3 then .dct [("r",.str ""),("p",.str (S (textT r)))] else if r / 16384 % 4 = 2 then .dct [("p_q",.str (S (textT r))),("r",.none)] else if r / 16384 % 4 = 1 then .dct [("p",.str (S (textT r)))] else .dct []:=by
 unfold parT
 have:r / 16384 % 4 = 0 ∨ r / 16384 % 4 = 1 ∨ r / 16384 % 4 = 2 ∨ r / 16384 % 4 = 3:=by omega
 rcases this with q | q | q | q <;> rw [q] <;> rfl
theorem own_cases (r:Nat):optD (ownT r) = if r / 16384 % 4 = 1 then .none else .str (S [sgn r 4 0,sgn r 4 1,sgn r 4 2,sgn r 4 3]):=by
 unfold ownT
 split <;> rfl
theorem if_yes {α:Type} {p:Prop} [Decidable p] {a b:α} (h:decide p = true):some a = some (if p then a else b):=by rw [if_pos (of_decide_eq_true h)]
theorem if_no {α:Type} {p:Prop} [Decidable p] {a b:α} (h:decide p = false):some b = some (if p then a else b):=by rw [if_neg (of_decide_eq_false h)]
theorem names_at (r:Nat):([D.str (S [86,105,97]),D.str (S [65,103,101]),D.str (S [118,73,65]),D.str (S [84,101])])[((r % 4:Nat):Int).toNat]? = some (.str (S (nameT r))):=by
 rw [Int.toNat_natCast]
 unfold nameT
 have:r % 4 = 0 ∨ r % 4 = 1 ∨ r % 4 = 2 ∨ r % 4 = 3:=by omega
 rcases this with q | q | q | q <;> rw [q] <;> rfl
theorem rest_at (x:Int):x.fmod 8589934592 = ((restT x:Nat):Int)∧restT x < 8589934592:=by
 unfold restT
 rw [Int.fmod_eq_emod_of_nonneg _ (by decide)] at ⊢
 have:=Int.emod_nonneg x (b:=8589934592) (by decide)
 have:=Int.emod_lt_of_pos x (b:=8589934592) (by decide)
 omega
theorem nd2 {a b:D}:(List.map (·.1) [(("p_q":Str),a),(("r":Str),b)]).Nodup:=by show List.Nodup [("p_q":Str), "r"]; decide
theorem nd3 {a b:D}:(List.map (·.1) [(("r":Str),a),(("p":Str),b)]).Nodup:=by show List.Nodup [("r":Str), "p"]; decide
set_option maxHeartbeats 8000000 in
theorem f_headers {c:Cx} (h:Is c) {n:Nat} (ns:List Int) (hl:ns.length ≤ 63):FnT c (n + 1) (.ref 264) [.lst (ns.map .int)] (.lst (((ns.take 3) ++ [4636675,3221225472]).map fun x => rowD (restT x))):=by
 refine FnT.def (ho:=by rw [h]; rfl) (hcd:=by rw [h]; rfl) (N:=["script"]) (ds0:=[.lst (ns.map .int)]) (b1 fun _ => rfl) (by decide) (by rfl) (fun _ => .inr ⟨rfl,rfl⟩) ?_
 intro L
 refine Ex.cons (Ex1.fresh (EVF.list .nil) (.inl rfl)) ?_
 generalize hxs:(ns.take 3) ++ [4636675,3221225472] = xs
 have hxl:xs.length ≤ 5:=by rw [hxs.symm,List.length_append,List.length_take]; simp; omega
 have hsl:sliceD (.lst (ns.map .int)) none (some 3) none = some (.lst ((ns.take 3).map .int)):=by
  show (if _ then _ else _) = _
  rw [if_pos ⟨by rw [List.length_map]; unfold lim; omega,by decide⟩] at ⊢
  have:=pickD_take (ns.map D.int) 3
  rw [show ((3:Nat):Int) = 3 from rfl] at this
  rw [this,List.map_take]
 have hadd:binD .Add (.lst ((ns.take 3).map D.int)) (.lst [.int 4636675,.int 3221225472]) = some (.lst (xs.map .int)):=by
  show (if _ then _ else _) = _
  (rewrite [if_pos (by rw [List.length_map,List.length_take]; unfold lim; simp; omega)] at ⊢; rw [hxs.symm])
  simp
 refine Ex.cons (Ex1.loop (IT.list (EV.bin (EV.slice (EV.name rfl) PV.none (PV.some EV.int) PV.none hsl) (EV.list (EVs.cons EV.int (EVs.cons EV.int .nil))) hadd)) (fun _ => [("signs",.str (S signsL))]) (fun j => [("rows",.lst ((xs.take j).map fun x => rowD (restT x)))]) xs.length (by simp) (.of rfl) ⟨by simp,trivial⟩ ?_ (.inl ⟨by simp,rfl⟩)) ?_
 ·intro j d hj hd
  rw [List.getElem?_map] at hd
  left;rcases Option.map_eq_some_iff.mp hd with ⟨x,hx,z0_⟩;right;subst z0_
  have hst:(xs.take (j + 1)).map (fun x => rowD (restT x)) = (xs.take j).map (fun x => rowD (restT x)) ++ [rowD (restT x)]:=by
   rw [List.take_add_one,hx,List.map_append]; rfl
  rw [hst]
  obtain ⟨hr,hrl⟩:=rest_at x
  generalize restT x = r at hr hrl
  refine Step.of (Tg.name (.inl rfl)) ?_
  refine Ex.cons (Ex1.assign (EV.cast (EV.fmod (EV.name rfl) EV.int (by decide)) (by rw [hr])) (.inr ⟨rfl,rfl⟩)) ?_
  refine Ex.cons (Ex1.assign (EV.join (sep:=[]) (ps:=[[sgn r 4 0],[sgn r 4 1],[sgn r 4 2],[sgn r 4 3]]) rfl EV.str (EV.cast (EV.comp (cap:=[("rest",.int (r:Int)),("signs",.str (S signsL))]) none (fsS r 4) (by rfl) (.of rfl) (IT.range1 (g_range h) EV.int (by decide)) ?_ (by decide)) rfl) (by decide) (by simp) (by simp)) (.inl rfl)) ?_
  ·intro i d hd C ex hx
   obtain ⟨hi,rfl⟩:=rangeD_at hd
   have hi:i < 4:=hi
   rw [show (0:Int) + (i:Int) = (i:Int) from by omega] at ⊢
   refine CB.one ((.of rfl)) (Tg.name (.inl rfl) (hex:=hx _ rfl)) (rfl) (EV.signAt (l:=signsL) (m:=(r / 4 / 8 ^ i + i) % 8) (EV.name rfl) ?_ (by show _ < 8; omega) (by decide))
   exact EV.fmodN (j:=8) (EV.addN (EV.fdivN (EV.fdivN (j:=4) (EV.name rfl) EV.int (by decide) (by decide)) (EV.powN (i:=8) EV.int (EV.name rfl) (by decide) (by omega)) (Nat.pow_pos (by decide)) (by
    have:8 ^ i ≤ 8 ^ 4:=Nat.pow_le_pow_right (by decide) (by omega)
    omega)) (EV.name rfl)) EV.int (by decide)
  refine Ex.cons (Ex1.assign (EV.join (sep:=[]) (ps:=[[sgn r 65536 0],[sgn r 65536 1]]) rfl EV.str (EV.cast (EV.comp (cap:=[("rest",.int (r:Int)),("signs",.str (S signsL))]) none (fsS r 65536) (by rfl) (.of rfl) (IT.range1 (g_range h) EV.int (by decide)) ?_ (by decide)) rfl) (by decide) (by simp) (by simp)) (.inl rfl)) ?_
  ·intro i d hd C ex hx
   obtain ⟨hi,rfl⟩:=rangeD_at hd
   have hi:i < 2:=hi
   rw [show (0:Int) + (i:Int) = (i:Int) from by omega] at ⊢
   refine CB.one ((.of rfl)) (Tg.name (.inl rfl) (hex:=hx _ rfl)) (rfl) (EV.signAt (l:=signsL) (m:=(r / 65536 / 8 ^ i + i) % 8) (EV.name rfl) ?_ (by show _ < 8; omega) (by decide))
   exact EV.fmodN (j:=8) (EV.addN (EV.fdivN (EV.fdivN (j:=65536) (EV.name rfl) EV.int (by decide) (by decide)) (EV.powN (i:=8) EV.int (EV.name rfl) (by decide) (by omega)) (Nat.pow_pos (by decide)) (by
    have:8 ^ i ≤ 8 ^ 2:=Nat.pow_le_pow_right (by decide) (by omega)
    omega)) (EV.name rfl)) EV.int (by decide)
  have hlr:((xs.take j).map fun x => rowD (restT x)).length ≤ lim:=by
   rw [List.length_map,List.length_take]; unfold lim; omega
  refine Ex.cons (Ex1.assign (EV.fmodN (j:=4) (EV.fdivN (j:=16384) (EV.name rfl) EV.int (by decide) (by decide)) EV.int (by decide)) (.inl rfl)) ?_
  refine Ex.cons (Ex1.assign EV.dict0 (.inl rfl)) ?_
  refine Ex.cons (lo':=[("own",optD (ownT r)),("params",if r / 16384 % 4 = 1 then .dct [("p",.str (S (textT r)))] else .dct []),("kind",.int ((r / 16384 % 4:Nat):Int)),("text",.str (S (textT r))),("rest",.int (r:Int)),("signs",.str (S signsL))]) (ow':=[("rows",.lst ((xs.take j).map fun x => rowD (restT x)))]) (Ex1.ite (TV.cmp (EV.name rfl) EV.int (cmpEqN (j:=1))) (fun z => ?aa) (fun z => Ex.post Ex.nil ⟨?o2,if_no z,rfl,rfl,rfl,rfl,trivial⟩ (.of rfl))) ?_
  case aa =>
   with_reducible refine' Ex.post (Ex.cons ?s1 Ex.nil) ?h1 ?h2
   case s1 =>
    with_reducible refine' Ex1.swap (xs:=["own", "params"]) (ds:=[.none,.dct [("p",.str (S (textT r)))]]) ?d1 ?bn ?_ ?_ ?_
    case d1 => exact EV.tuple (EVs.cons EV.none (EVs.cons (EV.dict (kvs:=[("p",.str (S (textT r)))]) (DV.cons (EV.name rfl) DV.nil) (by simp) rfl (by simp) (by simp) rfl rfl) .nil))
    case bn => exact Bns.cons (.inl rfl) (Bns.cons (.inl rfl) Bns.nil)
    all_goals rfl
   case h1 => exact ⟨by rw [own_cases]; exact if_yes z,if_yes z,rfl,rfl,rfl,rfl,trivial⟩
   case h2 => exact .of rfl
  case o2 => rw [own_cases]; exact if_no z
  refine Ex.cons (lo':=[("own",optD (ownT r)),("params",if r / 16384 % 4 = 2 then .dct [("p_q",.str (S (textT r))),("r",.none)] else if r / 16384 % 4 = 1 then .dct [("p",.str (S (textT r)))] else .dct []),("kind",.int ((r / 16384 % 4:Nat):Int)),("text",.str (S (textT r))),("rest",.int (r:Int)),("signs",.str (S signsL))]) (ow':=[("rows",_)]) (Ex1.ite (TV.cmp (EV.name rfl) EV.int (cmpEqN (j:=2))) (fun z => Ex.post (Ex.cons (Ex1.assign (d:=.dct [("p_q",.str (S (textT r))),("r",.none)]) ?d1 (.inl rfl)) Ex.nil) ⟨rfl,if_yes z,rfl,rfl,rfl,rfl,trivial⟩ (.of rfl)) (fun z => Ex.post Ex.nil ⟨rfl,if_no z,rfl,rfl,rfl,rfl,trivial⟩ (.of rfl))) ?_
  case d1 => exact EV.dict (kvs:=[("p_q",.str (S (textT r))),("r",.none)]) (DV.cons (EV.name rfl) (DV.cons EV.none DV.nil)) (by simp) rfl (by simp) nd2 rfl rfl
  refine Ex.cons (lo':=[("own",optD (ownT r)),("params",.dct (parD (parT r))),("rest",.int (r:Int)),("signs",.str (S signsL))]) (ow':=[("rows",_)]) (Ex1.ite (TV.cmp (EV.name rfl) EV.int (cmpEqN (j:=3))) (fun z => Ex.post (Ex.cons (Ex1.assign (d:=.dct [("r",.str ""),("p",.str (S (textT r)))]) ?d1 (.inl rfl)) Ex.nil) ⟨rfl,?o1,rfl,rfl,trivial⟩ (.of rfl)) (fun z => Ex.post Ex.nil ⟨rfl,?o2,rfl,rfl,trivial⟩ (.of rfl))) ?_
  case d1 => exact EV.dict (kvs:=[("r",.str ""),("p",.str (S (textT r)))]) (DV.cons EV.str (DV.cons (EV.name rfl) DV.nil)) (by simp) rfl (by simp) nd3 rfl rfl
  case o1 => rw [parT_cases]; exact if_yes z
  case o2 => rw [parT_cases]; exact if_no z
  refine Ex.cons (Ex1.assign (EV.itemL (EV.list (EVs.cons EV.str (EVs.cons EV.str (EVs.cons EV.str (EVs.cons EV.str .nil))))) (EV.fmodN (j:=4) (EV.name rfl) EV.int (by decide)) (by omega) (names_at r) (by decide)) (.inl rfl)) ?_
  exact Ex.post (Ex.cons (Ex1.append (EV.tuple (EVs.cons (EV.name rfl) (EVs.cons (EV.name rfl) (EVs.cons (EV.name rfl) (EVs.cons (EV.fmodN (j:=256) (EV.fdivN (j:=4194304) (EV.name rfl) EV.int (by decide) (by decide)) EV.int (by decide)) (EVs.cons (EV.fdivN (j:=1073741824) (EV.name rfl) EV.int (by decide) (by decide)) .nil)))))) rfl hlr) Ex.nil) (.of rfl) (.of rfl)
 ·refine Ex.cons_ret (Ex1.ret ?_)
  rw [List.take_length]
  exact EV.name rfl
end
section
noncomputable def drawnN (ns:List Int):Nat:=(((ns.take 8).sum + 27) % 32).toNat
noncomputable def leadN (d:Nat):List Nat:=(List.range (d % 4)).map fun k => [32,9].getD (d / 4 / 2 ^ k % 2) 0
theorem asInts_map:∀ l:List Int,asInts (l.map D.int) = some l
 | [] => rfl
 | a :: r => by
  show (asInts (r.map D.int)).map _ = _
  rw [asInts_map r]; rfl
theorem slice_take {ns:List Int} {k:Nat} (h:ns.length ≤ lim):sliceD (.lst (ns.map D.int)) none (some (k:Int)) none = some (.lst ((ns.take k).map D.int)):=by
 show (if _ then _ else _) = _
 (rewrite [if_pos ⟨by rw [List.length_map]; exact h,by decide⟩] at ⊢; rw [pickD_take,List.map_take])
noncomputable def runsT (d:Nat):List Str:=Txt.split (S (leadN d)) "\t"
noncomputable def pk (l:List Str) (lo hi st:Option Int):List Str:=(sliceRange (sliceBounds lo hi st l.length).1 (sliceBounds lo hi st l.length).2.1 (sliceBounds lo hi st l.length).2.2).filterMap (l[·]?)
theorem pk_D (l:List Str) (lo hi st:Option Int):pickD (l.map D.str) lo hi st = (pk l lo hi st).map D.str:=by
 unfold pickD pk
 rw [List.length_map,List.map_filterMap]
 congr 1
 funext i
 rw [List.getElem?_map] at ⊢
noncomputable def turnedT (d:Nat):Str:=Txt.join "\t" (pk (pk (runsT d) none (some (-1)) none) none none (some (-1)) ++ pk (runsT d) (some (-1)) none none)
noncomputable def leadsT (d:Nat):List Str:=[turnedT d,S (leadN d),turnedT d,putT (S (leadN d)) "\t" "   ",S (leadN d),putT (turnedT d) "\t" " ",turnedT d,putT (S (leadN d)) " " "\t "]
theorem leads_small:∀ d < 32,(S (leadN d)).length ≤ 3∧(turnedT d).length ≤ 3∧(runsT d).length ≤ 4:=by decide +kernel
noncomputable def fsL (d:Nat):D→Option D
 | .int k => some (.str (S [[32,9].getD (d / 4 / 2 ^ k.toNat % 2) 0]))
 | _ => none
theorem g_sum {c:Cx} (h:Is c) {env:Env} (hk:autoParam (env.kindOf "sum" = some .globalImplicit) byRfl):GlobIs c env "sum" (.builtin "sum"):=GlobIs.built (by rw [h]; rfl) (by rfl) (by decide) hk
theorem g_put {c:Cx} (h:Is c) {env:Env} (hk:autoParam (env.kindOf "_law_put" = some .globalImplicit) byRfl):GlobIs c env "_law_put" (.ref 292):=GlobIs.glob (by rw [h]; rfl) hk
theorem binD_lst {xs ys:List D} (h:xs.length + ys.length ≤ lim):binD .Add (.lst xs) (.lst ys) = some (.lst (xs ++ ys)):=by
 show (if _ then _ else _) = _
 rw [if_pos h]
theorem asStrs_map:∀ l:List Str,asStrs (l.map D.str) = some l
 | [] => rfl
 | a :: r => by
  show (asStrs (r.map D.str)).map _ = _
  rw [asStrs_map r]; rfl
theorem sliceD_pk {l:List Str} {lo hi st:Option Int} (q:l.length ≤ 1000) (z:st ≠ some 0):sliceD (.lst (l.map D.str)) lo hi st = some (.lst ((pk l lo hi st).map D.str)):=by
 unfold sliceD
 dsimp only
 (rewrite [if_pos ⟨by rw [List.length_map]; unfold lim; omega,z⟩] at ⊢; rw [pk_D])
section
variable {c:Cx} {n:Nat} {env:Env} {lo:List (Str × D)} {o e:PySem.Expr} {apos pos p:Pos}
theorem EV.splitS {x y:Str} {pl:Sem Bool} (a:EV c n env lo o (.str x)) (b:EV c n env lo e (.str y)) (h:x.length ≤ lim∧y.length ≠ 0)
  (he:autoParam (eval (.Call (.Attribute o "split" apos) [e] [] pos) env = (do
   let ov ← eval o env
   standAt apos.atName
   let (f,first) ← holding [ov] (getMethod ov "split" pl)
   callWith pos f first (backTo pos (starEach [e] env)) (backToKw pos (keywordEach [] env)))) byRfl) (hp:autoParam (Plain [e] env pos) byPl) (hse:autoParam (starEach [e] env = (false,eval e env) :: starEach [] env) byRfl) :
  EV c n env lo (.Call (.Attribute o "split" apos) [e] [] pos) (.lst ((Txt.split x y).map .str)):=EV.smeth (m := "split") a (EVs.cons b .nil hse) (meth_split h) he hp
theorem EV.joinS {x:Str} {xs:List D} {ts:List Str} {pl:Sem Bool} (a:EV c n env lo o (.str x)) (b:EV c n env lo e (.lst xs)) (h:asStrs xs = some ts) (h1:x.length ≤ 1000∧ts.length ≤ 1000∧ts.all (fun y => y.length ≤ 10000) = true)
  (he:autoParam (eval (.Call (.Attribute o "join" apos) [e] [] pos) env = (do
   let ov ← eval o env
   standAt apos.atName
   let (f,first) ← holding [ov] (getMethod ov "join" pl)
   callWith pos f first (backTo pos (starEach [e] env)) (backToKw pos (keywordEach [] env)))) byRfl) (hp:autoParam (Plain [e] env pos) byPl) (hse:autoParam (starEach [e] env = (false,eval e env) :: starEach [] env) byRfl) :
  EV c n env lo (.Call (.Attribute o "join" apos) [e] [] pos) (.str (Txt.join x ts)):=EV.smeth (m := "join") a (EVs.cons b .nil hse) (meth_join h h1) he hp
end
end
section
theorem page_small:∀ d < 32,(pk (pk (runsT d) none (some (-1)) none) none none (some (-1))).length ≤ 4∧(pk (runsT d) none (some (-1)) none).length ≤ 4∧(pk (runsT d) (some (-1)) none none).length ≤ 4∧∀ y ∈ pk (pk (runsT d) none (some (-1)) none) none none (some (-1)) ++ pk (runsT d) (some (-1)) none none,y.length ≤ 4:=by decide +kernel
set_option maxHeartbeats 4000000 in
noncomputable def drawAt (k p r:Nat):Nat:=if p = 0∧0 < k then r / 1073741824 else 1 - p % 2
noncomputable def leadsL (d:Nat):List (List Nat):=(leadsT d).map fun x => x.cps.toList
noncomputable def pageRow (d k r:Nat) (f:List (List Nat)) (j:Nat):List (List Nat):=(List.range j).map fun p => (leadsL d).getD (drawAt k p r) [] ++ f.getD p []
noncomputable def pageTo (d:Nat) (folds:List (List (List Nat))) (rs:List Nat) (k:Nat):List (List Nat):=(List.range k).flatMap fun i => pageRow d i (rs.getD i 0) (folds.getD i []) (folds.getD i []).length
theorem leadsT_S (d:Nat):(leadsT d).map D.str = strsD (leadsL d):=by
 unfold strsD leadsL
 rw [List.map_map]
 exact List.map_congr_left fun x _ => rfl
theorem leadsL_small:∀ d < 32,(leadsL d).length = 8∧∀ l ∈ leadsL d,l.length ≤ 10:=by decide +kernel
theorem pageRow_succ (d k r:Nat) (f:List (List Nat)) (j:Nat):pageRow d k r f (j + 1) = pageRow d k r f j ++ [(leadsL d).getD (drawAt k j r) [] ++ f.getD j []]:=by
 unfold pageRow; rw [List.range_succ,List.map_append]; rfl
theorem pageTo_succ (d:Nat) (folds:List (List (List Nat))) (rs:List Nat) (k:Nat):pageTo d folds rs (k + 1) = pageTo d folds rs k ++ pageRow d k (rs.getD k 0) (folds.getD k []) (folds.getD k []).length:=by
 unfold pageTo; rw [List.range_succ,List.flatMap_append]; simp
theorem pageTo_len (d:Nat) (folds:List (List (List Nat))) (rs:List Nat) (h:∀ f ∈ folds,f.length ≤ 100):∀ k,(pageTo d folds rs k).length ≤ k * 100
 | 0 => by simp [pageTo]
 | k + 1 => by
  have ih:=pageTo_len d folds rs h k
  have hf:(folds.getD k []).length ≤ 100:=by
   rw [List.getD_eq_getElem?_getD] at ⊢
   cases q:folds[k]? with
   | none => simp
   | some f => exact h f (List.mem_of_getElem? q)
  rw [pageTo_succ,List.length_append]
  have e:(pageRow d k (rs.getD k 0) (folds.getD k []) (folds.getD k []).length).length = (folds.getD k []).length:=by simp [pageRow]
  omega
set_option maxHeartbeats 4000000 in
theorem f_page {c:Cx} (h:Is c) {n:Nat} (folds:List (List (List Nat))) (rs:List Nat) (ns:List Int) (hr:rs.length ≤ 5) (hf:folds.length = rs.length) (h8:∀ r ∈ rs,r / 1073741824 < 8) (hl:ns.length ≤ 63) (hfc:∀ f ∈ folds,f.length ≤ 100) (hfw:∀ f ∈ folds,∀ l ∈ f,l.length ≤ 1000) :
  FnOk c (n + 2) (.ref 297) [.lst (folds.map fun f => .lst (strsD f)),.lst (rs.map rowD),.lst (ns.map .int)] [] (.lst (strsD (pageTo (drawnN ns) folds rs rs.length))):=by
 refine FnOk.def (ho:=by rw [h]; rfl) (hcd:=by rw [h]; rfl) (N:=["folds", "rows", "script"]) (ds0:=[.lst (folds.map fun f => .lst (strsD f)),.lst (rs.map rowD),.lst (ns.map .int)]) (b3 fun _ _ _ => rfl) (by decide) (by rfl) ?_ (.inl rfl)
 intro L
 have hd32:drawnN ns < 32:=by unfold drawnN; omega
 have hdr:((ns.take 8).sum + 27).fmod 32 = ((drawnN ns:Nat):Int):=by
  unfold drawnN
  rw [Int.fmod_eq_emod_of_nonneg _ (by decide)] at ⊢
  omega
 generalize drawnN ns = d at hd32 hdr
 refine Ex.cons (Ex1.assign (d:=.int (d:Int)) (EV.cast (EV.fmod (EV.bin (d:=.int ((ns.take 8).sum + 27)) (EV.call (g_sum h) KeepF.builtin (EVs.cons (EV.slice (EV.name rfl) PV.none (PV.some EV.int) PV.none (slice_take (k:=8) (by unfold lim; omega))) .nil) (FnOk.builtin (call_sum (asInts_map _)))) EV.int rfl) EV.int (by decide)) (by rw [hdr])) (.inr ⟨rfl,rfl⟩)) ?_
 left;rcases leads_small d hd32 with ⟨q1,q2,q3⟩;right
 have hm4:(0:Nat) + d % 4 ≤ 3:=by omega
 have hjn:joinL [] ((List.range (d % 4)).map fun k => [[32,9].getD (d / 4 / 2 ^ k % 2) 0]) = leadN d:=by
  have:d % 4 = 0 ∨ d % 4 = 1 ∨ d % 4 = 2 ∨ d % 4 = 3:=by omega
  unfold leadN
  rcases this with q | q | q | q <;> rw [q] <;> rfl
 have hfl:(rangeD 0 (d % 4)).filterMap (fsL d) = strsD ((List.range (d % 4)).map fun k => [[32,9].getD (d / 4 / 2 ^ k % 2) 0]):=by
  have:d % 4 = 0 ∨ d % 4 = 1 ∨ d % 4 = 2 ∨ d % 4 = 3:=by omega
  rcases this with q | q | q | q <;> rw [q] <;> rfl
 refine Ex.cons (Ex1.assign (EV.cast (EV.join (sep:=[]) (ps:=(List.range (d % 4)).map fun k => [[32,9].getD (d / 4 / 2 ^ k % 2) 0]) rfl EV.str (EV.cast (EV.comp (cap:=[("drawn",.int (d:Int))]) none (fsL d) (by rfl) (.of rfl) (IT.range1 (g_range h) (EV.fmodN (j:=4) (EV.name rfl) EV.int (by decide)) (by omega)) ?_ (by rw [rangeD_len]; unfold lim; omega)) (by rw [Int.toNat_natCast,hfl])) (by decide) (by simp; omega) (by simp)) (by rw [hjn])) (.inl rfl)) ?_
 ·intro i x hx C ex hx2
  obtain ⟨hi,rfl⟩:=rangeD_at hx
  rw [Int.toNat_natCast] at hi
  rw [show (0:Int) + (i:Int) = (i:Int) from by omega] at ⊢
  refine CB.one ((.of rfl)) (Tg.name (.inl rfl) (hex:=hx2 _ rfl)) (rfl) (EV.signAt (l:=[32,9]) (m:=d / 4 / 2 ^ i % 2) EV.str ?_ (by show _ < 2; omega) (by decide))
  exact EV.fmodN (j:=2) (EV.fdivN (EV.fdivN (j:=4) (EV.name rfl) EV.int (by decide) (by decide)) (EV.powN (i:=2) EV.int (EV.name rfl) (by decide) (by omega)) (Nat.pow_pos (by decide)) (by
   have:2 ^ i ≤ 2 ^ 4:=Nat.pow_le_pow_right (by decide) (by omega)
   omega)) EV.int (by decide)
 refine Ex.cons (Ex1.assign (d:=.lst ((runsT d).map .str)) (EV.splitS (EV.name rfl) EV.str ⟨by unfold lim; omega,by decide⟩) (.inl rfl)) ?_
 left;rcases page_small d hd32 with ⟨t1,t2,t3,t4⟩;right
 have ja:(("\t":Str)).length ≤ 1000∧(pk (pk (runsT d) none (some (-1)) none) none none (some (-1)) ++ pk (runsT d) (some (-1)) none none).length ≤ 1000∧(pk (pk (runsT d) none (some (-1)) none) none none (some (-1)) ++ pk (runsT d) (some (-1)) none none).all (fun y => y.length ≤ 10000) = true:=⟨by decide,by rw [List.length_append]; omega,List.all_eq_true.mpr fun y hy => decide_eq_true (by have:=t4 y hy; omega)⟩
 have jb:binD .Add (.lst ((pk (pk (runsT d) none (some (-1)) none) none none (some (-1))).map D.str)) (.lst ((pk (runsT d) (some (-1)) none none).map D.str)) = some (.lst ((pk (pk (runsT d) none (some (-1)) none) none none (some (-1)) ++ pk (runsT d) (some (-1)) none none).map D.str)):=by
  (rewrite [binD_lst (by rw [List.length_map,List.length_map]; unfold lim; omega)] at ⊢; rw [List.map_append])
 have j1:=sliceD_pk (l:=runsT d) (lo:=none) (hi:=some (-1)) (st:=none) (by omega) (by decide)
 have j2:=sliceD_pk (l:=pk (runsT d) none (some (-1)) none) (lo:=none) (hi:=none) (st:=some (-1)) (by omega) (by decide)
 have j3:=sliceD_pk (l:=runsT d) (lo:=some (-1)) (hi:=none) (st:=none) (by omega) (by decide)
 have hrt:∀ {l:List Str},l = runsT d→True:=fun _ => trivial
 have htt:turnedT d = Txt.join "\t" (pk (pk (runsT d) none (some (-1)) none) none none (some (-1)) ++ pk (runsT d) (some (-1)) none none):=rfl
 generalize pk (pk (runsT d) none (some (-1)) none) none none (some (-1)) = l3 at htt ja jb j2
 generalize pk (runsT d) none (some (-1)) none = l1 at j1 j2
 generalize pk (runsT d) (some (-1)) none none = l2 at htt ja jb j3
 refine Ex.cons (Ex1.assign (d:=.str (turnedT d)) (EV.cast (EV.joinS EV.str (EV.bin (EV.slice (EV.slice (EV.name rfl) PV.none (PV.some (EV.neg EV.int)) PV.none j1) PV.none PV.none (PV.some (EV.neg EV.int)) j2) (EV.slice (EV.name rfl) (PV.some (EV.neg EV.int)) PV.none PV.none j3) jb) (asStrs_map _) ja) (by rw [htt])) (.inl rfl)) ?_
 refine Ex.cons (Ex1.swap (xs:=["wider", "fewer", "deeper"]) (ds:=[.str (putT (S (leadN d)) "\t" "   "),.str (putT (turnedT d) "\t" " "),.str (putT (S (leadN d)) " " "\t ")]) (EV.tuple (EVs.cons (EV.call (g_put h) (KeepF.of (by rw [h]; rfl)) (EVs.cons (EV.name rfl) (EVs.cons EV.str (EVs.cons EV.str .nil))) (f_put h _ _ _ (by omega) (by decide))) (EVs.cons (EV.call (g_put h) (KeepF.of (by rw [h]; rfl)) (EVs.cons (EV.name rfl) (EVs.cons EV.str (EVs.cons EV.str .nil))) (f_put h _ _ _ (by omega) (by decide))) (EVs.cons (EV.call (g_put h) (KeepF.of (by rw [h]; rfl)) (EVs.cons (EV.name rfl) (EVs.cons EV.str (EVs.cons EV.str .nil))) (f_put h _ _ _ (by omega) (by decide))) .nil)))) (Bns.cons (.inl rfl) (Bns.cons (.inl rfl) (Bns.cons (.inl rfl) Bns.nil)))) ?_
 refine Ex.cons (Ex1.assign (d:=.lst (strsD (leadsL d))) (EV.cast (EV.list (EVs.cons (EV.name rfl) (EVs.cons (EV.name rfl) (EVs.cons (EV.name rfl) (EVs.cons (EV.name rfl) (EVs.cons (EV.name rfl) (EVs.cons (EV.name rfl) (EVs.cons (EV.name rfl) (EVs.cons (EV.name rfl) .nil))))))))) (congrArg D.lst (leadsT_S d))) (.inl rfl)) ?_
 refine Ex.cons (Ex1.fresh (EVF.list .nil) (.inl rfl)) ?_
 obtain ⟨z1,z2⟩:=leadsL_small d hd32
 generalize hld:leadsL d = ld at z1 z2
 have hrl:(rs.map rowD).length ≤ lim:=by rw [List.length_map]; unfold lim; omega
 have hpl:=pageTo_len d folds rs hfc
 refine Ex.cons (Ex1.loop (IT.range1 (g_range h) (EV.lenL h (EV.name rfl) hrl) (by rw [List.length_map]; omega)) (fun _ => [("folds",.lst (folds.map fun f => .lst (strsD f))),("rows",.lst (rs.map rowD)),("leads",.lst (strsD ld))]) (fun k => [("page",.lst (strsD (pageTo d folds rs k)))]) rs.length (by rw [rangeD_len,List.length_map]; omega) (.of rfl) (.of rfl) ?_ (.inl ⟨by rw [rangeD_len,List.length_map]; omega,rfl⟩)) (Ex.cons_ret (Ex1.ret (EV.name rfl)))
 intro k x hk hx
 obtain ⟨_,rfl⟩:=rangeD_at hx
 rw [show (0:Int) + (k:Int) = (k:Int) from by omega] at ⊢
 have hfk:folds[k]? = some (folds.getD k []):=by
  rw [List.getD_eq_getElem?_getD,List.getElem?_eq_getElem (by omega)] at ⊢; rfl
 have hrk:rs[k]? = some (rs.getD k 0):=by
  rw [List.getD_eq_getElem?_getD,List.getElem?_eq_getElem hk] at ⊢; rfl
 have hpk:=hpl k
 rw [pageTo_succ]
 have hf1:=hfc _ (List.mem_of_getElem? hfk)
 have hf2:=hfw _ (List.mem_of_getElem? hfk)
 have hr8:=h8 _ (List.mem_of_getElem? hrk)
 generalize hF:folds.getD k [] = f at hfk hf1 hf2
 generalize hR:rs.getD k 0 = r at hrk hr8
 generalize hP:pageTo d folds rs k = pg at hpk
 have hfd:(folds.map fun f => D.lst (strsD f))[((k:Nat):Int).toNat]? = some (.lst (strsD f)):=by
  (rewrite [Int.toNat_natCast]; rewrite [List.getElem?_map] at ⊢; rw [hfk]); rfl
 have hrd:(rs.map rowD)[((k:Nat):Int).toNat]? = some (rowD r):=by
  (rewrite [Int.toNat_natCast]; rewrite [List.getElem?_map] at ⊢; rw [hrk]); rfl
 have hen:(enumD (strsD f)).length = f.length:=by rw [enumD_len]; simp [strsD]
 refine Step.of (Tg.name (.inl rfl)) (Ex.post (Ex.cons (Ex1.loop (IT.enum (g_enumerate h) (EV.itemL (EV.name rfl) (EV.name rfl) (by omega) hfd (by rw [List.length_map]; unfold lim; omega))) (fun _ => [("folds",.lst (folds.map fun f => .lst (strsD f))),("rows",.lst (rs.map rowD)),("leads",.lst (strsD ld)),("k",.int (k:Int))]) (fun j => [("page",.lst (strsD (pg ++ pageRow d k r f j)))]) f.length (by rw [hen]; exact Nat.le_refl _) (.of rfl) ⟨by simp [pageRow],trivial⟩ ?_ (.inl ⟨hen.symm,rfl⟩)) Ex.nil) (.of rfl) (.of rfl))
 intro j x hj hx
 left;rcases enumD_at hx with ⟨d0,hd0,z0_⟩;right;subst z0_
 unfold strsD at hd0
 rw [List.getElem?_map] at hd0
 left;rcases Option.map_eq_some_iff.mp hd0 with ⟨p,hp,z0_⟩;right;subst z0_
 have hpw:=hf2 p (List.mem_of_getElem? hp)
 have hcg:∀ i j:Nat,cmpD .Gt (.int (i:Int)) (.int (j:Int)) = some (decide (j < i)):=fun i j => by
  show some (decide ((i:Int) > (j:Int))) = _
  by_cases q:j < i
  ·(rewrite [decide_eq_true q]; rw [decide_eq_true (by omega)] at ⊢)
  ·(rewrite [decide_eq_false q]; rw [decide_eq_false (by omega)] at ⊢)
 have hdw:drawAt k j r < 8:=by unfold drawAt; split <;> omega
 have hdraw:(if (decide (j = 0) && (decide (0 < k) && true)) then D.int ((r / 1073741824:Nat):Int) else D.int (1 - ((j % 2:Nat):Int))) = D.int ((drawAt k j r:Nat):Int):=by
  unfold drawAt
  by_cases q:j = 0∧0 < k
  ·(rewrite [if_pos q]; rw [if_pos (by simp [q.1,q.2])] at ⊢)
  ·(rewrite [if_neg q]; rw [if_neg (by intro z; apply q; simpa using z)] at ⊢)
   congr 1; omega
 rw [pageRow_succ,← List.append_assoc,hld]
 have hldd:(strsD ld)[((drawAt k j r:Nat):Int).toNat]? = some (.str (S (ld.getD (drawAt k j r) []))):=by
  unfold strsD
  (rewrite [Int.toNat_natCast]; rw [List.getElem?_map,List.getElem?_eq_getElem (by omega),List.getD_eq_getElem?_getD,List.getElem?_eq_getElem (by omega)] at ⊢); rfl
 have hlw:(ld.getD (drawAt k j r) []).length ≤ 10:=by
  rw [List.getD_eq_getElem?_getD,List.getElem?_eq_getElem (by omega)] at ⊢
  exact z2 _ (List.getElem_mem _)
 have hpr:(pageRow d k r f j).length = j:=by simp [pageRow]
 refine Step.of (Tg.tuple (Tgs.cons (.inl rfl) (Tgs.cons (.inl rfl) Tgs.nil))) (Ex.post (Ex.cons (Ex1.assign (EV.cast (EV.ite (TV.boolop (AV.and_cons (TV.cmp (EV.name rfl) EV.int (cmpEqN (j:=0))) fun _ => AV.and_cons (TV.cmp (EV.name rfl) EV.int (hcg k 0)) fun _ => AV.and_nil))
  (fun _ => EV.itemT (EV.itemL (EV.name rfl) (EV.name rfl) (by omega) hrd hrl) EV.int (by decide) (d:=.int ((r / 1073741824:Nat):Int)) rfl (by show 5 ≤ 100000; decide)) (fun _ => EV.bin EV.int (EV.fmodN (j:=2) (EV.name rfl) EV.int (by decide)) rfl)) hdraw) (.inl rfl))
  (Ex.cons (Ex1.append (EV.cat (EV.itemL (EV.name rfl) (EV.name rfl) (by omega) hldd (by simp [strsD,lim]; omega)) (EV.name rfl) (by rw [S_len,S_len]; unfold lim; omega)) rfl (by simp [strsD,lim]; omega)) Ex.nil)) (.of rfl) ⟨?_,trivial⟩)
 have hpj:f.getD j [] = p:=by (rewrite [List.getD_eq_getElem?_getD] at ⊢; rw [hp]); rfl
 rw [hpj,S_app]
 unfold strsD
 simp
end
section
open PySem PySem.W PyProof.Rows PySem.Calls PySem.Spec PySem.Builtin PySem.Builtin.Str PySem.Builtin.Re
theorem slot_search:Slot "re.Pattern" "search" "re.Pattern.search" :=
 .of (owner := "re.Pattern") (n := "search") (by rw [typeLookup_type,builtinLookup_eq_fast]; kernel_rfl) (by decide +kernel) (by decide +kernel) (by decide +kernel)
  (by first | exact .inl (by decide +kernel) | exact .inr (by decide +kernel)) (by rw [isSubtype_type]; kernel_rfl)
theorem entry_search:entryFor table "re.Pattern.search" = some Builtin.«re.Pattern.search»:=PySem.entryFor_of_tree (by kernel_rfl)
theorem args_search (a b:Value):argsOk "re.Pattern.search" ⟨[a,b],[]⟩:=by
 unfold argsOk
 kernel_rfl
noncomputable def nameCode:Array Nat:=#[14,10,4,1,1,22,0,31,16,127,0,13,7,22,0,31,16,127,0,1]
noncomputable def valCode:Array Nat:=#[14,14,4,1,1,9,4294966783,0,0,2147483648,0,0,0,0,0,13,11,9,4294966783,0,0,2147483648,0,0,0,0,0,1]
noncomputable def badN (c:Nat):Bool:=decide (c ≤ 31) || decide (c = 127)
noncomputable def badV (c:Nat):Bool:=(decide (c ≤ 31) && decide (c ≠ 9)) || decide (c = 127)
structure Seek (code:Array Nat) (p:Nat) (bad:Nat→Bool):Prop where
 head:Sre.header code = (1,p)
 first:code.getD 0 0 = 14∧code.getD 2 0 = 4
 set0:∀ ch seen,∃ seen',Sre.inSet code ch code.size 5 true seen = .ok (bad ch,seen')
 isIn:Sre.ops[code.getD p 0]? = some .IN
 set1:∀ ch seen,∃ seen',Sre.inSet code ch code.size (p + 2) true seen = .ok (bad ch,seen')
 wide:Sre.ops[code.getD (p + (1 + code.getD (p + 1) 0)) 0]? = some .SUCCESS
 size:p < code.size∧p + (1 + code.getD (p + 1) 0) < code.size
theorem set_name {ch:Nat} {a b c:Sre.Seen} {x:Except String (Bool × Sre.Seen)} (e:x = (if (decide (0 ≤ ch) && decide (ch ≤ 31)) = true then .ok (true,a) else if (ch == 127) = true then .ok (true,b) else .ok (false,c))):∃ seen',x = .ok (badN ch,seen'):=by
 subst e
 rw [decide_eq_true (Nat.zero_le ch),Bool.true_and]
 unfold badN
 cases decide (ch ≤ 31) with
 | true => exact ⟨_,rfl⟩
 | false =>
  show ∃ seen',(if decide (ch = 127) = true then _ else _) = Except.ok (decide (ch = 127),seen')
  cases decide (ch = 127) with
  | true => exact ⟨_,rfl⟩
  | false => exact ⟨_,rfl⟩
theorem seek_name:Seek nameCode 11 badN where
 head:=rfl
 first:=⟨rfl,rfl⟩
 set0 ch seen:=set_name rfl
 isIn:=rfl
 set1 ch seen:=set_name rfl
 wide:=rfl
 size:=by decide
theorem chars_v:∀ ch < 256,(valCode.getD (5 + (1 + ch / 32)) 0).testBit (ch % 32) = badV ch∧(valCode.getD (17 + (1 + ch / 32)) 0).testBit (ch % 32) = badV ch:=by decide +kernel
theorem seek_val:Seek valCode 15 badV where
 head:=rfl
 first:=⟨rfl,rfl⟩
 set0 ch seen:=by
  show ∃ seen',Sre.inSet valCode ch (26 + 2) 5 true seen = _
  have e:Sre.inSet valCode ch (26 + 2) 5 true seen = (if (decide (ch < 256) && (valCode.getD (5 + (1 + ch / 32)) 0).testBit (ch % 32)) = true then .ok (true,seen.add 9) else .ok (false,(seen.add 9).add 0)):=rfl
  rw [e]
  by_cases h:ch < 256
  ·rw [(chars_v ch h).1]
   cases q:badV ch with
   | true => exact ⟨_,by simp [h]; rfl⟩
   | false => exact ⟨_,by simp [h]; rfl⟩
  ·have:badV ch = false:=by unfold badV; simp; omega
   rw [this]
   exact ⟨_,by simp [h]; rfl⟩
 isIn:=rfl
 set1 ch seen:=by
  show ∃ seen',Sre.inSet valCode ch (26 + 2) 17 true seen = _
  have e:Sre.inSet valCode ch (26 + 2) 17 true seen = (if (decide (ch < 256) && (valCode.getD (17 + (1 + ch / 32)) 0).testBit (ch % 32)) = true then .ok (true,seen.add 9) else .ok (false,(seen.add 9).add 0)):=rfl
  rw [e]
  by_cases h:ch < 256
  ·rw [(chars_v ch h).2]
   cases q:badV ch with
   | true => exact ⟨_,by simp [h]; rfl⟩
   | false => exact ⟨_,by simp [h]; rfl⟩
  ·have:badV ch = false:=by unfold badV; simp; omega
   rw [this]
   exact ⟨_,by simp [h]; rfl⟩
 wide:=rfl
 size:=by decide
theorem admitted_none {m:Sre.M} {code:Array Nat} {p:Nat} {bad:Nat→Bool} (S:Seek code p bad) (hc:m.code = code) (hl:m.lim = m.text.size) (h:∀ i,i < m.text.size→bad (m.text.getD i 0) = false):∀ (fuel s:Nat) (seen:Sre.Seen),∃ seen',Sre.M.admitted m fuel s seen = .ok (none,seen')
 | 0,s,seen => ⟨_,rfl⟩
 | fuel + 1,s,seen => by
  unfold Sre.M.admitted
  by_cases hs:s ≥ m.lim
  ·rw [if_pos hs]; exact ⟨_,rfl⟩
  ·rw [if_neg hs,hc]
   obtain ⟨seen',e⟩:=S.set0 (m.text.getD s 0) seen
   (rewrite [e]; rw [h s (by omega)] at ⊢)
   exact admitted_none S hc hl h fuel (s + 1) seen'
theorem admitted_some {m:Sre.M} {code:Array Nat} {p:Nat} {bad:Nat→Bool} (S:Seek code p bad) (hc:m.code = code) (hl:m.lim = m.text.size) {i:Nat} (hi:i < m.text.size) (h:bad (m.text.getD i 0) = true):∀ (fuel s:Nat) (seen:Sre.Seen),s ≤ i→i < s + fuel→∃ seen' j,Sre.M.admitted m fuel s seen = .ok (some j,seen')∧j < m.text.size∧bad (m.text.getD j 0) = true
 | 0,s,seen,h1,h2 => by omega
 | fuel + 1,s,seen,h1,h2 => by
  unfold Sre.M.admitted
  (rewrite [if_neg (by omega)] at ⊢; rw [hc])
  obtain ⟨seen',e⟩:=S.set0 (m.text.getD s 0) seen
  rw [e]
  cases q:bad (m.text.getD s 0) with
  | true => exact ⟨_,s,rfl,by omega,q⟩
  | false =>
   have:s ≠ i:=fun z => by subst z; rw [h] at q; cases q
   exact admitted_some S hc hl hi h fuel (s + 1) seen' (by omega) (by omega)
end
section
open PySem PySem.W PyProof.Rows PySem.Calls PySem.Spec PySem.Builtin PySem.Builtin.Str PySem.Builtin.Re
noncomputable def Bad (bad:Nat→Bool) (x:Str):Bool:=x.cps.toList.any bad
theorem bad_false {bad:Nat→Bool} {x:Str} (h:Bad bad x = false):∀ i,i < x.cps.size→bad (x.cps.getD i 0) = false:=fun i hi => by
 have:=List.any_eq_false.mp h (x.cps.getD i 0) (by
  (rewrite [Array.getD_eq_getD_getElem?]; rw [Array.getElem?_eq_getElem hi] at ⊢)
  exact Array.mem_toList_iff.mpr (Array.getElem_mem hi))
 simpa using this
theorem bad_true {bad:Nat→Bool} {x:Str} (h:Bad bad x = true):∃ i,i < x.cps.size∧bad (x.cps.getD i 0) = true:=by
 left;rcases List.any_eq_true.mp h with ⟨a,ha,hb⟩;right
 left;rcases List.getElem_of_mem ha with ⟨i,hi,z0_⟩;right;subst z0_
 refine ⟨i,by simpa using hi,?_⟩
 (rewrite [Array.getD_eq_getD_getElem?]; rw [Array.getElem?_eq_getElem (by simpa using hi)] at ⊢)
 simpa using hb
noncomputable def sm (code text:Array Nat):Sre.M:=Sre.forSearch code text 0 0 text.size false
theorem sm_size {code:Array Nat} {p:Nat} {bad:Nat→Bool} (S:Seek code p bad) (x:Str) (hx:0 < x.cps.size):∃ m:Sre.M,sm code x.cps = m.attemptFrom 0 true∧m.code = code∧m.text = x.cps∧m.lim = x.cps.size∧m.pc = p∧m.weight = 0∧m.frames = []∧m.wholeText = false∧m.outcome = none∧m.answer = none:=by
 unfold sm Sre.forSearch
 rw [S.head]
 dsimp only
 rw [if_neg (by intro z; rcases (Bool.or_eq_true _ _).mp z with q | q <;> have:=of_decide_eq_true q <;> omega)] at ⊢
 refine ⟨_,rfl,rfl,rfl,rfl,?_,rfl,rfl,rfl,rfl,rfl⟩
 show (Sre.header code).2 = p
 rw [S.head]
theorem run_say {m:Sre.M} (hf:m.frames = []) (ho:m.outcome = none):((m.say false).runFor 4).outcome = some .failed:=by
 have e1:(m.say false).outcome = none:=ho
 have e2:(m.say false).step = { m.say false with outcome:=some .failed }:=by
  unfold Sre.M.step
  rw [e1]
  show (match some false,m.frames with | some yes,[] => _ | some yes,f :: rest => _ | none,_ => _) = _
  rewrite [hf]; rfl
 show (if (m.say false).outcome.isSome then m.say false else Sre.M.runFor 3 (m.say false).step).outcome = _
 rw [e1,e2]
 rfl
theorem run_none {code:Array Nat} {p:Nat} {bad:Nat→Bool} (S:Seek code p bad) (x:Str) (h:Bad bad x = false):((sm code x.cps).runFor 4).outcome = some .failed:=by
 by_cases hx:0 < x.cps.size
 ·left;rcases sm_size S x hx with ⟨m,e,h1,h2,h3,h4,h5,h6,h7,h8,h9⟩;right
  rw [e]
  have hf:m.hasFirstSet = true:=by
   unfold Sre.M.hasFirstSet
   rw [h1,S.first.1,S.first.2]; rfl
  unfold Sre.M.attemptFrom
  rw [hf]
  obtain ⟨seen',e2⟩:=admitted_none S h1 (by rw [h3,h2]) (by rw [h2]; exact bad_false h) (m.lim + 1 - 0) 0 m.seen
  show ((match m.admitted (m.lim + 1 - 0) 0 m.seen with | .ok (some s,seen) => _ | .ok (none,seen) => _ | .error why => _:Sre.M).runFor 4).outcome = _
  rw [e2]
  exact run_say h6 h8
 ·have e:∃ m:Sre.M,sm code x.cps = m.say false∧m.frames = []∧m.outcome = none:=by
   unfold sm Sre.forSearch
   rw [S.head]
   dsimp only
   rw [if_pos (by rw [show x.cps.size = 0 by omega] at ⊢; decide)] at ⊢
   exact ⟨_,rfl,rfl,rfl⟩
  left;rcases e with ⟨m,e,h1,h2⟩;right
  rw [e]
  exact run_say h1 h2
theorem step_in {m:Sre.M} {code:Array Nat} {p:Nat} {bad:Nat→Bool} (S:Seek code p bad) (hc:m.code = code) (ho:m.outcome = none) (ha:m.answer = none) (hp:m.pc = p) (hl:m.pos < m.lim) (hb:bad (m.text.getD m.pos 0) = true) :
  m.step.code = code∧m.step.pc = p + (1 + code.getD (p + 1) 0)∧m.step.frames = m.frames∧m.step.outcome = none∧m.step.answer = none∧m.step.outermost = m.outermost∧m.step.wholeText = m.wholeText∧m.step.mustAdvance = m.mustAdvance:=by
 have e1:m.step = m.exec:=by
  unfold Sre.M.step
  rw [ho,ha]
  show (if m.pc < m.code.size then m.exec else _) = _
  rw [hp,hc,if_pos S.size.1]
 obtain ⟨seen',hs⟩:=S.set1 (m.text.getD m.pos 0) (m.seen.add (m.word 0))
 have hac:Sre.accepts m.code m.pc (m.text.getD m.pos 0) (m.seen.add (m.word 0)) = .ok (true,seen'):=by
  unfold Sre.accepts
  rw [hc,hp,S.isIn]
  show Sre.inSet code (m.text.getD m.pos 0) code.size (p + 2) true (m.seen.add (m.word 0)) = _
  rw [hs,hb]
 have hw:Sre.itemWidth m.code m.pc = 1 + code.getD (p + 1) 0:=by
  unfold Sre.itemWidth
  rw [hc,hp,S.isIn]
 have e2:m.exec = { m with seen:=seen',pc:=p + (1 + code.getD (p + 1) 0),pos:=m.pos + 1 }:=by
  have hop:Sre.ops[m.word 0]? = some .IN:=by
   show Sre.ops[m.code.getD (m.pc + 0) 0]? = _
   rw [hc,hp]; exact S.isIn
  unfold Sre.M.exec
  rw [hop]
  show (if m.pos ≥ m.lim then _ else (match Sre.accepts m.code m.pc (m.text.getD m.pos 0) (m.seen.add (m.word 0)) with | .error why => _ | .ok (false,seen) => _ | .ok (true,seen) => _:Sre.M)) = _
  (rewrite [if_neg (by omega)] at ⊢; rw [hac])
  show ({ m with seen:=seen',pc:=m.pc + Sre.itemWidth m.code m.pc,pos:=m.pos + 1 }:Sre.M) = _
  rw [hw,hp]
 rw [e1,e2]
 exact ⟨hc,rfl,rfl,ho,ha,rfl,rfl,rfl⟩
theorem step_ok {m:Sre.M} {code:Array Nat} {p:Nat} {bad:Nat→Bool} (S:Seek code p bad) (hc:m.code = code) (ho:m.outcome = none) (ha:m.answer = none) (hp:m.pc = p + (1 + code.getD (p + 1) 0)) (h1:m.wholeText = false) (h2:m.mustAdvance = false) :
  m.step.frames = m.frames∧m.step.outcome = none∧m.step.answer = some true:=by
 have e1:m.step = m.exec:=by
  unfold Sre.M.step
  rw [ho,ha]
  show (if m.pc < m.code.size then m.exec else _) = _
  rw [hp,hc,if_pos S.size.2]
 have hop:Sre.ops[m.word 0]? = some .SUCCESS:=by
  show Sre.ops[m.code.getD (m.pc + 0) 0]? = _
  rw [hc,hp]; exact S.wide
 have e2:∃ sn,m.exec = ({ m with seen:=sn,handed:=m.pos }:Sre.M).say true:=by
  unfold Sre.M.exec
  rw [hop]
  refine ⟨m.seen.add (m.word 0),?_⟩
  show (if (m.outermost && ((m.wholeText && m.pos != m.lim) || (m.mustAdvance && m.pos == m.start))) = true then _ else _:Sre.M) = _
  rw [h1,h2]
  rw [if_neg (by simp)] at ⊢
 obtain ⟨sn,e2⟩:=e2
 rw [e1,e2]
 exact ⟨rfl,ho,rfl⟩
theorem step_up {m:Sre.M} {f:Sre.Frame} (ho:m.outcome = none) (ha:m.answer = some true) (hf:m.frames = [f]) (hw:f.wait = .nextStart):m.step.frames = []∧m.step.outcome = none∧m.step.answer = some true:=by
 left;rcases f with ⟨w,a1,a2,a3,a4,a5,a6,a7⟩;right
 cases hw
 unfold Sre.M.step
 rw [ho,ha,hf]
 exact ⟨rfl,rfl,rfl⟩
theorem step_end {m:Sre.M} (ho:m.outcome = none) (ha:m.answer = some true) (hf:m.frames = []):m.step.outcome = some .matched:=by
 unfold Sre.M.step
 rw [ho,ha,hf]
 rfl
theorem run_at {m:Sre.M} {code:Array Nat} {p:Nat} {bad:Nat→Bool} (S:Seek code p bad) {j:Nat} (hc:m.code = code) (ho:m.outcome = none) (ha:m.answer = none) (hp:m.pc = p) (hw:m.weight = 0) (hf:m.frames = []) (h1:m.wholeText = false) (h2:m.mustAdvance = false) (hj:j < m.lim) (hb:bad (m.text.getD j 0) = true) :
  ((m.attemptAt j true).runFor 4).outcome = some .matched:=by
 have e:∃ f:Sre.Frame,m.attemptAt j true = { m with start:=j,pos:=j,lastmark:=-1,lastindex:=-1,frames:=[f],weight:=m.weight + 1 + 0,pc:=m.pc,handed:=j,outermost:=true }∧f.wait = .nextStart:=by
  unfold Sre.M.attemptAt Sre.M.attempt
  dsimp only
  (rewrite [if_neg (by rw [hw]; decide)] at ⊢; rw [hf])
  exact ⟨_,rfl,rfl⟩
 left;rcases e with ⟨f,e,hfw⟩;right
 generalize hm1:m.attemptAt j true = m1 at e
 have a1:=step_in (m:=m1) S (by rw [e]; exact hc) (by rw [e]; exact ho) (by rw [e]; exact ha) (by rw [e]; exact hp) (by rw [e]; exact hj) (by rw [e]; exact hb)
 have q1:m1.outcome = none:=by rw [e]; exact ho
 have q2:m1.frames = [f]:=by rw [e]
 have q3:m1.wholeText = false:=by rw [e]; exact h1
 have q4:m1.mustAdvance = false:=by rw [e]; exact h2
 left;rcases a1 with ⟨b1,b2,b3,b4,b5,b6,b7,b8⟩;right
 left;rcases step_ok S b1 b4 b5 b2 (b7.trans q3) (b8.trans q4) with ⟨c1,c2,c3⟩;right
 left;rcases step_up c2 c3 (c1.trans (b3.trans q2)) hfw with ⟨d1,d2,d3⟩;right
 have e4:=step_end d2 d3 d1
 have st:∀ (m:Sre.M),m.outcome = none→∀ k,Sre.M.runFor (k + 1) m = Sre.M.runFor k m.step:=fun m h1 k => by
  show (if m.outcome.isSome then m else Sre.M.runFor k m.step) = _
  rw [h1]; rfl
 rw [st _ q1 3,st _ b4 2,st _ c2 1,st _ d2 0]
 exact e4
theorem run_some {code:Array Nat} {p:Nat} {bad:Nat→Bool} (S:Seek code p bad) (x:Str) (h:Bad bad x = true):((sm code x.cps).runFor 4).outcome = some .matched:=by
 left;rcases bad_true h with ⟨i,hi,hb⟩;right
 left;rcases sm_size S x (Nat.lt_of_le_of_lt (Nat.zero_le _) hi) with ⟨m,e,h1,h2,h3,h4,h5,h6,h7,h8,h9⟩;right
 rw [e]
 have hf:m.hasFirstSet = true:=by
  unfold Sre.M.hasFirstSet
  rw [h1,S.first.1,S.first.2]; rfl
 unfold Sre.M.attemptFrom
 rw [hf]
 left;rcases admitted_some S h1 (by rw [h3,h2]) (i:=i) (by rw [h2]; exact hi) (by rw [h2]; exact hb) (m.lim + 1 - 0) 0 m.seen (by omega) (by rw [h3]; omega) with ⟨seen',j,e2,hj,hbj⟩;right
 show ((match m.admitted (m.lim + 1 - 0) 0 m.seen with | .ok (some s,seen) => _ | .ok (none,seen) => _ | .error why => _:Sre.M).runFor 4).outcome = _
 rw [e2]
 rw [h2] at hj hbj
 refine run_at S (by exact h1) (by exact h8) (by exact h9) (by exact h4) (by exact h5) (by exact h6) (by exact h7) rfl ?_ ?_
 ·show j < m.lim
  rw [h3]; exact hj
 ·show bad (m.text.getD j 0) = true
  rw [h2]; exact hbj
section
variable {prog:Program} {w:World} {A:Around} {E:Value→Shared→Prop} {s:Shared}
theorem rules_run {l:List Nat} {f:Nat→Bool} {g:Nat→String} {Q:PUnit→Shared→Prop} {M:Model} (h:Q ⟨⟩ s) :
  wpAny M A (forIn l PUnit.unit fun i _ => do if f i then (do rule (g i); pure (ForInStep.yield PUnit.unit)) else pure (ForInStep.yield PUnit.unit)) Q E s:=by
 refine wpAny_forIn_list _ (fun _ _ s' => s' = s) _ (fun i rest b s' hs => ?_) (fun b s' hs => ?_) l _ rfl
 ·subst hs
  cases q:f i with
  | true => exact wpAny_bind (wpAny_rule (wpAny_pure rfl))
  | false => exact wpAny_pure rfl
 ·subst hs; exact h
theorem toEnd_run {m:Sre.M} {o:Sre.Outcome} {Q:Option Sre.M→Shared→Prop} {M:Model} (ho:(m.runFor 4).outcome = some o) (hq:(o = .matched∧Q (some (m.runFor 4)) s) ∨ (o = .failed∧Q none s)):wpAny M A (reRunToEnd m) Q E s:=by
 unfold reRunToEnd
 have e:reDrive (2 ^ 64) m = pure (m.runFor 4):=by
  show reDrive (18446744073709551615 + 1) m = _
  unfold reDrive
  show (if (m.runFor 4).outcome.isSome = true then _ else _) = _
  rw [ho]; rfl
 rw [e]
 refine wpAny_bind (wpAny_pure ?_)
 refine wpAny_bind (rules_run ?_)
 rw [ho]
 rcases hq with ⟨rfl,q⟩ | ⟨rfl,q⟩
 ·exact wpAny_pure q
 ·exact wpAny_pure q
structure PatAt (h:Heap) (pat:Addr) (code:Array Nat):Prop where
 at_:∃ (o:Obj) (vs:Array Value) (tup:Addr) (ot:Obj) (cs:Array Value) (n:Nat),h.get? pat = some o∧o.cls = .type "re.Pattern"∧o.data = .fields vs∧reRawNat (vs.getD 6 .none) = 0∧vs.getD 5 .none = .ref tup∧reRawNat (vs.getD 2 .none) = 0 ∧
  h.get? tup = some ot∧ot.data = .seq cs n∧(cs.map reRawOf).map (·.toNat) = code
theorem search_call {pat:Addr} {code:Array Nat} {p:Nat} {bad:Nat→Bool} (S:Seek code p bad) (P:PatAt s.heap pat code) {x:Str} {t:Tok} {Q:Value→Shared→Prop} (hx:x.length ≤ lim)
  (h0:Bad bad x = false→Q .none s) (h1:Bad bad x = true→∀ a o s',K2 s s'→s'.heap.get? a = some o→o.cls = .type "re.Match"→Q (.ref a) s'):wpAny (model prog w) A (call (.builtin "re.Pattern.search") [.ref pat,.str x t]) Q E s:=by
 left;rcases P.at_ with ⟨o,vs,tup,ot,cs,n,ho,hc,hd,h6,h5,h2,hot,hod,hcode⟩;right
 have hT:s.TypeIs (.ref pat) "re.Pattern" := ⟨_,ho,hc⟩
 refine wpAny_call (codeAny_call_builtin slot_search.plain entry_search (slot_search.check _ _ _ _ _ _ _ _ hT (args_search _ _) ?_))
 have hn:reNamed "re.Pattern.search" "search" ["string", "pos", "endpos"] 1 [.str x t] [] = pure [some (.str x t),none,none]:=by rfl
 unfold Builtin.«re.Pattern.search» reTarget
 refine wpAny_bind ?_
 show wpAny (model prog w) A.in1 (reNamed "re.Pattern.search" "search" ["string", "pos", "endpos"] 1 [.str x t] [] >>= _) _ _ s
 rw [hn]
 refine wpAny_bind (wpAny_pure ?_)
 refine wpAny_bind (wpAny_pure ?_)
 refine wpAny_bind (wpAny_pure ?_)
 refine wpAny_bind (wpAny_fieldsOf ho hd ?_)
 refine wpAny_bind (wpAny_bind (wpAny_pure (wpAny_pure ?_)))
 dsimp only
 rw [h6,h5,h2]
 rw [if_neg (by decide),if_neg (by decide)] at ⊢
 have hni:reNoCollectionInside (.str x t) 0 = pure ():=rfl
 rw [hni]
 refine wpAny_bind (wpAny_pure ?_)
 unfold reRawItems
 refine wpAny_bind (wpAny_bind (wpAny_seqItems hot hod ?_))
 refine wpAny_pure (wpAny_pure ?_)
 dsimp only [Option.getD]
 rw [hcode]
 have hlim:Min.min ((2:Int) ^ 63 - 1).toNat x.cps.size = x.cps.size:=Nat.min_eq_right (by
  have:((2:Int) ^ 63 - 1).toNat = 9223372036854775807:=by decide
  rw [this]; have:x.cps.size ≤ lim:=hx; unfold lim at this; omega)
 rw [hlim]
 have h00:Min.min (Int.toNat 0) x.cps.size = 0:=Nat.min_eq_left (Nat.zero_le _)
 rw [h00]
 unfold reAnswer
 refine wpAny_bind ?_
 show wpAny (model prog w) A.in1 (reRunToEnd (sm code x.cps)) _ _ s
 cases hb:Bad bad x with
 | false =>
  refine toEnd_run (run_none S x hb) (.inr ⟨rfl,?_⟩)
  exact wpAny_pure (h0 hb)
 | true =>
  refine toEnd_run (run_some S x hb) (.inl ⟨rfl,?_⟩)
  unfold reNewMatch
  dsimp only
  simp only [List.range_zero,List.any_nil,List.flatMap_nil]
  rw [if_neg (by decide)] at ⊢
  refine wpAny_bind (wpAny_bind (wpAny_newTuple ?_ (by show (2:Nat) ≤ 16777216; decide)))
  unfold newFields
  refine wpAny_newObj_type ?_ (by show (6:Nat) ≤ 16777216 + 2; decide)
  exact wpAny_pure (h1 hb _ _ _ ⟨Keeps.trans' (keeps_push s _ s.toks) (keeps_push _ _ _),Nat.le_refl _⟩ (Heap.get?_push_size _ rfl) rfl)
end
end
section
section
variable {c:Cx} {n:Nat} {A:Around} {env:Env} {b:Shared} {co own:List Addr} {ad:Str→List Addr} {lo lo':List (Str × D)} {ow ow':List (Str × OwnD)} {ex:List (Str × Value)} {s s':Shared} {o:Out}
theorem Sto.storeX (S:Sto c n A env b co own ad lo ow ex s) {E:Value→Shared→Prop} {x:Str} {v:Value} {Q:Unit→Shared→Prop} (hk:env.kindOf x = some .local) (hlo:lo.lookup x = none) (how:ow.lookup x = none) (hex:ex.lookup x = none)
  (h:∀ s',(∃ h' tk,s' = { s with heap:=h',toks:=tk }∧Heap.SameBut env.locals s.heap h'∧s.toks ≤ tk)→Sto c n A env b co own ad lo ow ((x,v) :: ex) s'→Q () s'):wpAny (model c.prog c.w) A (storeName env x v) Q E s:=by
 left;rcases S.loc with ⟨⟨m,hm⟩,hLo,hLc⟩;right
 refine wpAny_storeName_local hk hm (fun h' hn hs => h _ ⟨h',_,rfl,hs,Nat.le_succ _⟩ ?_) (by rw [S.sit.ek.kind]; rfl)
 have hn':=hn
 left;rcases hn' with ⟨oq,es,ep,g1,g2,_,_⟩;right
 have kp:=keep_of hLo hs
 have hof:∀ vs,oq.data ≠ .fields vs:=fun vs z => by rw [g2] at z; cases z
 have hot:∀ vs n,oq.data ≠ .seq vs n:=fun vs k z => by rw [g2] at z; cases z
 have hqa:∀ y w,ow.lookup y = some w→env.locals ∉ ad y:=fun y w e hm => by left;rcases S.owns y w e with ⟨_,_,_,z⟩;right; exact (z _ hm).2.2 rfl
 have hx:NameIs env h' x v:=.inl ⟨hk,_,hn,by simp⟩
 have hy:∀ y u,y ≠ x→NameIs env s.heap y u→NameIs env h' y u:=fun y u hyx e => by
  rcases e with ⟨a,m',b',d'⟩ | ⟨a,q,b',d'⟩
  ·have:=ns_unique b' hm; subst this
   exact .inl ⟨a,_,hn,by simp [hyx,d']⟩
  ·exact .inr ⟨a,q,b',d'.sameBut hs (fun z => by
    subst z
    left;rcases d' with ⟨o1,x1,x2⟩;right
    left;rcases hm with ⟨o2,_,_,x3,x4,_,_⟩;right
    rw [x1] at x3; cases x3; rw [x2] at x4; cases x4)⟩
 have ok':OwnOk own h':=fun a ha => by
  by_cases z:a = env.locals
  ·subst z; exact ⟨oq,g1,fun z => by left;rcases z with ⟨_,vs,k,e⟩;right; exact hot vs k e⟩
  ·left;rcases S.sit.ok a ha with ⟨o,ho,hc⟩;right
   exact ⟨o,(hs.2 a z).trans ho,hc⟩
 have eb:Ext b.heap h':=fun a o e => by
  by_cases z:a = env.locals
  ·subst z
   rcases S.new _ hLo with y | y
   ·exact absurd y hLc
   ·rw [y] at e; cases e
  ·exact (hs.2 a z).trans ((Keeps.ext S.keep) a o e)
 have eH:Ext c.H h':=fun a o e => by
  by_cases z:a = env.locals
  ·subst z; rw [S.sit.base _ hLo] at e; cases e
  ·exact (hs.2 a z).trans (S.sit.ext a o e)
 have lk:∀ y,((x,v) :: ex).lookup y = none→ex.lookup y = none:=fun y e => by
  rw [List.lookup_cons] at e
  by_cases z:(y == x) = true
  ·rw [z] at e; cases e
  ·have z':(y == x) = false:=by simpa using z
   rwa [z'] at e
 exact {
  sit:=⟨S.sit.ek,⟨S.sit.ao.handled,S.sit.ao.depth,S.sit.ao.units,let ⟨o,p,r⟩:=S.sit.ao.frames; ⟨o,p,funFrames_but hs g1 hof r⟩⟩,eH,ok',S.sit.base,Nat.le_trans S.sit.tok (Nat.le_succ _),fun y d e => by
   left;rcases S.sit.names y d e with ⟨u,a,r⟩;right
   exact ⟨u,hy y u (fun z => by subst z; rw [hlo] at e; cases e) a,r.keep S.sit.ok kp⟩⟩
  coIn:=S.coIn
  new:=S.new
  keep:=Keeps.step S.keep eb
  loc:=⟨⟨_,hn⟩,hLo,hLc⟩
  cell:=fun y a ke k l => by
   left;rcases S.cell y a (lk y ke) k l with ⟨⟨u,hu⟩,r⟩;right
   exact ⟨⟨u,hu.sameBut hs (fun z => by
      subst z
      left;rcases hu with ⟨o1,x1,x2⟩;right
      left;rcases hm with ⟨o2,_,_,x3,x4,_,_⟩;right
      rw [x1] at x3; cases x3; rw [x2] at x4; cases x4)⟩,r⟩
  cells:=fun y z a ke => S.cells y z a (lk y ke)
  exact:=fun y u e => by
   rw [List.lookup_cons] at e
   by_cases z:(y == x) = true
   ·rw [z] at e; cases e
    have:y = x:=by simpa using z
    subst this; exact hx
   ·have z':(y == x) = false:=by simpa using z
    rw [z'] at e
    exact hy y u (by simpa using z) (S.exact y u e)
  owns:=fun y w e => by
   left;rcases S.owns y w e with ⟨a,n1,o1,l1⟩;right
   refine ⟨a,hy y _ (fun z => by subst z; rw [how] at e; cases e) n1,o1.keep S.sit.ok kp (fun p hp o ho => ?_),l1⟩
   exact (hs.2 p fun z => by subst z; exact hqa y w e hp).trans ho
  apart:=S.apart }
noncomputable def EX (c:Cx) (n:Nat) (env:Env) (lo:List (Str × D)) (e:PySem.Expr) (v:Value):Prop:=
 ∀ (A:Around) (E:Value→Shared→Prop) (s:Shared) (own:List Addr) (Q:Value→Shared→Prop),Sit c n A env own lo s →
  (∀ s',K2 s s'→Q v s')→wpAny (model c.prog c.w) A (eval e env) Q E s
theorem EX.glob {x:Str} {p:Pos} {v:Value} (g:GlobIs c env x v) (hd:autoParam ((x == ("__debug__":Str)) = false) byDec):EX c n env lo (.Name x p) v:=fun A E s own Q S h => glob_eval g S hd (h s (K2.refl s))
theorem EX.ite {test body orelse:PySem.Expr} {pos:Pos} {a b:Value} {t:Bool} (x:TV c n env lo test t) (y:EX c n env lo body a) (z:EX c n env lo orelse b):EX c n env lo (.IfExp test body orelse pos) (if t then a else b):=fun A E s own Q S h =>
 PyProof.Rows.IfExp_ (x A E s own _ S fun s₁ k => by
  cases t with
  | true => exact y A E s₁ own _ (S.mono k) fun s₂ k' => h _ (k.trans k')
  | false => exact z A E s₁ own _ (S.mono k) fun s₂ k' => h _ (k.trans k'))
theorem Ex.consX {x:Str} {p pos:Pos} {e:PySem.Expr} {v:Value} {rest:List Stmt} {d:D} (y:EX c n env lo e v) (hk:env.kindOf x = some .local) (z:Ex c n env ((x,v) :: ex) rest lo ow (.ret d)) (hlo:autoParam (lo.lookup x = none) byRfl) (how:autoParam (ow.lookup x = none) byRfl) (hex:autoParam (ex.lookup x = none) byRfl) (hs:autoParam (swapsWith e (some (.Name x p)) pos.line env = pure false) byRfl) :
  Ex c n env ex (.Assign [.Name x p] e pos :: rest) lo ow (.ret d):=fun A E b co s ⟨own,ad,S⟩ =>
 wpAny_execs_cons (wpAny_Assign_Name (y A E s own _ S.sit fun s₁ k => (S.mono k).storeX hk hlo how hex fun s' _ S' => wpAny_mono (z A E b co s' ⟨own,ad,S'⟩) (fun fl s'' h => h) fun _ _ z => z) hs)
theorem plainAttrs_pattern:PlainAttrs "re.Pattern" where
 ga:=⟨"object.__getattribute__",by rw [typeLookup_type,builtinLookup_eq_fast]; kernel_rfl,by decide +kernel⟩
 noGetattr:=by rw [typeLookup_type,builtinLookup_eq_fast]; kernel_rfl
theorem type_search:typeOf (.builtin "re.Pattern.search") = pure (.type "method_descriptor"):=by show builtinType _ = _; rw [builtinType_eq_fast]; kernel_rfl
theorem match_noBool:typeLookup (.type "re.Match") "__bool__" = pure none:=by rw [typeLookup_type,builtinLookup_eq_fast]; kernel_rfl
theorem match_noLen:typeLookup (.type "re.Match") "__len__" = pure none:=by rw [typeLookup_type,builtinLookup_eq_fast]; kernel_rfl
theorem truthy_match {prog:Program} {w:World} {E:Value→Shared→Prop} {a:Addr} {o:Obj} {Q:Bool→Shared→Prop} (ho:s.heap.get? a = some o) (hc:o.cls = .type "re.Match") (h:Q true s):wpAny (model prog w) A (truthy (.ref a)) Q E s:=by
 have hT:s.TypeIs (.ref a) "re.Match" := ⟨_,ho,hc⟩
 unfold truthy
 refine wpAny_bind (wpAny_callSpecial?_none (name:=Str.ofString "__bool__") hT match_noBool ?_)
 refine wpAny_bind (wpAny_specialOf (name:=Str.ofString "__len__") hT match_noLen ?_)
 exact wpAny_pure h
theorem search_test {E:Value→Shared→Prop} {x y:Str} {p1 p2 ap pos:Pos} {pat:Addr} {code:Array Nat} {q:Nat} {bad:Nat→Bool} {t:Str} {pl:Sem Bool} {Q:Bool→Shared→Prop} (S:Sto c n A env b co own ad lo ow ex s) (Sk:Seek code q bad) (P:PatAt c.H pat code) (hd0:∃ o,c.H.get? pat = some o∧o.dict = none) (hx:ex.lookup x = some (.ref pat)) (hy:lo.lookup y = some (.str t)) (hl:t.length ≤ lim)
  (h:∀ s',K2 s s'→Q (Bad bad t) s')
  (hd:autoParam ((x == ("__debug__":Str)) = false) byDec) (hcd:autoParam ((x == ("__classdict__":Str)) = false) byDec) (hd2:autoParam ((y == ("__debug__":Str)) = false) byDec) (hcd2:autoParam ((y == ("__classdict__":Str)) = false) byDec)
  (he:autoParam (eval (.Call (.Attribute (.Name x p1) "search" ap) [.Name y p2] [] pos) env = (do
   let ov ← eval (.Name x p1) env
   standAt ap.atName
   let (f,first) ← holding [ov] (getMethod ov "search" pl)
   callWith pos f first (backTo pos (starEach [.Name y p2] env)) (backToKw pos (keywordEach [] env)))) byRfl) (hse:autoParam (starEach [.Name y p2] env = (false,eval (.Name y p2) env) :: starEach [] env) byRfl) :
  wpAny (model c.prog c.w) A (isTrue (.Call (.Attribute (.Name x p1) "search" ap) [.Name y p2] [] pos) env (eval (.Call (.Attribute (.Name x p1) "search" ap) [.Name y p2] [] pos) env)) Q E s:=by
 refine wpAny_isTrue_value ?_
 refine methodCall_KW (wpAny_Name (nameIs_load S.sit.ek (S.exact x _ hx) hcd ?_) hd) he
 left;rcases P.at_ with ⟨o,vs,tup,ot,cs,k,ho,hc,hdt,r⟩;right
 have ho':=S.sit.ext _ _ ho
 left;rcases hd0 with ⟨o',ho2,hdn⟩;right
 rw [ho] at ho2; cases ho2
 refine getMethod_builtin (T := "re.Pattern") ⟨_,ho',hc⟩ plainAttrs_pattern slot_search type_search (fun a ha => by cases ha; exact ⟨o,ho',hdn⟩) ?_
 refine callWith_ev (first:=[.ref pat]) KeepF.builtin (EVs.cons (EV.name hy hd2 hcd2) .nil hse) ⟨.inr ⟨_,_,rfl,hse⟩,by rw [hse]; rfl⟩ S.sit fun us s₁ k1 ru => ?_
 cases ru with
 | @cons u _ _ _ rd rn =>
  cases rn
  cases rd
  refine search_call Sk ⟨o,vs,tup,ot,cs,k,k1.ext _ _ ho',hc,hdt,?_⟩ hl (fun hb => ?_) fun hb a om s₂ k2 hm hmc => ?_
  ·left;rcases r with ⟨r1,r2,r3,r4,r5,r6⟩;right
   exact ⟨r1,r2,r3,k1.ext _ _ (S.sit.ext _ _ r4),r5,r6⟩
  ·have:=h s₁ k1
   rw [hb] at this
   exact truthy_none this
  ·have:=h s₂ (k1.trans k2)
   rw [hb] at this
   exact truthy_match hm hmc this
end
end
section
theorem pat_name {c:Cx} (h:Is c):PatAt c.H 48 nameCode:=⟨_,_,47,_,_,_,c.X 48 _ (by rw [h]; rfl),rfl,rfl,rfl,rfl,rfl,c.X 47 _ (by rw [h]; rfl),rfl,by decide +kernel⟩
theorem pat_val {c:Cx} (h:Is c):PatAt c.H 53 valCode:=⟨_,_,52,_,_,_,c.X 53 _ (by rw [h]; rfl),rfl,rfl,rfl,rfl,rfl,c.X 52 _ (by rw [h]; rfl),rfl,by decide +kernel⟩
theorem g_type {c:Cx} (h:Is c) {env:Env} (hk:autoParam (env.kindOf "type" = some .globalImplicit) byRfl):GlobIs c env "type" (.type "type"):=GlobIs.built (by rw [h]; rfl) (by rfl) (by decide) hk
theorem g_str {c:Cx} (h:Is c) {env:Env} (hk:autoParam (env.kindOf "str" = some .globalImplicit) byRfl):GlobIs c env "str" (.type "str"):=GlobIs.built (by rw [h]; rfl) (by rfl) (by decide) hk
theorem g_nre {c:Cx} (h:Is c) {env:Env} (hk:autoParam (env.kindOf "_name_disallowed_re" = some .globalImplicit) byRfl):GlobIs c env "_name_disallowed_re" (.ref 48):=GlobIs.glob (by rw [h]; rfl) hk
theorem g_vre {c:Cx} (h:Is c) {env:Env} (hk:autoParam (env.kindOf "_value_disallowed_re" = some .globalImplicit) byRfl):GlobIs c env "_value_disallowed_re" (.ref 53):=GlobIs.glob (by rw [h]; rfl) hk
section
variable {c:Cx} {n:Nat} {A:Around} {env:Env} {b:Shared} {co own:List Addr} {ad:Str→List Addr} {lo lo':List (Str × D)} {ow ow':List (Str × OwnD)} {ex:List (Str × Value)} {s s':Shared} {o:Out}
theorem Ex1.noFind {x y:Str} {p1 p2 ap pos ipos:Pos} {body:List Stmt} {pat:Addr} {code:Array Nat} {q:Nat} {bad:Nat→Bool} {t:Str} {pl:Sem Bool} (Sk:Seek code q bad) (P:PatAt c.H pat code) (hd0:∃ o,c.H.get? pat = some o∧o.dict = none) (hx:ex.lookup x = some (.ref pat)) (hy:lo.lookup y = some (.str t)) (hl:t.length ≤ lim) (hb:Bad bad t = false)
  (hd:autoParam ((x == ("__debug__":Str)) = false) byDec) (hcd:autoParam ((x == ("__classdict__":Str)) = false) byDec) (hd2:autoParam ((y == ("__debug__":Str)) = false) byDec) (hcd2:autoParam ((y == ("__classdict__":Str)) = false) byDec)
  (he:autoParam (eval (.Call (.Attribute (.Name x p1) "search" ap) [.Name y p2] [] pos) env = (do
   let ov ← eval (.Name x p1) env
   standAt ap.atName
   let (f,first) ← holding [ov] (getMethod ov "search" pl)
   callWith pos f first (backTo pos (starEach [.Name y p2] env)) (backToKw pos (keywordEach [] env)))) byRfl) (hse:autoParam (starEach [.Name y p2] env = (false,eval (.Name y p2) env) :: starEach [] env) byRfl) :
  Ex1 c n env ex (.If (.Call (.Attribute (.Name x p1) "search" ap) [.Name y p2] [] pos) body [] ipos) lo ow (.next lo ow):=fun A E b co s ⟨own,ad,S⟩ =>
 wpAny_If (search_test S Sk P hd0 hx hy hl (fun s' k => by
  rw [hb]
  exact wpAny_execs_nil ⟨rfl,own,ad,S.mono k⟩) hd hcd hd2 hcd2 he hse)
end
theorem b3k {c:Cx} {fd:FuncData} {d1 d2:D} {x y z:Str} {kb:Bool} (hb:∀ v1 v2,bindArgs fd ⟨[v1,v2],[(z,.bool kb)]⟩ = pure [(x,v1),(y,v2),(z,.bool kb)]) (s:Shared) (own:List Addr) (vs:List Value) (_:Ext c.H s.heap) (r:RdAll c.w.params own s.heap vs [d1,d2]) :
  ∃ B:List (Str × Value),BindsTo s fd ⟨vs,([(z,kb)]:List (Str × Bool)).map fun p => (p.1,.bool p.2)⟩ B∧B.map (·.1) = [x,y,z]∧RdAll c.w.params own s.heap (B.map (·.2)) [d1,d2,.bool kb]:=by
 cases r with
 | cons r1 r => cases r with
  | cons r2 r =>
   cases r
   exact ⟨_,.of_eq (hb _ _),rfl,.cons r1 (.cons r2 (.cons (.bool kb) .nil))⟩
theorem f_convert {c:Cx} (h:Is c) {n:Nat} {kvs:List (Str × D)} (kb:Bool) (x:Str) (hl:x.length ≤ lim) (hb:Bad (if kb then badN else badV) x = false):FnOk c (n + 1) (.ref 83) [.inst 182 kvs,.str x] [("name",kb)] (.str x):=by
 refine FnOk.def (ho:=by rw [h]; rfl) (hcd:=by rw [h]; rfl) (N:=["self", "value", "name"]) (ds0:=[.inst 182 kvs,.str x,.bool kb]) (b3k fun _ _ => rfl) (by decide) (by rfl) ?_ (.inl rfl)
 intro L
 refine Ex.cons_ret (Ex1.ite (t:=true) (TV.typeIs (g_type h) (g_str h) (EV.name rfl) rfl (.inl ⟨rfl,rfl⟩)) (fun _ => ?_) (fun z => nomatch z))
 refine Ex.consX (v:=.ref (if kb then 48 else 53)) (d:=.str x) ?_ rfl ?_
 ·have:Value.ref (if kb then 48 else 53) = if kb then Value.ref 48 else .ref 53:=by cases kb <;> rfl
  rw [this]
  exact EX.ite (TV.value (EV.name rfl) rfl) (EX.glob (g_nre h)) (EX.glob (g_vre h))
 ·refine Ex.cons (lo':=[("self",.inst 182 kvs),("value",.str x),("name",.bool kb)]) (ow':=[]) ?_ (Ex.cons_ret (Ex1.ret (EV.name rfl)))
  cases kb with
  | true => exact Ex1.noFind seek_name (pat_name h) ⟨_,c.X 48 _ (by rw [h]; rfl),rfl⟩ rfl rfl hl hb
  | false => exact Ex1.noFind seek_val (pat_val h) ⟨_,c.X 53 _ (by rw [h]; rfl),rfl⟩ rfl rfl hl hb
end
section
noncomputable def repL (c:Nat) (z:List Nat) (l:List Nat):List Nat:=l.flatMap fun k => if k = c then z else [k]
theorem repL_free (c:Nat) (z:List Nat):∀ l:List Nat,c ∉ l→repL c z l = l
 | [],_ => rfl
 | k :: r,h => by
  have h1:¬ k = c:=fun e => h (e ▸ List.mem_cons_self ..)
  have h2:c ∉ r:=fun m => h (List.mem_cons_of_mem _ m)
  unfold repL
  rw [List.flatMap_cons,if_neg h1]
  have:=repL_free c z r h2
  unfold repL at this
  rw [this]; rfl
theorem repL_append (c:Nat) (z a b:List Nat):repL c z (a ++ b) = repL c z a ++ repL c z b:=by unfold repL; rw [List.flatMap_append]
theorem repL_join (c:Nat) (z:Str):∀ parts:List Str,(∀ p ∈ parts,c ∉ p.cps.toList)→repL c z.cps.toList (Str.join ⟨#[c]⟩ parts).cps.toList = (Str.join z parts).cps.toList
 | [],_ => rfl
 | [p],h => repL_free c _ _ (h p (List.mem_singleton.mpr rfl))
 | p :: q :: r,h => by
  have ih:=repL_join c z (q :: r) fun a ha => h a (List.mem_cons_of_mem _ ha)
  show repL c z.cps.toList (p ++ ⟨#[c]⟩ ++ Str.join ⟨#[c]⟩ (q :: r)).cps.toList = (p ++ z ++ Str.join z (q :: r)).cps.toList
  simp only [Str.cps_append,Array.toList_append]
  rw [repL_append,repL_append,ih,repL_free c _ _ (h p (List.mem_cons_self ..))]
  have:repL c z.cps.toList [c] = z.cps.toList:=by simp [repL]
  show p.cps.toList ++ repL c z.cps.toList [c] ++ _ = _
  rw [this]
theorem replace_L (x z:Str) (c:Nat):(Txt.replace x ⟨#[c]⟩ z).cps.toList = repL c z.cps.toList x.cps.toList:=by
 rw [StrLaws.replace_one,← repL_join c z _ (StrLaws.split_free x c),StrLaws.join_split]
theorem replace_S (l:List Nat) (c:Nat) (z:List Nat):Txt.replace (S l) (S [c]) (S z) = S (repL c z l):=by
 have:=replace_L (S l) (S z) c
 apply StrLaws.mk_of_toList
 exact this
theorem esc_rep (l:List Nat):repL 34 [92,34] (repL 92 [92,92] l) = esc l:=by
 unfold repL esc
 rw [List.flatMap_assoc]
 congr 1
 funext k
 by_cases h1:k = 92
 ·subst h1; rfl
 ·by_cases h2:k = 34
  ·subst h2; rfl
  ·simp [h1,h2]
theorem rep2_len:∀ v:List Nat,(repL 92 [92,92] v).length ≤ 2 * v.length
 | [] => Nat.le_refl _
 | a :: r => by
  have ih:=rep2_len r
  have e:repL 92 [92,92] (a :: r) = (if a = 92 then [92,92] else [a]) ++ repL 92 [92,92] r:=by unfold repL; rw [List.flatMap_cons]
  rw [e,List.length_append,List.length_cons]
  split
  ·simp only [List.length_cons,List.length_nil]; omega
  ·simp only [List.length_cons,List.length_nil]; omega
noncomputable def fmtT (p v:List Nat):List Nat:=if v = [] then p else p ++ [61,34] ++ esc v ++ [34]
theorem f_fmt {c:Cx} (h:Is c) {n:Nat} (p v:List Nat) (hp:p.length ≤ 1000) (hv:v.length ≤ 1000):FnOk c (n + 1) (.ref 61) [.str (S p),.str (S v)] [] (.str (S (fmtT p v))):=by
 refine FnOk.def (ho:=by rw [h]; rfl) (hcd:=by rw [h]; rfl) (N:=["param", "value", "quote"]) (ds0:=[.str (S p),.str (S v),.int 1]) ?_ (by decide) (by rfl) ?_ (.inl rfl)
 ·intro s own vs ext r
  cases r with
  | @cons v1 _ _ _ r1 r => cases r with
   | @cons v2 _ _ _ r2 r =>
    cases r
    refine ⟨[("param",v1),("value",v2),("quote",.int 1 385)],kp_binds (K:=c.K) (c.X.keeps ext) (fun St => by rw [h]; rfl),rfl,.cons r1 (.cons r2 (.cons (.int 1 _) .nil))⟩
 ·intro L
  have hl:(S v).length ≤ lim:=by rw [S_len]; unfold lim; omega
  have e1:cmpD .IsNot (.str (S v)) .none = some true:=rfl
  have e2:cmpD .Gt (.int ((S v).length:Int)) (.int 0) = some (decide (v ≠ [])):=by
   show some (decide (((S v).length:Int) > 0)) = _
   rw [S_len]
   cases v with
   | nil => rfl
   | cons a r =>
    rw [decide_eq_true (show (((a :: r).length:Nat):Int) > 0 by simp only [List.length_cons]; omega)] at ⊢
    rfl
  refine Ex.cons_ret (Ex1.ite (t:=true && (decide (v ≠ []) && true)) (TV.boolop (AV.and_cons (TV.cmp (EV.name rfl) EV.none e1) fun _ => AV.and_cons (TV.cmp (EV.lenS h (EV.name rfl) hl) EV.int e2) fun _ => AV.and_nil)) (fun hz => ?_) (fun hz => ?_))
  ·have hne:v ≠ []:=by simpa using hz
   have e3:fmtT p v = p ++ [61,34] ++ esc v ++ [34]:=by unfold fmtT; rw [if_neg hne]
   rw [e3]
   refine Ex.cons_ret (Ex1.ite (t:=true || false) (TV.boolop (AV.or_cons (TV.value (EV.name rfl) rfl) fun z => nomatch z)) (fun _ => ?_) (fun z => nomatch z))
   have r1:Txt.replace (S v) "\\" "\\\\" = S (repL 92 [92,92] v):=replace_S v 92 [92,92]
   have r2:Txt.replace (S (repL 92 [92,92] v)) "\"" "\\\"" = S (repL 34 [92,34] (repL 92 [92,92] v)):=replace_S _ 34 [92,34]
   have hr:=rep2_len v
   have he:=esc_len v
   have hl2:(S (repL 92 [92,92] v)).length ≤ lim:=by rw [S_len]; unfold lim; omega
   refine Ex.cons (Ex1.assign (EV.cast (EV.replace (EV.cast (EV.replace (EV.name rfl) hl (by decide) (by decide)) (congrArg D.str r1)) hl2 (by decide) (by decide)) ((congrArg D.str r2).trans (by rw [esc_rep]))) (.inl rfl)) ?_
   refine Ex.cons_ret (Ex1.ret ?_)
   have q0:∀ l:List Nat,Str.empty ++ S l = S l:=fun l => by rw [show Str.empty = S [] from rfl,S_app]; rfl
   refine EV.fstr (JV.cons (EV.fval (EV.name rfl) (by rw [S_len]; unfold lim; omega)) (by rw [q0,S_len]; unfold lim; omega) ?_)
   rw [q0]
   refine JV.cons (y:=S [61,34]) EV.str (by rw [S_app,S_len]; simp only [List.length_append,List.length_cons,List.length_nil]; unfold lim; omega) ?_
   rw [S_app]
   refine JV.cons (y:=S (esc v)) (EV.fval (EV.name rfl) (by rw [S_len]; unfold lim; omega)) (by rw [S_app,S_len]; simp only [List.length_append,List.length_cons,List.length_nil]; unfold lim; omega) ?_
   rw [S_app]
   refine JV.cons (y:=S [34]) EV.str (by rw [S_app,S_len]; simp only [List.length_append,List.length_cons,List.length_nil]; unfold lim; omega) ?_
   rw [S_app]
   exact JV.nil (by rw [S_len]; simp only [List.length_append,List.length_cons,List.length_nil]; unfold lim; omega)
  ·have hne:v = []:=by simpa using hz
   have e3:fmtT p v = p:=by unfold fmtT; rw [if_pos hne]
   rw [e3]
   exact Ex.cons_ret (Ex1.ret (EV.name rfl))
end
section
set_option maxHeartbeats 16000000 in
theorem mod_two (x y:Str) (hx:x.length ≤ 100000) (hy:y.length ≤ 100000) (t t1 t2:Tok) (b:Addr):Meets (Builtin.«str.__mod__» ⟨[.str ⟨#[37,115,58,32,37,115]⟩ t,.ref b],[]⟩) (fun _ R s => IsTup s.heap b #[.str x t1,.str y t2]∧∀ t' k,R (.ok (.ret (.str (x ++ ⟨#[58,32]⟩ ++ y) t'))) { s with toks:=k }):=by
 apply KPt.meets_tup
 intro _ _ _ _ _ _ kptH _
 left;rcases kptH with ⟨kptO,kptG,kptC,kptN,kptD⟩;right
 rw [KPt.entry_is_r]
 unfold Builtin.Str.percentFormat
 refine wpAny_bind (wpAny_isInstance (T := "tuple") ⟨kptO,kptG,kptC⟩ KPt.sub_tt ?_)
 refine wpAny_bind (KPt.asStr_ref kptG kptD ?_)
 refine wpAny_bind (KPt.fills_ref ⟨kptO,kptG,kptC⟩ ?_)
 intro _
 refine wpAny_bind (wpAny_seqItems kptG kptD ?_)
 refine wpAny_bind (wpAny_pure ?_)
 refine wpAny_bind ?_
 rw [KPc.range_list]
 refine KPc.start ?_
 intro _ _
 refine KPc.turn ?_; kpc_check
 refine wpAny_bind ?_; refine wpAny_holding ?_; kpt_conv; refine wpAny_pure ?_; refine wpAny_pure ?_; kpt_piece
 refine KPc.turn ?_; kpc_check
 refine wpAny_pure ?_; kpt_piece
 refine KPc.turn ?_; kpc_check
 refine wpAny_bind ?_; refine wpAny_holding ?_; kpt_conv; refine wpAny_pure ?_; refine wpAny_pure ?_; kpt_piece
 refine KPc.turn ?_; kpc_check
 kpc_close
section
variable {c:Cx} {n:Nat} {env:Env} {lo:List (Str × D)} {o e:PySem.Expr} {apos pos p:Pos}
set_option tactic.hygienic true in
theorem EV.percent2 {l:PySem.Expr} {a b:List Nat} (w:EV c n env lo l (.str "%s: %s")) (y:EV c n env lo e (.tup [.str (S a),.str (S b)])) (ha:a.length ≤ 100000) (hb:b.length ≤ 100000):EV c n env lo (.BinOp l .Mod e pos) (.str (S (a ++ [58,32] ++ b))):=fun A E s own Q Sx h =>
 wpAny_BinOp (w A E s own _ Sx fun v s₁ k rv => y A E s₁ own _ (Sx.mono k) fun u s₂ k' ru => by
  obtain ⟨t,rfl⟩:=rv.str_inv
  left;rcases ru.tup_inv with ⟨_,_,_,_,z0_,ea,ca,da,xa⟩;right;subst z0_
  cases xa with
  | cons x1 xa => cases xa with
   | cons x2 xa =>
    cases xa
    cases x1 with
    | str _ t1 => cases x2 with
     | str _ t2 =>
      rename_i q oq nq
      have ht:IsTup s₂.heap q #[.str (S a) t1,.str (S b) t2]:=⟨_,ea,ca,_,da⟩
      have hX:("%s: %s":Str) = ⟨#[37,115,58,32,37,115]⟩:=by decide +kernel
      rw [hX]
      have hT:s₂.TypeIs (.ref q) "tuple" := ⟨_,ea,ca⟩
      refine with2 (P:=fun v s' => Rd c.w.params own s'.heap v (.str (S (a ++ [58,32] ++ b)))) ?_ fun v s' q r' => h v s' ((k.trans k').trans q) r'
      refine KPt.bin_left (T := "str") (U := "tuple") (op:=.Mod) (by decide) (typeIs_str s₂ _ t) hT F.fills_str_mod KPt.fills_tuple F.slot_str_mod
       (call_meets F.slot_str_mod (typeIs_str s₂ _ t) F.entry_str_mod (F.args_str_mod_2 _ _) (mod_two (S a) (S b) (by rw [S_len]; exact ha) (by rw [S_len]; exact hb) t t1 t2 q) ⟨ht,fun t' k => ⟨(fun e => nomatch e),⟨keeps_toks _ _,?_⟩⟩⟩)
      have e:S a ++ ⟨#[58,32]⟩ ++ S b = S (a ++ [58,32] ++ b):=by
       (rewrite [show (⟨#[58,32]⟩:Str) = S [58,32] from rfl] at ⊢; rw [S_app,S_app])
      rw [e]
      exact .str _ _)
end
theorem pickD_all (ds:List D):pickD ds none none none = ds:=by
 unfold pickD
 rw [sliceBounds_plain]
 show (sliceRange ((0:Nat):Int) ((ds.length:Nat):Int) 1).filterMap _ = _
 rw [sliceRange_one,Nat.sub_zero]
 have e2:(List.range ds.length).map (0 + ·) = List.range ds.length:=by simp
 rw [e2,range_take ds _ (Nat.le_refl _),List.take_length]
noncomputable def pairD (p:List Nat × List Nat):D:=.tup [.str (S p.1),.str (S p.2)]
noncomputable def hdrsD (hs:List (List Nat × List Nat)):D:=.inst 182 [("_headers",.lst (hs.map pairD))]
theorem a_headers {c:Cx} (h:Is c):AttrOk c 182 "_headers" := ⟨by rw [h]; rfl,by rw [h]; rfl,none,by rw [h]; rfl,rfl⟩
theorem f_items {c:Cx} (h:Is c) {n:Nat} (hs:List (List Nat × List Nat)) (hl:hs.length ≤ 1000):FnOk c (n + 1) (.ref 146) [hdrsD hs] [] (.lst (hs.map pairD)):=by
 refine FnOk.def (ho:=by rw [h]; rfl) (hcd:=by rw [h]; rfl) (N:=["self"]) (ds0:=[hdrsD hs]) (b1 fun _ => rfl) (by decide) (by rfl) ?_ (.inl rfl)
 intro L
 refine Ex.cons_ret (Ex1.ret (EV.slice (EV.attr (EV.name rfl) (a_headers h) rfl) PV.none PV.none PV.none ?_))
 unfold sliceD
 dsimp only
 (rewrite [if_pos ⟨by rw [List.length_map]; unfold lim; omega,by decide⟩] at ⊢; rw [pickD_all])
noncomputable def headT (p:List Nat × List Nat):List Nat:=p.1 ++ [58,32] ++ p.2
noncomputable def fsH:D→Option D
 | .tup [.str a,.str b] => some (.str (S (a.cps.toList ++ [58,32] ++ b.cps.toList)))
 | _ => none
theorem fsH_map (hs:List (List Nat × List Nat)):(hs.map pairD).filterMap fsH = strsD (hs.map headT):=by
 induction hs with
 | nil => rfl
 | cons a r ih =>
  rw [List.map_cons,List.filterMap_cons]
  have:fsH (pairD a) = some (.str (S (headT a))):=rfl
  rw [this]
  show _ :: _ = _
  rw [ih]; rfl
theorem f_hstr {c:Cx} (h:Is c) {n:Nat} (hs:List (List Nat × List Nat)) (hl:hs.length ≤ 500) (hw:∀ p ∈ hs,p.1.length ≤ 100∧p.2.length ≤ 8000):FnOk c (n + 1) (.ref 158) [hdrsD hs] [] (.str (S (joinL [13,10] (hs.map headT ++ [[],[]])))):=by
 refine FnOk.def (ho:=by rw [h]; rfl) (hcd:=by rw [h]; rfl) (N:=["self"]) (ds0:=[hdrsD hs]) (b1 fun _ => rfl) (by decide) (by rfl) ?_ (.inl rfl)
 intro L
 have hadd:binD .Add (.lst (strsD (hs.map headT))) (.lst [.str "",.str ""]) = some (.lst (strsD (hs.map headT ++ [[],[]]))):=by
  rw [binD_lst (by simp [strsD,lim]; omega)] at ⊢
  unfold strsD
  rw [List.map_append]; rfl
 refine Ex.cons_ret (Ex1.ret (EV.join (sep:=[13,10]) (ps:=hs.map headT ++ [[],[]]) rfl EV.str (EV.bin (EV.cast (EV.comp (cap:=[]) none fsH (by rfl) trivial (IT.list (EV.attr (EV.name rfl) (a_headers h) rfl)) ?_ (by rw [List.length_map]; unfold lim; omega)) (congrArg D.lst (fsH_map hs))) (EV.list (EVs.cons EV.str (EVs.cons EV.str .nil))) hadd) (by decide) (by simp; omega) ?_))
 ·intro i d hd C ex hx
  rw [List.getElem?_map] at hd
  left;rcases Option.map_eq_some_iff.mp hd with ⟨p,hp,z0_⟩;right;subst z0_
  obtain ⟨q1,q2⟩:=hw p (List.mem_of_getElem? hp)
  exact CB.one (trivial) (Tg.name (.inl rfl) (hex:=hx _ rfl)) (rfl) (EV.percent2 (a:=p.1) (b:=p.2) EV.str (EV.name rfl) (by omega) (by omega))
 ·intro p hp
  rcases List.mem_append.mp hp with z | z
  ·left;rcases List.mem_map.mp z with ⟨q,hq,z0_⟩;right;subst z0_
   obtain ⟨q1,q2⟩:=hw q hq
   simp [headT]; omega
  ·simp at z
   subst z; simp
noncomputable def lowL (l:List Nat):List Nat:=l.map fun k => if 65 ≤ k∧k ≤ 90 then k + 32 else k
noncomputable def askL:List (List Nat):=[[118,105,97],[97,71,69],[84,69]]
theorem low_names:∀ l ∈ namesL ++ askL,Txt.lower (S l) = S (lowL l)∧Bad badN (S (lowL l)) = false:=by decide +kernel
noncomputable def pickH (q:List Nat) (hs:List (List Nat × List Nat)):List (List Nat):=(hs.filter fun p => lowL p.1 == lowL q).map (·.2)
noncomputable def fsG (q:List Nat):D→Option D
 | .tup [.str a,.str b] => if lowL a.cps.toList == lowL q then some (.str b) else none
 | _ => none
theorem fsG_map (q:List Nat) (hs:List (List Nat × List Nat)):(hs.map pairD).filterMap (fsG q) = strsD (pickH q hs):=by
 induction hs with
 | nil => rfl
 | cons a r ih =>
  have e:fsG q (pairD a) = if lowL a.1 == lowL q then some (.str (S a.2)) else none:=rfl
  rw [List.map_cons,List.filterMap_cons,e]
  unfold pickH at ih ⊢
  rw [List.filter_cons]
  cases z:(lowL a.1 == lowL q) with
  | true =>
   simp only [if_true]
   rw [ih]; rfl
  | false => exact ih
theorem m_convert {c:Cx} (h:Is c):MethOk c 182 "_convert_string_type" 83:=⟨by rw [h]; rfl,by rw [h]; rfl,by rw [h]; rfl⟩
theorem EV.lower {c:Cx} {n:Nat} {env:Env} {lo:List (Str × D)} {o:PySem.Expr} {apos pos:Pos} {x:Str} {pl:Sem Bool} (a:EV c n env lo o (.str x)) (h:x.length ≤ lim)
  (he:autoParam (eval (.Call (.Attribute o "lower" apos) [] [] pos) env = (do
   let ov ← eval o env
   standAt apos.atName
   let (f,first) ← holding [ov] (getMethod ov "lower" pl)
   callWith pos f first (backTo pos (starEach [] env)) (backToKw pos (keywordEach [] env)))) byRfl) (hp:autoParam (Plain [] env pos) byPl3) :
  EV c n env lo (.Call (.Attribute o "lower" apos) [] [] pos) (.str (Txt.lower x)):=EV.smeth (m := "lower") a EVs.nil (meth_lower h) he hp
theorem f_getall {c:Cx} (h:Is c) {n:Nat} (hs:List (List Nat × List Nat)) (q:List Nat) (hq:q ∈ askL) (hl:hs.length ≤ 500) (hw:∀ p ∈ hs,p.1 ∈ namesL):FnOk c (n + 2) (.ref 121) [hdrsD hs,.str (S q)] [] (.lst (strsD (pickH q hs))):=by
 refine FnOk.def (ho:=by rw [h]; rfl) (hcd:=by rw [h]; rfl) (N:=["self", "name"]) (ds0:=[hdrsD hs,.str (S q)]) (b2 fun _ _ => rfl) (by decide) (by rfl) ?_ (.inl rfl)
 intro L
 obtain ⟨q1,q2⟩:=low_names q (List.mem_append_right _ hq)
 have hq3:q.length ≤ 3:=by
  have:∀ l ∈ askL,l.length ≤ 3:=by decide
  exact this _ hq
 have ll:∀ l:List Nat,(lowL l).length = l.length:=fun l => by simp [lowL]
 refine Ex.cons (Ex1.assign (EV.methKw (kb:=true) (EV.name rfl) (EV.cast (EV.lower (EV.name rfl) (by rw [S_len]; unfold lim; omega)) (congrArg D.str q1)) (m_convert h) rfl (KeepF.of (by rw [h]; rfl)) (f_convert h true _ (by rw [S_len,ll]; unfold lim; omega) q2)) (.inr ⟨rfl,rfl⟩)) ?_
 refine Ex.cons_ret (Ex1.ret (EV.cast (EV.comp (cap:=[("name",.str (S (lowL q)))]) none (fsG q) (by rfl) (.of rfl) (IT.list (EV.attr (EV.name rfl) (a_headers h) rfl)) ?_ (by rw [List.length_map]; unfold lim; omega)) (congrArg D.lst (fsG_map q hs))))
 intro i d hd C ex hx
 rw [List.getElem?_map] at hd
 left;rcases Option.map_eq_some_iff.mp hd with ⟨p,hp,z0_⟩;right;subst z0_
 have hn:=hw p (List.mem_of_getElem? hp)
 obtain ⟨n1,n2⟩:=low_names p.1 (List.mem_append_left _ hn)
 have hn3:p.1.length ≤ 3:=by
  have:∀ l ∈ namesL,l.length ≤ 3:=by decide
  exact this _ hn
 have e1:cmpD .Eq (.str (S (lowL p.1))) (.str (S (lowL q))) = some (lowL p.1 == lowL q):=by
  rw [cmpEqS]
  congr 1
  by_cases z:lowL p.1 = lowL q <;> simp [z]
 refine CB.two ((.of rfl)) (Tg.name (.inl rfl) (hex:=hx _ rfl)) (TV.cmp (EV.cast (EV.lower (EV.itemT (EV.name rfl) EV.int (by decide) (d:=.str (S p.1)) rfl (by show 2 ≤ 100000; decide)) (by rw [S_len]; unfold lim; omega)) (congrArg D.str n1)) (EV.name rfl) e1) (fun z => ⟨.str (S p.2),?_,EV.itemT (EV.name rfl) EV.int (by decide) rfl (by show 2 ≤ 100000; decide)⟩) (fun z => ?_)
 ·show (if lowL p.1 == lowL q then some (D.str (S p.2)) else none) = _
  rw [z]; rfl
 ·show (if lowL p.1 == lowL q then some (D.str (S p.2)) else none) = _
  rw [z]; rfl
end
section
section
variable {c:Cx} {n:Nat} {A:Around} {env:Env} {b:Shared} {co own:List Addr} {ad:Str→List Addr} {lo lo':List (Str × D)} {ow ow':List (Str × OwnD)} {ex:List (Str × Value)} {s s':Shared} {o:Out} {tg:PySem.Expr}
theorem Sto.growL (S:Sto c n A env b co own ad lo ow ex s) (k:K2 s s') (as:List Addr) (ha:∀ a ∈ as,s.heap.get? a = none) (hoa:∀ a ∈ as,∃ oa,s'.heap.get? a = some oa∧¬ (oa.cls = .type "tuple"∧∃ vs n,oa.data = .seq vs n)):Sto c n A env b co (as ++ own) ad lo ow ex s':=by
 have fr:∀ q ∈ as,s.heap.get? q = none:=ha
 have S':=S.mono k
 have inr:∀ {q},q ∈ own→q ∈ as ++ own:=fun h => List.mem_append_right _ h
 exact {
  sit:=⟨S'.sit.ek,S'.sit.ao,S'.sit.ext,fun q hq => by
    rcases List.mem_append.mp hq with hq | hq
    ·exact hoa q hq
    ·exact S'.sit.ok q hq,fun q hq => by
    rcases List.mem_append.mp hq with hq | hq
    ·exact none_of_ext S.sit.ext (ha q hq)
    ·exact S.sit.base q hq,S'.sit.tok,fun x d e => by
    left;rcases S.sit.names x d e with ⟨v,n1,r⟩;right
    exact ⟨v,n1.ext k.ext,(Rd.fresh (more:=as) fr r).ext k.ext⟩⟩
  coIn:=fun q hq => inr (S.coIn q hq)
  new:=fun q hq => by
   rcases List.mem_append.mp hq with hq | hq
   ·exact .inr (none_of_ext (Keeps.ext S.keep) (ha q hq))
   ·exact S.new q hq
  keep:=S'.keep
  loc:=⟨S'.loc.1,inr S'.loc.2.1,S'.loc.2.2⟩
  cell:=fun x a ke e e' => by left;rcases S'.cell x a ke e e' with ⟨h1,h2,h3⟩;right; exact ⟨h1,inr h2,h3⟩
  cells:=S.cells
  exact:=S'.exact
  owns:=fun x w e => by
   left;rcases S.owns x w e with ⟨p,n1,o1,l1⟩;right
   refine ⟨p,n1.ext k.ext,?_,fun q hq => ⟨inr (l1 q hq).1,(l1 q hq).2⟩⟩
   have o2:OwnIs c.w.params (as ++ own) s.heap p w (ad x):=by
    cases w with
    | lst ds => left;rcases o1 with ⟨e1,vs,m,e2,r⟩;right; exact ⟨e1,vs,m,e2,RdAll.fresh (more:=as) fr r⟩
    | hdr C ds => left;rcases o1 with ⟨dx,l,vs,m,j,t,e1,d,e2,e3,e4,r⟩;right; exact ⟨dx,l,vs,m,j,t,e1,d,e2,e3,e4,RdAll.fresh (more:=as) fr r⟩
    | ins C kvs => left;rcases o1 with ⟨dx,es,m,e1,d,e2,e3,r⟩;right; exact ⟨dx,es,m,e1,d,e2,e3,RdKv.fresh (more:=as) fr r⟩
   cases w with
   | lst ds => left;rcases o2 with ⟨e1,vs,m,e2,r⟩;right; exact ⟨e1,vs,m,k.ext _ _ e2,r.ext k.ext⟩
   | hdr C ds => left;rcases o2 with ⟨dx,l,vs,m,j,t,e1,d,e2,e3,e4,r⟩;right; exact ⟨dx,l,vs,m,j,t,e1,d,k.ext _ _ e2,k.ext _ _ e3,k.ext _ _ e4,r.ext k.ext⟩
   | ins C kvs => left;rcases o2 with ⟨dx,es,m,e1,d,e2,e3,r⟩;right; exact ⟨dx,es,m,e1,d,k.ext _ _ e2,k.ext _ _ e3,r.ext k.ext⟩
  apart:=S.apart }
theorem Ex1.freshW {x:Str} {p pos:Pos} {e:PySem.Expr} {ds:List D} (y:EVF c n env lo e ds) (hk:canStore env x) (hs':Sub lo' lo) (hlo:autoParam (lo'.lookup x = none) byRfl) (how:autoParam (ow.lookup x = none) byRfl) (hex:autoParam (ex.lookup x = none) byRfl) (hs:autoParam (swapsWith e (some (.Name x p)) pos.line env = pure false) byRfl) :
  Ex1 c n env ex (.Assign [.Name x p] e pos) lo ow (.next lo' ((x,.lst ds) :: ow)):=fun A E b co s ⟨own,ad,S⟩ =>
 wpAny_Assign_Name (y A E s own _ S.sit fun a vs m s₁ k h1 h2 r => by
  have S':=(S.weak hs'.at (fun _ _ e => e)).grow k h1 h2 (fun z => not_tuple z.1)
  refine S'.store hk how hex fun s' _ h' => ?_
  refine ⟨rfl,a :: own,_,h' a (.lst ds) [a] rfl ⟨rfl,vs,m,h2,r⟩ ?_ ?_ hlo⟩
  ·intro q hq
   simp at hq; subst hq
   refine ⟨.head _,fun z => S.held h1 (S.coIn _ z),fun z => ?_⟩
   subst z
   left;rcases S.loc.1 with ⟨mm,o,_,_,ho,_⟩;right
   rw [h1] at ho; cases ho
  ·intro z w' hz q hq hm
   simp at hq; subst hq
   left;rcases S.owns z w' hz with ⟨_,_,_,l1⟩;right
   exact S.held h1 (l1 _ hm).1) hs
theorem Sto.dropX {x:Str} {v:Value} (S:Sto c n A env b co own ad lo ow ((x,v) :: ex) s) (hk:env.kindOf x = some .local) (hx:ex.lookup x = none):Sto c n A env b co own ad lo ow ex s:={ S with
 cell:=fun y a ke k l => by
  refine S.cell y a ?_ k l
  rw [List.lookup_cons]
  have:(y == x) = false:=by
   rw [Bool.eq_false_iff]; intro z
   have:y = x:=by simpa using z
   subst this; rw [hk] at k; cases k
  rw [this]; exact ke
 cells:=fun y z a ke k => by
  refine S.cells y z a ?_ k
  rw [List.lookup_cons]
  have:(y == x) = false:=by
   rw [Bool.eq_false_iff]; intro z
   have:y = x:=by simpa using z
   subst this; rw [hk] at k; cases k
  rw [this]; exact ke
 exact:=fun y u e => by
  refine S.exact y u ?_
  rw [List.lookup_cons]
  have:(y == x) = false:=by
   rw [Bool.eq_false_iff]; intro z
   have:y = x:=by simpa using z
   subst this; rw [hx] at e; cases e
  rw [this]; exact e }
theorem for_empty {E:Value→Shared→Prop} {Q:Flow→Shared→Prop} {y:Str} {p pos:Pos} {body:List Stmt} {l:Addr} {m:Nat} (S:Sto c n A env b co own ad lo ow ex s) (hy:ex.lookup y = some (.ref l)) (hl:s.heap.get? l = some (listOf (List.toArray []) m))
  (h:∀ s',Sto c n A env b co own ad lo ow ex s'→Q .next s') (hd:autoParam ((y == ("__debug__":Str)) = false) byDec) (hcd:autoParam ((y == ("__classdict__":Str)) = false) byDec) (hs:autoParam (∀ x,foldedSetIterable (.Name y p) env x = pure x) byIR) :
  wpAny (model c.prog c.w) A (exec (.For tg (.Name y p) body [] pos) env) Q E s:=by
 have hl':s.heap.IsList l (List.toArray []):=⟨_,hl,rfl,_,rfl⟩
 refine wpAny_For (wpAny_Name (nameIs_load S.sit.ek (S.exact y _ hy) hcd (wpAny_pyIter_list hl' ?_)) hd) hs
 have hne:=ne_of_get hl
 have X:=Iter.list (c:=c) (A:=A) (tg:=tg) (vals:=[]) (ds:=[]) (I:=s.heap.objs.size) S.sit.ao.handled hne rfl
 have kp:K2 s { s with heap:=s.heap.push { cls:=.type "list_iterator",data:=.fields #[.ref l,.int 0 0] } }:=(K2.refl s).push _
 have S₁:=S.mono kp
 have hIo:s.heap.objs.size ∉ own:=S.sit.size
 have hwb:∀ a ∈ [s.heap.objs.size],a ∉ own∧c.H.get? a = none∧b.heap.get? a = none:=fun a ha => by
  simp at ha; subst ha
  exact ⟨hIo,none_of_ext S.sit.ext (none_size _),none_of_ext (Keeps.ext S.keep) (none_size _)⟩
 refine codeAny_forLoop_any (fun _ s' => Sto c n A env b co own ad lo ow ex s'∧(s'.heap.IsListIter s.heap.objs.size l 0∧s'.heap.IsList l (List.toArray []))) (fun _ s' hI => ?_) 0 ⟨S₁,⟨_,Heap.get?_push_size _ rfl,rfl,rfl⟩,hl'.at fun o q => Heap.get?_push_of_some _ q⟩
 obtain ⟨S₂,st⟩:=hI
 refine X.done s' _ _ st fun h' tk htk kp' => ?_
 exact wpAny_execs_nil (h _ (S₂.wr (X.rec_ 0 _ st) kp' hwb htk))
theorem Sto.adopt (S:Sto c n A env b co own ad lo ow ex s) {x:Str} {a:Addr} {w:OwnD} {as:List Addr} (hx:ow.lookup x = none) (nm:NameIs env s.heap x (.ref a)) (o:OwnIs c.w.params own s.heap a w as) (hin:∀ q ∈ as,q ∈ own∧q ∉ co∧q ≠ env.locals) (hap:∀ y w',ow.lookup y = some w'→∀ p ∈ as,p ∉ ad y) :
  Sto c n A env b co own (fun y => if y = x then as else ad y) lo ((x,w) :: ow) ex s:={ S with
 owns:=fun y w' hl => by
  rw [List.lookup_cons] at hl
  by_cases z:(y == x) = true
  ·rw [z] at hl; cases hl
   have:y = x:=by simpa using z
   subst this
   simp only [if_true]
   exact ⟨a,nm,o,hin⟩
  ·have z':(y == x) = false:=by simpa using z
   rw [z'] at hl
   have hn:y ≠ x:=by simpa using z
   simp only [if_neg hn]
   exact S.owns y w' hl
 apart:=fun y z w' w'' p hl hl' hn hp hp' => by
  rw [List.lookup_cons] at hl hl'
  by_cases z1:y = x
  ·subst z1
   have z2:¬ z = y:=fun q => hn q.symm
   have z3:(z == y) = false:=by simpa using z2
   rw [z3] at hl'
   simp only [if_true] at hp
   simp only [if_neg z2] at hp'
   exact hap z w'' hl' p hp hp'
  ·have z3:(y == x) = false:=by simpa using z1
   rw [z3] at hl
   simp only [if_neg z1] at hp
   by_cases z2:z = x
   ·subst z2
    simp only [if_true] at hp'
    exact hap y w' hl p hp' hp
   ·have z4:(z == x) = false:=by simpa using z2
    rw [z4] at hl'
    simp only [if_neg z2] at hp'
    exact S.apart y z w' w'' p hl hl' hn hp hp' }
theorem Sto.addX (S:Sto c n A env b co own ad lo ow ex s) {x:Str} {v:Value} (nm:NameIs env s.heap x v) (hx:ex.lookup x = none):Sto c n A env b co own ad lo ow ((x,v) :: ex) s:=by
 have lk:∀ y,((x,v) :: ex).lookup y = none→ex.lookup y = none:=fun y e => by
  rw [List.lookup_cons] at e
  by_cases z:(y == x) = true
  ·rw [z] at e; cases e
  ·have z':(y == x) = false:=by simpa using z
   rwa [z'] at e
 exact { S with
  cell:=fun y a ke => S.cell y a (lk y ke)
  cells:=fun y z a ke => S.cells y z a (lk y ke)
  exact:=fun y u e => by
   rw [List.lookup_cons] at e
   by_cases z:(y == x) = true
   ·rw [z] at e; cases e
    have:y = x:=by simpa using z
    subst this; exact nm
   ·have z':(y == x) = false:=by simpa using z
    rw [z'] at e
    exact S.exact y u e }
theorem nameIs_turn {q:Addr} {h h':Heap} {y:Str} {u:Value} (sb:Heap.SameBut q h h') (hL:q ≠ env.locals) (hcell:∀ o,h.get? q = some o→∀ v,o.data ≠ .cell v) (e:NameIs env h y u):NameIs env h' y u:=by
 rcases e with ⟨e1,m',e2,e3⟩ | ⟨e1,q',e2,e3⟩
 ·exact .inl ⟨e1,m',e2.sameBut sb (Ne.symm hL),e3⟩
 ·refine .inr ⟨e1,q',e2,e3.sameBut sb fun z => ?_⟩
  subst z
  left;rcases e3 with ⟨o,e4,e5⟩;right
  exact hcell o e4 _ e5
theorem Ex.hdrTail {x y:Str} {p1 p2 p3 p4 p5 p6 p7 p8:Pos} {kb:Nat} {body:List Stmt} {C:Addr} (hxy:x ≠ y) (hk:env.kindOf y = some .local) (hex:ex.lookup y = none) (k:SetOk c C "_headers")
  (hd1:autoParam ((x == ("__debug__":Str)) = false) byDec) (hc1:autoParam ((x == ("__classdict__":Str)) = false) byDec) (hd2:autoParam ((y == ("__debug__":Str)) = false) byDec) (hc2:autoParam ((y == ("__classdict__":Str)) = false) byDec)
  (hs:autoParam (swapsWith (.Name y p3) (some (.Attribute (.Name x p1) "_headers" p2)) p4.line env = pure false) byRfl) (hfs:autoParam (∀ v,foldedSetIterable (.Name y p6) env v = pure v) byIR) :
  Ex c n env ex [.Assign [.Attribute (.Name x p1) "_headers" p2] (.Name y p3) p4,.If (.Constant (.bool true) kb p5) [.For tg (.Name y p6) body [] p7] [] p8] lo [(y,.lst []),(x,.ins C [])] (.next lo [(x,.hdr C [])]):=fun A E b co s ⟨own,ad,S⟩ => by
 have hyx:(x == y) = false:=by simpa using hxy
 have lx:List.lookup x [(y,OwnD.lst []),(x,OwnD.ins C [])] = some (.ins C []):=by rw [List.lookup_cons,hyx,List.lookup_cons]; simp
 have ly:List.lookup y [(y,OwnD.lst []),(x,OwnD.ins C [])] = some (.lst []):=by rw [List.lookup_cons]; simp
 left;rcases S.owns x _ lx with ⟨a,n1,o1,l1⟩;right
 left;rcases S.owns y _ ly with ⟨l,n2,o2,l2⟩;right
 left;rcases o1 with ⟨dx,es,m,e1,hne,e2,e3,r⟩;right
 left;rcases own_list o2 with ⟨e4,vs,m2,e5,r2⟩;right
 cases r
 cases r2
 refine wpAny_execs_cons (plainObj_wpAny_Assign_Attribute (wpAny_Name (nameIs_load S.sit.ek n2 hc2 ?_) hd2) hs)
 refine wpAny_Name (nameIs_load S.sit.ek n1 hc1 ?_) hd1
 refine setattr_dict S.sit.K hne e2 e3 k.at_ k.plain k.taker k.dict rfl (by decide) fun h' sb ho => ?_
 have hdin:dx ∈ ad x:=by rw [e1]; simp
 have hain:a ∈ ad x:=by rw [e1]; simp
 have hlin:l ∈ ad y:=by rw [e4]; simp
 have hdl:dx ≠ l:=fun z => S.apart x y _ _ dx lx ly hxy hdin (z ▸ hlin)
 have hal:a ≠ l:=fun z => S.apart x y _ _ a lx ly hxy hain (z ▸ hlin)
 have hcd:∀ o,s.heap.get? dx = some o→∀ v,o.data ≠ .cell v:=fun o ho v z => by
  rw [e3] at ho; cases ho; cases z
 have S0:=S.weak (lo':=lo) (ow':=[]) (fun _ _ e => e) (fun _ _ e => by simp at e)
 have hbn:b.heap.get? dx = none:=(S.new dx (l1 dx hdin).1).elim (fun z => absurd z (l1 dx hdin).2.1) id
 have S1:=S0.touch (q:=dx) (l1 dx hdin).1 (l1 dx hdin).2.2 hcd hbn (fun y w e => by simp at e) (tk:=s.toks + 2) (by omega) sb ho (fun vs z => by cases z) (fun z => by left;rcases z with ⟨_,vs,m,z⟩;right; cases z)
 have S2:=S1.adopt (x:=x) (a:=a) (w:=.hdr C []) (as:=[a,dx,l]) rfl (nameIs_turn sb (l1 dx hdin).2.2 hcd n1)
  ⟨dx,l,[],m2,m + 1,s.toks + 1,rfl,hne,(sb.2 a hne).trans e2,ho,(sb.2 l (Ne.symm hdl)).trans e5,.nil⟩ (fun q hq => by
   simp at hq
   rcases hq with rfl | rfl | rfl
   ·exact l1 _ hain
   ·exact l1 _ hdin
   ·exact l2 _ hlin) (fun y w e => by simp at e)
 have S3:=S2.addX (x:=y) (v:=.ref l) (nameIs_turn sb (l1 dx hdin).2.2 hcd n2) hex
 refine wpAny_execs_cons (wpAny_If ?_)
 refine wpAny_isTrue_value (wpAny_Constant_bool (wpAny_truthy_bool ?_))
 refine wpAny_execs_cons (for_empty S3 (by rw [List.lookup_cons]; simp) ((sb.2 l (Ne.symm hdl)).trans e5) (fun s' S4 => ?_) hd2 hc2 hfs)
 exact wpAny_execs_nil (wpAny_execs_nil ⟨rfl,_,_,S4.dropX hk hex⟩)
end
end
section
section
variable {c:Cx} {n:Nat} {A:Around} {env:Env} {b:Shared} {co own:List Addr} {ad:Str→List Addr} {lo lo':List (Str × D)} {ow ow':List (Str × OwnD)} {ex:List (Str × Value)} {s s':Shared} {o:Out} {tg:PySem.Expr}
noncomputable def HInit (c:Cx) (n:Nat) (C fI:Addr):Prop:=
 ∀ (A:Around) (s:Shared) (own:List Addr) (x dx:Addr) (R:Result→Shared→Prop),AOk c n A s.heap→Ext c.H s.heap→OwnOk own s.heap→(∀ a ∈ own,c.H.get? a = none)→1 ≤ s.toks →
  s.heap.get? x = some (instObj C dx)→s.heap.get? dx = some (dictOf [] 0)→x ≠ dx→x ∉ own→dx ∉ own→c.H.get? x = none→c.H.get? dx = none →
  (∀ s' as,(∃ h' tk,s' = { s with heap:=h',toks:=tk })→Keep [x,dx] s.heap s'.heap→s.toks ≤ s'.toks→(∀ own2,OwnIs c.w.params own2 s'.heap x (.hdr C []) as)→(∀ q ∈ as,q ∈ [x,dx] ∨ s.heap.get? q = none)→R (.ok (.ret .none)) s') →
  codeAny (model c.prog c.w) A (.call (.ref fI) ⟨[.ref x],[]⟩) R s
theorem Ex1.newHdr {C fI:Addr} {x y:Str} {p pos p2 pos2:Pos} (g:GlobIs c env y (.ref C)) (hk:KeepF c (.ref C)) (hm:makesIn c.K C = true) (hi:findIn c.K (.ref C) "__init__" = some (some (.ref fI))) (hf:isFn c.K (.ref fI) = true)
  (I:HInit c n C fI) (hst:canStore env x) (hlo:autoParam (lo.lookup x = none) byRfl) (how:autoParam (ow.lookup x = none) byRfl) (hex:autoParam (ex.lookup x = none) byRfl) (hp:autoParam (Plain [] env pos) byPl3) (hd:autoParam ((y == ("__debug__":Str)) = false) byDec) (hs:autoParam (swapsWith (.Call (.Name y p) [] [] pos) (some (.Name x p2)) pos2.line env = pure false) byRfl) :
  Ex1 c (n + 1) env ex (.Assign [.Name x p2] (.Call (.Name y p) [] [] pos) pos2) lo ow (.next lo ((x,.hdr C []) :: ow)):=fun A E b co s ⟨own,ad,S⟩ =>
 wpAny_Assign_Name (PyProof.Rows.Call_ (glob_eval g S.sit hd (callWith_ev (ds:=[]) hk .nil hp S.sit fun vs s₁ k r => by
  cases r
  have S1:=S.mono k
  left;rcases s₁ with ⟨hh,g',d',t',os'⟩;right
  refine wpAny_call (make_core (makes_of S1.sit.K hm) (looks_findIn S1.sit.K hi) (fun self => bind_fn S1.sit.K self (beq_iff_eq.mp hf)) (.inl rfl) ?_)
  have e1:Ext hh ((hh.push emptyDict).push (instObj C hh.objs.size)):=Ext.trans (ext_push _ _) (ext_push _ _)
  have hsz:(hh.push emptyDict).objs.size = hh.objs.size + 1:=Heap.size_push ..
  have hxn:hh.get? (hh.objs.size + 1) = Option.none:=by
   cases q:hh.get? (hh.objs.size + 1) with
   | none => rfl
   | some o => exact absurd (Heap.lt_size q) (Nat.not_lt.mpr (Nat.le_succ _))
  have hdn:hh.get? hh.objs.size = Option.none:=none_size _
  have hx:((hh.push emptyDict).push (instObj C hh.objs.size)).get? (hh.objs.size + 1) = some (instObj C hh.objs.size):=by
   rw [hsz.symm]; exact Heap.get?_push_size _ rfl
  have hdx:((hh.push emptyDict).push (instObj C hh.objs.size)).get? hh.objs.size = some (dictOf [] 0):=Heap.get?_push_of_some _ (Heap.get?_push_size _ rfl)
  refine I _ _ own (hh.objs.size + 1) hh.objs.size _ ((S1.sit.ao.ext e1).step (B:=A.under (.builtin "type.__call__" ⟨.ref C :: ([] ++ []),[]⟩)) rfl (Nat.le_of_eq rfl) ?_ ?_) (Ext.trans S1.sit.ext e1) (S1.sit.ok.ext e1) S1.sit.base S1.sit.tok hx hdx (Nat.succ_ne_self _) (fun z => ?_) (fun z => ?_) (none_of_ext S1.sit.ext hxn) (none_of_ext S1.sit.ext hdn) fun s' as hs' kp htk o hin => ?_
  ·show A.units + (Code.builtin "type.__call__" ⟨.ref C :: ([] ++ []),[]⟩).cUnits ≤ A.units + 8
   have e:(Code.builtin "type.__call__" ⟨.ref C :: ([] ++ []),[]⟩).cUnits = 1:=rfl
   omega
  ·rfl
  ·left;rcases S1.sit.ok _ z with ⟨o,ho,_⟩;right
   have ho:hh.get? (hh.objs.size + 1) = some o:=ho
   rw [hxn] at ho; cases ho
  ·left;rcases S1.sit.ok _ z with ⟨o,ho,_⟩;right
   have ho:hh.get? hh.objs.size = some o:=ho
   rw [hdn] at ho; cases ho
  ·left;rcases hs' with ⟨h',tk,z0_⟩;right;subst z0_
   have k2:K2 (⟨hh,g',d',t',os'⟩:Shared) { (⟨hh,g',d',t',os'⟩:Shared) with heap:=h',toks:=tk }:=⟨⟨h',tk,rfl,fun q o e => kp _ _ (fun hm => by
    simp at hm
    rcases hm with rfl | rfl
    ·rw [hxn] at e; cases e
    ·rw [hdn] at e; cases e) (e1 _ _ e)⟩,htk⟩
   have fresh:∀ q ∈ as,hh.get? q = none:=fun q hq => by
    rcases hin q hq with z | z
    ·simp at z
     rcases z with rfl | rfl
     ·exact hxn
     ·exact hdn
    ·exact none_of_ext e1 z
   have o2:=o (as ++ own)
   have objs:∀ q ∈ as,∃ oa,h'.get? q = some oa∧¬ (oa.cls = .type "tuple"∧∃ vs n,oa.data = .seq vs n):=by
    left;rcases o2 with ⟨dx,l,vs,m,j,t,e1,d,e2,e3,e4,r⟩;right
    intro q hq
    rw [e1] at hq
    simp at hq
    rcases hq with rfl | rfl | rfl
    ·exact ⟨_,e2,fun z => by left;rcases z with ⟨_,vs,m,z⟩;right; cases z⟩
    ·exact ⟨_,e3,fun z => by left;rcases z with ⟨_,vs,m,z⟩;right; cases z⟩
    ·exact ⟨_,e4,fun z => not_tuple z.1⟩
   have S2:=S1.growL k2 as fresh objs
   refine ⟨rfl,S2.store hst how hex fun s'' _ h'' => ⟨rfl,as ++ own,_,h'' _ (.hdr C []) as rfl o2 (fun q hq => ⟨List.mem_append_left _ hq,fun z => S1.held (fresh q hq) (S1.coIn _ z),fun z => ?_⟩) (fun z w' hz q hq hm => ?_) hlo⟩⟩
   ·subst z
    left;rcases S1.loc.1 with ⟨mm,o,_,_,ho,_⟩;right
    have ho:hh.get? env.locals = some o:=ho
    rw [fresh _ hq] at ho; cases ho
   ·left;rcases S1.owns z w' hz with ⟨_,_,_,l1⟩;right
    exact S1.held (fresh q hq) (l1 _ hm).1))) hs
variable {name qual:Str} {params:Arguments} {body:List Stmt} {scope:Scope} {dV kV doc pm cdv ct oc:Value} {an od:Option Addr} {osl:Array (Option Value)} {f:Addr}
theorem HInit.def {C:Addr} {N:List Str} {ds0:List D} {lo₁:List (Str × D)} {ow₁:List (Str × OwnD)} (ho:c.K.lookup f = some ⟨oc,od,.func (fnOf name qual params body scope dV kV doc pm an cdv ct),osl⟩) (hcd:codeIn c.K cdv qual = true)
  (hb:∀ (s:Shared) (own:List Addr) (x:Addr),Ext c.H s.heap→∃ B:List (Str × Value),BindsTo s (fnOf name qual params body scope dV kV doc pm an cdv ct) ⟨[.ref x],[]⟩ (("self",.ref x) :: B)∧B.map (·.1) = N∧RdAll c.w.params own s.heap (B.map (·.2)) ds0)
  (hN:(("self":Str) :: N).Nodup) (hk:(("self":Str) :: N).all (fun y => scope.names.lookup y == some .local || scope.names.lookup y == some .cell) = true)
  (hbody:∀ L x,Ex c n (envOfC qual scope L f cdv) [("self",.ref x)] body (N.zip ds0) [("self",.ins C [])] (.next lo₁ ow₁)) (how:ow₁.lookup (Str.ofString "self") = some (.hdr C []))
  (hco:autoParam (scope.isCoroutine = false) byRfl) (hgen:autoParam (scope.isGenerator = false) byRfl) (hkind:autoParam (scope.kind = .function) byRfl):HInit c (n + 1) C f:=fun A s own x dx R ao ext ok base tok hx hdx hne hxo hdo hxb hdb h =>
 init_core (ds:=[]) ho hcd (fun s own x vs e r => by cases r; exact hb s own x e) hN hk hbody how hco hgen hkind ao ext ok base tok .nil hx hdx hne hxo hdo hxb hdb fun A s' own2 ad S hts o1 l1 =>
  h s' (ad (Str.ofString "self")) (let ⟨h',tk,e,_⟩:=S.keep; ⟨h',tk,e⟩) (fun q o nq e => (Keeps.ext S.keep) _ _ (hideAll_get _ e nq)) hts (fun own2 => by
   left;rcases o1 with ⟨dx',l,vs,m,j,t,e1,d,e2,e3,e4,r⟩;right
   cases r
   exact ⟨dx',l,[],m,j,t,e1,d,e2,e3,e4,.nil⟩) fun q hq => by
   rcases S.new q (l1 q hq).1 with z | z
   ·exact absurd z (l1 q hq).2
   ·by_cases hq2:q ∈ [x,dx]
    ·exact .inl hq2
    ·refine .inr ?_
     cases hg:s.heap.get? q with
     | none => rfl
     | some o =>
      rw [hideAll_get _ hg hq2] at z
      cases z
end
theorem g_Headers {c:Cx} (h:Is c) {env:Env} (hk:autoParam (env.kindOf "Headers" = some .globalImplicit) byRfl):GlobIs c env "Headers" (.ref 182):=GlobIs.glob (by rw [h]; rfl) hk
theorem g_list {c:Cx} (h:Is c) {env:Env} (hk:autoParam (env.kindOf "list" = some .globalImplicit) byRfl):GlobIs c env "list" (.type "list"):=GlobIs.built (by rw [h]; rfl) (by rfl) (by decide) hk
theorem s_headers {c:Cx} (h:Is c):SetOk c 182 "_headers" := ⟨by rw [h]; rfl,by rw [h]; rfl,by rw [h]; rfl,by rw [h]; rfl⟩
theorem f_hinit {c:Cx} (h:Is c) {n:Nat}:HInit c (n + 1) 182 76:=by
 refine HInit.def (ho:=by rw [h]; rfl) (hcd:=by rw [h]; rfl) (N:=["headers"]) (ds0:=[.none]) (lo₁:=[]) (ow₁:=[("self",.hdr 182 [])]) ?_ (by decide) (by rfl) (fun L x => ?_) rfl
 ·intro s own x ext
  exact ⟨[("headers",.none)],kp_binds (K:=c.K) (c.X.keeps ext) (fun St => by rw [h]; rfl),rfl,.cons .none .nil⟩
 ·refine Ex.cons (Ex1.freshW (lo':=[]) (ds:=[]) (EVF.ite (a:=[]) (b:=[]) (t:=false) (TV.cmp (EV.name rfl) EV.none rfl) (fun z => nomatch z) (fun _ => EVF.list .nil)) (.inl rfl) trivial) ?_
  refine Ex.cons (Ex1.ite (t:=false) (TV.typeIs (g_type h) (g_list h) (EV.name (d:=.lst []) rfl) rfl (.inr ⟨rfl,rfl⟩)) (fun z => nomatch z) (fun _ => Ex.nil)) ?_
  exact Ex.hdrTail (by decide) rfl rfl (s_headers h)
end
section
section
variable {prog:Program} {w:World} {A:Around} {E:Value→Shared→Prop} {s:Shared}
set_option tactic.hygienic true in
theorem peekA_wp {α:Type} {K:Frag} {M:Model} {Q:α→Shared→Prop} {o:Obj} (X:K.In s.heap):∀ (t:Sem α) (g:Addr→Sem α),peekA K ⟨M.prog,M.w.params⟩ t = some (o,g) →
   wpAny M A (g s.heap.objs.size) Q E { s with heap:=s.heap.push o }→wpAny M A t Q E s:=by
 intro t
 induction t with
 | rule _ k ih => intro g e q Γ p hΓ; exact ih () g e q Γ p hΓ
 | point _ k ih => intro g e q Γ p hΓ; exact ih () g e q Γ p hΓ
 | ask k ih => intro g e q Γ p hΓ; exact ih _ g e q Γ p hΓ
 | load a _ k ih =>
  intro g e q Γ p hΓ
  simp only [peekA] at e
  split at e
  ·rename_i ob ho; exact ⟨ob,X _ _ ho,ih ob g e q Γ p hΓ⟩
  ·cases e
 | alloc ob k _ =>
  intro g e q
  have e:some (ob,k) = some (o,g):=e
  obtain ⟨e1,e2⟩:=Prod.mk.inj (Option.some.inj e)
  subst e1
  subst e2
  show wpAny M A (alloc ob >>= k) Q E s
  exact wpAny_bind (wpAny_alloc q)
 | _ => intro g e; cases e
theorem sameBut_trans {d:Addr} {a b c:Heap} (x:Heap.SameBut d a b) (y:Heap.SameBut d b c):Heap.SameBut d a c:=⟨by rw [y.1,x.1],fun q hq => (y.2 q hq).trans (x.2 q hq)⟩
theorem nsSet_new {d:Addr} {es:List DictEntry} {n:Nat} {k:Str} {v:Value} {Q:Unit→Shared→Prop} (D:s.heap.get? d = some (dictOf es n)) (hs:∀ e ∈ es,e.key.isStr k = false) (hr:∀ e ∈ es,e.refKey = false)
  (h:∀ h',Heap.SameBut d s.heap h'→h'.get? d = some (dictOf (es ++ [⟨PyData.keyHash w.params k,.str k s.toks,v⟩]) (n + 1))→Q () { s with heap:=h',toks:=s.toks + 1 }):wpAny (model prog w) A (nsSet d k v) Q E s:=by
 have e1:es.any (·.key.isStr k) = false:=by
  cases q:es.any (·.key.isStr k) with
  | false => rfl
  | true => left;rcases List.any_eq_true.mp q with ⟨e,he,z⟩;right; rw [hs e he] at z; cases z
 have e2:es.any (·.refKey) = false:=by
  cases q:es.any (·.refKey) with
  | false => rfl
  | true => left;rcases List.any_eq_true.mp q with ⟨e,he,z⟩;right; rw [hr e he] at z; cases z
 have e:Obj.putName k (PyData.keyHash w.params k) (.str k s.toks) v (dictOf es n) = dictOf (es ++ [⟨PyData.keyHash w.params k,.str k s.toks,v⟩]) (n + 1):=by
  rw [putName_dict,putL_new hs]
  show dictOf _ (if es.any (·.key.isStr k) then n else n + 1) = _
  rw [e1,if_neg Bool.false_ne_true]
 have c:aRefKeyMayBeTheName k es.toArray = false:=by
  rw [aRefKeyMayBeTheName_at,← Array.any_toList,← Array.any_toList]
  show (!es.any (·.key.isStr k) && es.any (·.refKey)) = false
  rw [e2,Bool.and_false]
 unfold nsSet
 refine wpAny_bind (wpAny_bind (wpAny_askSetting (wpAny_pure (wpAny_bind (wpAny_mkText (wpAny_bind (wpAny_loadPart D ?_)))))))
 dsimp only
 rw [c]
 refine wpAny_updatePart D (h _ (Heap.SameBut.update ..) ?_)
 rw [e.symm]
 exact Heap.get?_update_self (Obj.putName k (PyData.keyHash w.params k) (.str k s.toks) v) D (by rw [e]; rfl)
theorem kwfill {d:Addr} {Q:PUnit→Shared→Prop}:∀ (ex:List (Str × Value)) (s:Shared) (es:List DictEntry) (n:Nat),s.heap.get? d = some (dictOf es n) →
  (∀ e ∈ es,∀ x ∈ ex,e.key.isStr x.1 = false)→(∀ e ∈ es,e.refKey = false)→(ex.map (·.1)).Nodup →
  (∀ h',Heap.SameBut d s.heap h'→h'.get? d = some (dictOf (es ++ kwEs w.params s.toks ex) (n + ex.length))→Q ⟨⟩ { s with heap:=h',toks:=s.toks + ex.length }) →
  wpAny (model prog w) A (forIn ex PUnit.unit fun x _ => (nsSet d x.1 x.2 >>= fun _ => pure (ForInStep.yield PUnit.unit))) Q E s
 | [],s,es,n,D,_,_,_,h => by
  rw [List.forIn_nil]
  refine wpAny_pure (h s.heap (.refl ..) ?_)
  show s.heap.get? d = some (dictOf (es ++ []) n)
  rw [List.append_nil]
  exact D
 | x :: r,s,es,n,D,hs,hr,hn,h => by
  obtain ⟨hn1,hn2⟩:=List.nodup_cons.mp (show (x.1 :: r.map (·.1)).Nodup from hn)
  rw [List.forIn_cons]
  refine wpAny_bind (wpAny_bind (nsSet_new D (fun e he => hs e he x (.head _)) hr fun h' sb D' => wpAny_pure ?_))
  show wpAny (model prog w) A (forIn r PUnit.unit fun x _ => (nsSet d x.1 x.2 >>= fun _ => pure (ForInStep.yield PUnit.unit))) Q E { s with heap:=h',toks:=s.toks + 1 }
  refine kwfill r { s with heap:=h',toks:=s.toks + 1 } _ _ D' (fun e he y hy => ?_) (fun e he => ?_) hn2 fun h'' sb' D'' => ?_
  ·rcases List.mem_append.mp he with he | he
   ·exact hs e he y (.tail _ hy)
   ·obtain rfl:=List.mem_singleton.mp he
    show (x.1 == y.1) = false
    exact beq_eq_false_iff_ne.mpr fun q => hn1 (by rw [q]; exact List.mem_map_of_mem hy)
  ·rcases List.mem_append.mp he with he | he
   ·exact hr e he
   ·obtain rfl:=List.mem_singleton.mp he
    rfl
  ·have t1:s.toks + 1 + r.length = s.toks + (r.length + 1):=by omega
   have t2:n + 1 + r.length = n + (r.length + 1):=by omega
   show Q ⟨⟩ { s with heap:=h'',toks:=s.toks + 1 + r.length }
   rw [t1]
   refine h h'' (sameBut_trans sb sb') ?_
   rw [t2,List.append_assoc] at D''
   exact D''
theorem rdKv_kwEs {P:Params} {own:List Addr} {h:Heap}:∀ {kvs:List (Str × Value)} {kw:List (Str × D)} (t:Tok),kvs.map (·.1) = kw.map (·.1)→RdAll P own h (kvs.map (·.2)) (kw.map (·.2))→RdKv P own h (kwEs P t kvs) kw
 | [],[],t,_,_ => .nil
 | [],_ :: _,t,e,_ => by simp at e
 | _ :: _,[],t,e,_ => by simp at e
 | (k,v) :: r,(k',d) :: r',t,e,q => by
  simp only [List.map_cons,List.cons.injEq] at e
  cases q with
  | cons x q =>
   have:k = k':=e.1
   subst this
   exact .cons x (rdKv_kwEs (t + 1) e.2 q)
end
section
variable {c:Cx} {n:Nat} {A:Around} {env:Env} {b:Shared} {co own:List Addr} {ad:Str→List Addr} {lo lo':List (Str × D)} {ow ow':List (Str × OwnD)} {ex:List (Str × Value)} {s s':Shared} {o:Out} {tg:PySem.Expr}
noncomputable def headersEs (P:Params) (t:Tok) (l:Addr):List DictEntry:=[⟨PyData.keyHash P (Str.ofString "_headers"),.str (Str.ofString "_headers") t,.ref l⟩]
noncomputable def ExA (c:Cx) (n:Nat) (env:Env) (ex:List (Str × Value)) (st:List Stmt) (lo:List (Str × D)) (ow:List (Str × OwnD)) (C x:Addr) (d:D):Prop:=
 ∀ (A:Around) (E:Value→Shared→Prop) (b:Shared) (co:List Addr) (s:Shared) (own:List Addr) (ad:Str→List Addr) (dx l:Addr) (vs:List Value) (k m:Nat) (t:Tok) (Q:Flow→Shared→Prop),Sto c n A env b co own ad lo ow ex s →
  b.heap.get? x = some (instObj C dx)→b.heap.get? dx = some (dictOf (headersEs c.w.params t l) m)→b.heap.get? l = some (listOf vs.toArray k)→vs.length ≤ lim →
  (∀ s1 v h',Keeps b s1→(∀ own2,Rd c.w.params own2 s1.heap v d)→Heap.SameBut l s1.heap h'→h'.get? l = some (listOf (vs ++ [v]).toArray (k + 1))→Q .next { s1 with heap:=h' })→wpAny (model c.prog c.w) A (execs st env) Q E s
theorem ExA.cons {st:Stmt} {rest:List Stmt} {C x:Addr} {d:D} (y:Ex1 c n env ex st lo ow (.next lo' ow')) (z:ExA c n env ex rest lo' ow' C x d):ExA c n env ex (st :: rest) lo ow C x d:=fun A E b co s own ad dx l vs k m t Q S h1 h2 h3 h4 h =>
 wpAny_execs_cons (wpAny_mono (y A E b co s ⟨own,ad,S⟩) (fun fl s' hq => by
  left;rcases hq with ⟨z0_,own',ad',S'⟩;right;subst z0_
  exact z A E b co s' own' ad' dx l vs k m t Q S' h1 h2 h3 h4 h) fun _ _ z => z)
theorem ExA.last {p1 p2 p3 p4 p5:Pos} {e:PySem.Expr} {C x:Addr} {d:D} {pl:Sem Bool} (y:EV c n env (lo ++ frozen ow) e d) (hf:flatD d = true) (hx:ex.lookup (Str.ofString "self") = some (Value.ref x)) (ka:AttrOk c C "_headers") (hi:autoParam (interactive env = false) byRfl)
  (he:autoParam (eval (.Call (.Attribute (.Attribute (.Name "self" p1) "_headers" p2) "append" p3) [e] [] p4) env = (do
   let ov ← eval (.Attribute (.Name "self" p1) "_headers" p2) env
   standAt p3.atName
   let (f,first) ← holding [ov] (getMethod ov "append" pl)
   callWith p4 f first (backTo p4 (starEach [e] env)) (backToKw p4 (keywordEach [] env)))) byRfl)
  (ha:autoParam (eval (.Attribute (.Name "self" p1) "_headers" p2) env = (do
   let ov ← eval (.Name "self" p1) env
   standAt p2.atName
   let r ← holding [ov] (getAttr ov "_headers" true)
   letTemporaryGo (.Name "self" p1) ov r
   pure r)) byRfl) (hse:autoParam (starEach [e] env = (false,eval e env) :: starEach [] env) byRfl) :
  ExA c n env ex [.Expr (.Call (.Attribute (.Attribute (.Name "self" p1) "_headers" p2) "append" p3) [e] [] p4) p5] lo ow C x d:=fun A E b co s own ad dx l vs k m t Q S h1 h2 h3 h4 h => by
 have eb:Ext b.heap s.heap:=Keeps.ext S.keep
 have I:InstAt s.heap x (instObj C dx) C (some (dictOf (headersEs c.w.params t l) m)):=⟨eb _ _ h1,rfl,rfl,eb _ _ h2⟩
 refine wpAny_execs_cons (wpAny_Expr ?_ hi rfl)
 refine methodCall_KW ?_ he
 rw [ha]
 refine wpAny_bind (wpAny_Name (nameIs_load S.sit.ek (S.exact _ _ hx) (by decide) ?_) (by decide))
 left;rcases ka.no with ⟨attr,q1,q2⟩;right
 have hu:getL "_headers" (headersEs c.w.params t l) = some (some (.ref l)):=by simp [headersEs,PySem.W.getL,Value.isStr]
 refine wpAny_bind (wpAny_standAt (wpAny_bind (wpAny_holding (get_value S.sit.K I (plainGet_of ka.plain).1 (findObj_own ka.dict q1 q2 hu) rfl ?_))))
 refine wpAny_bind (wpAny_letTemporaryGo (wpAny_pure ?_))
 have S1:Sto c n A env b co own ad lo ow ex { s with toks:=s.toks + 1 }:=S.mono ⟨keeps_toks _ _,Nat.le_succ _⟩
 refine Calls.getMethod_list_append (eb _ _ h3) rfl rfl ?_
 refine callWith_ev (first:=[.ref l]) KeepF.builtin (EVs.cons y .nil hse) ⟨.inr ⟨_,_,rfl,hse⟩,by rw [hse]; rfl⟩ S1.thawed fun us s₁ k1 ru => ?_
 cases ru with
 | @cons u _ _ _ rd rn =>
  cases rn
  have S2:=S1.mono k1
  have hl2:s₁.heap.get? l = some (listOf vs.toArray k):=(Keeps.ext S2.keep) _ _ h3
  refine append_at hl2 (fun h' sb ho => ?_) (by have:=lim_line; simp; omega)
  refine wpAny_execs_nil (h s₁ u h' S2.keep (fun own2 => rd.flat hf) sb ?_)
  rw [ho]; simp
noncomputable def AddOk (c:Cx) (n:Nat) (fA C:Addr) (ds:List D) (args:List D) (kw:List (Str × D)) (d:D):Prop:=
 ∀ (A:Around) (s:Shared) (own:List Addr) (vs:List Value) (kvs:List (Str × Value)) (x dx l:Addr) (ws:List Value) (k m:Nat) (t:Tok) (R:Result→Shared→Prop),AOk c n A s.heap→Ext c.H s.heap→OwnOk own s.heap→(∀ a ∈ own,c.H.get? a = none)→1 ≤ s.toks →
  RdAll c.w.params own s.heap vs args→RdAll c.w.params own s.heap (kvs.map (·.2)) (kw.map (·.2))→kvs.map (·.1) = kw.map (·.1) →
  s.heap.get? x = some (instObj C dx)→s.heap.get? dx = some (dictOf (headersEs c.w.params t l) m)→s.heap.get? l = some (listOf ws.toArray k)→RdAll c.w.params own s.heap ws ds→ws.length ≤ lim →
  (∀ s1 v h',K2 s s1→(∀ own2,Rd c.w.params own2 s1.heap v d)→Heap.SameBut l s1.heap h'→h'.get? l = some (listOf (ws ++ [v]).toArray (k + 1))→R (.ok (.ret .none)) { s1 with heap:=h' }) →
  codeAny (model c.prog c.w) A (.call (.ref fA) ⟨.ref x :: vs,kvs⟩) R s
variable {name qual:Str} {params:Arguments} {body:List Stmt} {scope:Scope} {dV kV doc pm cdv ct oc:Value} {an od:Option Addr} {osl:Array (Option Value)} {f:Addr}
theorem AddOk.def {C:Addr} {ds:List D} {a1 a2:D} {kw:List (Str × D)} {d:D} {N1 N2 N3:Str} (ho:c.K.lookup f = some ⟨oc,od,.func (fnOf name qual params body scope dV kV doc pm an cdv ct),osl⟩) (hcd:codeIn c.K cdv qual = true)
  (hkw:(kw.map (·.1)).Nodup)
  (hp:∀ (St:Setting) (v0 v1 v2:Value) (kvs:List (Str × Value)),kvs.map (·.1) = kw.map (·.1)→peekA c.K St (bindArgs (fnOf name qual params body scope dV kV doc pm an cdv ct) ⟨[v0,v1,v2],kvs⟩) = some (dictOf [] 0,fun q => (forIn kvs PUnit.unit (fun x _ => (nsSet q x.1 x.2 >>= fun _ => pure (ForInStep.yield PUnit.unit))) >>= fun _ => pure (([(("self":Str),v0),(N1,v1),(N2,v2)]:List (Str × Value)) ++ [(N3,Value.ref q)]))))
  (hN:(["self",N1,N2,N3]:List Str).Nodup) (hk:(["self",N1,N2,N3]:List Str).all (fun y => scope.names.lookup y == some .local || scope.names.lookup y == some .cell) = true)
  (hbody:∀ L x,ExA c n (envOfC qual scope L f cdv) [("self",.ref x)] body [("self",.inst C [("_headers",.lst ds)]),(N1,a1),(N2,a2),(N3,.dct kw)] [] C x d)
  (hco:autoParam (scope.isCoroutine = false) byRfl) (hgen:autoParam (scope.isGenerator = false) byRfl) (hkind:autoParam (scope.kind = .function) byRfl):AddOk c (n + 1) f C ds [a1,a2] kw d:=fun A s own vs kvs x dx l ws k m t R ao ext ok base tok r rk hkn hx hdx hl rw_ hlen h => by
 cases r with
 | @cons v1 _ _ _ r1 r => cases r with
  | @cons v2 _ _ _ r2 r =>
   cases r
   have X:c.K.In s.heap:=c.X.keeps ext
   refine codeAny_with_toks (Nat.le_refl s.toks) (codeAny_call_function (by have:=ao.depth; omega) (X _ _ ho) rfl hco hgen rfl (codeRec_of X hcd) ?_)
   refine peekA_wp (K:=c.K) (M:=model c.prog c.w) X _ _ (hp _ _ _ _ kvs hkn) ?_
   have hD0:(s.heap.push (dictOf [] 0)).get? s.heap.objs.size = some (dictOf [] 0):=Heap.get?_push_size _ rfl
   refine wpAny_bind (kwfill kvs _ [] 0 hD0 (fun _ he => nomatch he) (fun _ he => nomatch he) (by rw [hkn]; exact hkw) fun h1 sb hD => wpAny_pure ?_)
   have e1:Ext s.heap h1:=fun q o e => (sb.2 q (ne_of_get e)).trans (ext_push _ _ _ _ e)
   have k1:K2 s { s with heap:=h1,toks:=s.toks + kvs.length }:=⟨⟨h1,_,rfl,e1⟩,Nat.le_add_right _ _⟩
   have hnew:∀ own:List Addr,OwnOk own s.heap→s.heap.objs.size ∉ own:=fun own ok z => ok.held.new z
   let own0:List Addr:=own.filter fun q => !(q == x || q == dx || q == l)
   have sub0:∀ q ∈ own0,q ∈ own:=fun q hq => (List.mem_filter.mp hq).1
   have notIn:∀ q,(q = x ∨ q = dx ∨ q = l)→q ∉ own0:=fun q hq hm => by
    have:=(List.mem_filter.mp hm).2
    rcases hq with rfl | rfl | rfl <;> simp at this
   have ok0:OwnOk own0 h1:=fun q hq => ok.ext e1 q (sub0 q hq)
   have rself:Rd c.w.params own0 h1 (.ref x) (.inst C [("_headers",.lst ds)]):=by
    refine .inst (n:=m) (notIn _ (.inl rfl)) (notIn _ (.inr (.inl rfl))) (e1 _ _ hx) (e1 _ _ hdx) (.cons (.lst (notIn _ (.inr (.inr rfl))) (e1 _ _ hl) rfl rfl ((rw_.sub sub0).ext e1)) .nil)
   have nosys:s.heap.objs.size ≠ sysModules:=fun z => by
    left;rcases c.sysm with ⟨a,o,ha,hlt⟩;right
    exact absurd (Heap.lt_size (ext _ _ ha)) (by rw [z]; exact Nat.not_lt.mpr (Nat.le_of_lt hlt))
   have rdict:Rd c.w.params own0 h1 (.ref s.heap.objs.size) (.dct kw):=by
    refine .dct ⟨fun z => hnew own ok (sub0 _ z),nosys⟩ hD ?_
    rw [List.nil_append]
    exact rdKv_kwEs _ hkn ((rk.sub sub0).ext e1)
   have hB':(([("self",Value.ref x),(N1,v1),(N2,v2),(N3,Value.ref s.heap.objs.size)]:List (Str × Value)).map (·.1)).Nodup:=hN
   have hk':∀ m,∀ y ∈ ([("self",Value.ref x),(N1,v1),(N2,v2),(N3,Value.ref s.heap.objs.size)]:List (Str × Value)),scope.names.lookup y.1 = some .local ∨ (scope.names.lookup y.1 = some .cell∧((cellsFrom m scope.names []).lookup y.1).isSome = true):=kindsX (binds:=[("self",Value.ref x),(N1,v1),(N2,v2),(N3,Value.ref s.heap.objs.size)]) (by
    rw [List.all_eq_true] at hk ⊢
    intro y hy
    have:y.1 ∈ (["self",N1,N2,N3]:List Str):=by
     have:=List.mem_map_of_mem (f:=(·.1)) hy
     exact this
    exact hk y.1 this)
   refine wpAny_with_toks (Nat.le_refl (s.toks + kvs.length)) (wpAny_newFunctionEnv_cells hkind (hk' _) fun env he s' xx htk => ?_)
   subst he
   have ext1:Ext c.H h1:=Ext.trans ext e1
   refine ⟨(c.T.nolimit.keeps ext1).keeps xx.toInCall.keep,codeAny_func ?_⟩
   obtain ⟨own',ad,S⟩:=entry_sto (n:=n) (qual:=qual) (f:=f) (cdv:=cdv) (s:={ s with heap:=h1,toks:=s.toks + kvs.length }) (ao.ext e1) ext1 ok0 (fun q hq => base q (sub0 q hq)) (Nat.le_trans tok (Nat.le_add_right _ _)) htk hkind hB' (hk' _) (lo0:=[("self",.inst C [("_headers",.lst ds)]),(N1,a1),(N2,a2),(N3,.dct kw)]) (fun y d e => by
     have z:=zip_lookup (P:=c.w.params) (own:=own0) (h:=h1) (B:=[("self",Value.ref x),(N1,v1),(N2,v2),(N3,Value.ref s.heap.objs.size)]) (ds:=[.inst C [("_headers",.lst ds)],a1,a2,.dct kw]) (.cons rself (.cons ((r1.sub sub0).ext e1) (.cons ((r2.sub sub0).ext e1) (.cons rdict .nil)))) e
     exact z) (ex0:=[("self",.ref x)]) (fun y v e => by
     rw [List.lookup_cons] at e
     by_cases z:(y == ("self":Str)) = true
     ·rw [z] at e; cases e
      have:y = "self" := by simpa using z
      subst this; exact .head _
     ·have z':(y == ("self":Str)) = false:=by simpa using z
      rw [z'] at e; simp at e) xx
   refine wpAny_mono (hbody _ x _ _ _ own0 s' own' ad dx l ws k m t (fun fl s'' => fl = .next∧(s.toks ≤ s''.toks→R (.ok (.ret .none)) s'')) S (e1 _ _ hx) (e1 _ _ hdx) (e1 _ _ hl) hlen fun s1 v h' kp rv sb' hl' => ⟨rfl,fun ht => ?_⟩) (fun fl s'' hq hts => ?_) fun _ _ z => z
   ·refine h s1 v h' ⟨Keeps.trans' k1.1 kp,ht⟩ rv sb' hl'
   ·obtain ⟨rfl,hq⟩:=hq
    exact hq hts
end
end
section
noncomputable def partA (p:List Nat × Option (List Nat)):List Nat:=match p.2 with
 | none => repL 95 [45] p.1
 | some v => fmtT (repL 95 [45] p.1) v
noncomputable def valT (own:Option (List Nat)) (ps:List (List Nat × Option (List Nat))):List Nat:=joinL [59,32] (own.toList ++ ps.map partA)
theorem rep1_len:∀ v:List Nat,(repL 95 [45] v).length = v.length
 | [] => rfl
 | a :: r => by
  have ih:=rep1_len r
  have e:repL 95 [45] (a :: r) = (if a = 95 then [45] else [a]) ++ repL 95 [45] r:=by unfold repL; rw [List.flatMap_cons]
  rw [e,List.length_append,List.length_cons]
  split <;> simp only [List.length_cons,List.length_nil] <;> omega
theorem fmtT_len (p v:List Nat):(fmtT p v).length ≤ p.length + 2 * v.length + 3:=by
 unfold fmtT
 have:=esc_len v
 split
 ·omega
 ·simp only [List.length_append,List.length_cons,List.length_nil]; omega
theorem partA_len (p:List Nat × Option (List Nat)) (h1:p.1.length ≤ 10) (h2:(p.2.getD []).length ≤ 100):(partA p).length ≤ 300:=by
 unfold partA
 cases h:p.2 with
 | none => simp only; rw [rep1_len]; omega
 | some v =>
  simp only
  have:=fmtT_len (repL 95 [45] p.1) v
  rw [rep1_len] at this
  rw [h] at h2
  simp at h2
  omega
theorem g_fmt {c:Cx} (h:Is c) {env:Env} (hk:autoParam (env.kindOf "_formatparam" = some .globalImplicit) byRfl):GlobIs c env "_formatparam" (.ref 61):=GlobIs.glob (by rw [h]; rfl) hk
noncomputable def shapes:List (List (List Nat)):=[[],[[112]],[[112,95,113],[114]],[[114],[112]]]
theorem parD_keys (ps:List (List Nat × Option (List Nat))):(parD ps).map (·.1) = (ps.map (·.1)).map S:=by simp [parD]
theorem nodup_keys {ps:List (List Nat × Option (List Nat))} (hn:(ps.map (·.1)).Nodup):((parD ps).map (·.1)).Nodup:=by
 rw [parD_keys]
 exact List.Pairwise.map S (fun a b hne z => hne (S_inj z)) hn
theorem itemsD_at {ps:List (List Nat × Option (List Nat))} {i:Nat} {d:D} (h:(itemsD (parD ps))[i]? = some d):∃ p,ps[i]? = some p∧d = .tup [.str (S p.1),optD p.2]:=by
 unfold itemsD parD at h
 rw [List.map_map,List.getElem?_map] at h
 left;rcases Option.map_eq_some_iff.mp h with ⟨p,hp,z0_⟩;right;subst z0_
 exact ⟨p,hp,rfl⟩
theorem m_conv {c:Cx} {n:Nat} (h:Is c) {env:Env} {lo:List (Str × D)} {o e:PySem.Expr} {apos pos kp kpos:Pos} {ki:Nat} {kb:Bool} {kvs:List (Str × D)} {x:Str} (y:EV c (n + 1) env lo o (.inst 182 kvs)) (a:EV c (n + 1) env lo e (.str x)) (hk:kvs.lookup (Str.ofString "_convert_string_type") = none) (hl:x.length ≤ lim) (hb:Bad (if kb then badN else badV) x = false) {pl:Sem Bool}
  (he:autoParam (eval (.Call (.Attribute o "_convert_string_type" apos) [e] [⟨some "name",.Constant (.bool kb) ki kp,kpos⟩] pos) env = (do
   let ov ← eval o env
   standAt apos.atName
   let (f,first) ← holding [ov] (getMethod ov "_convert_string_type" pl)
   callWith pos f first (backTo pos (starEach [e] env)) (backToKw pos (keywordEach [⟨some "name",.Constant (.bool kb) ki kp,kpos⟩] env)))) byRfl) (hp:autoParam (starEach [e] env = [(false,eval e env)]) byRfl) :
  EV c (n + 1) env lo (.Call (.Attribute o "_convert_string_type" apos) [e] [⟨some "name",.Constant (.bool kb) ki kp,kpos⟩] pos) (.str x):=
 EV.methKw (m := "_convert_string_type") (kn := "name") y a (m_convert h) hk (KeepF.of (by rw [h]; rfl)) (f_convert h kb x hl hb) he hp
theorem map_one {α β:Type} {kvs:List (α × β)} {a:α} (h:kvs.map (·.1) = [a]):∃ w,kvs = [(a,w)]:=by
 cases kvs with
 | nil => cases h
 | cons p r =>
  cases List.map_eq_nil_iff.mp (List.cons.inj h).2
  exact ⟨p.2,by rw [← (List.cons.inj h).1]⟩
theorem map_two {α β:Type} {kvs:List (α × β)} {a b:α} (h:kvs.map (·.1) = [a,b]):∃ w u,kvs = [(a,w),(b,u)]:=by
 cases kvs with
 | nil => cases h
 | cons p r =>
  obtain ⟨u,rfl⟩:=map_one (List.cons.inj h).2
  exact ⟨p.2,u,by rw [← (List.cons.inj h).1]⟩
set_option maxHeartbeats 2000000 in
theorem f_add {c:Cx} (h:Is c) {n:Nat} (ds:List D) (nm:List Nat) (own:Option (List Nat)) (ps:List (List Nat × Option (List Nat))) (hsh:ps.map (·.1) ∈ shapes) (h1:nm.length ≤ 100) (h3:∀ p ∈ ps,(p.2.getD []).length ≤ 100) (h4:(own.getD []).length ≤ 8000)
  (b1:Bad badN (S nm) = false) (b2:Bad badV (S (own.getD [])) = false) (b3:∀ p ∈ ps,Bad badV (S (p.2.getD [])) = false) :
  AddOk c (n + 2) 179 182 ds [.str (S nm),optD own] (parD ps) (pairD (nm,valT own ps)):=by
 have hn:(ps.map (·.1)).Nodup:=by
  have:∀ k ∈ shapes,k.Nodup:=by decide
  exact this _ hsh
 have h2:ps.length ≤ 2:=by
  have:∀ k ∈ shapes,k.length ≤ 2:=by decide
  have:=this _ hsh
  simpa using this
 have hk1:∀ p ∈ ps,p.1.length ≤ 10∧Bad badN (S p.1) = false:=fun p hp => by
  have h5:∀ k ∈ shapes,∀ x ∈ k,x.length ≤ 10∧Bad badN (S x) = false:=by decide
  exact h5 _ hsh _ (List.mem_map_of_mem hp)
 refine AddOk.def (ho:=by rw [h]; rfl) (hcd:=by rw [h]; rfl) (N1 := "_name") (N2 := "_value") (N3 := "_params") (nodup_keys hn) ?_ (by decide) (by rfl) ?_
 ·intro St v0 v1 v2 kvs hkn
  rw [parD_keys] at hkn
  rw [h]
  unfold shapes at hsh
  simp only [List.mem_cons,List.mem_nil_iff,or_false] at hsh
  rcases hsh with q | q | q | q <;> rw [q] at hkn
  ·cases List.map_eq_nil_iff.mp hkn
   rfl
  ·obtain ⟨w1,rfl⟩:=map_one hkn
   rfl
  ·left;rcases map_two hkn with ⟨w1,w2,z0_⟩;right;subst z0_
   rfl
  ·left;rcases map_two hkn with ⟨w1,w2,z0_⟩;right;subst z0_
   rfl
 ·intro L x
  have hisn:cmpD .IsNot (optD own) .none = some (!own.isNone):=by cases own <;> rfl
  refine ExA.cons (Ex1.fresh (EVF.list .nil) (.inl rfl)) ?_
  refine ExA.cons (lo':=[("self",.inst 182 [("_headers",.lst ds)]),("_name",.str (S nm)),("_params",.dct (parD ps))]) (ow':=[("parts",.lst (strsD own.toList))]) (Ex1.ite (TV.cmp (EV.name rfl) EV.none hisn) (fun z => ?_) (fun z => ?_)) ?_
  ·cases own with
   | none => cases z
   | some v =>
    have hv:(S v).length ≤ lim:=by rw [S_len]; simp at h4; unfold lim; omega
    exact Ex.post (Ex.cons (Ex1.assign (m_conv h (kb:=false) (EV.name rfl) (EV.name (d:=.str (S v)) rfl) rfl hv b2) (.inl rfl)) (Ex.cons (Ex1.append (EV.name rfl) rfl (by show 0 ≤ lim; omega)) Ex.nil)) (.of rfl) (.of rfl)
  ·cases own with
   | none => exact Ex.post Ex.nil (.of rfl) (.of rfl)
   | some v => cases z
  ·have hol:own.toList.length ≤ 1:=by cases own <;> simp
   have hit:(itemsD (parD ps)).length = ps.length:=by simp [itemsD,parD]
   refine ExA.cons (Ex1.loop (IT.items (EV.name rfl) (nodup_keys hn)) (fun _ => [("self",.inst 182 [("_headers",.lst ds)]),("_name",.str (S nm)),("_params",.dct (parD ps))]) (fun j => [("parts",.lst (strsD (own.toList ++ (ps.take j).map partA)))]) ps.length (by rw [hit]; exact Nat.le_refl _) (.of rfl) ⟨by simp,trivial⟩ ?_ (.inl ⟨hit.symm,rfl⟩)) ?_
   ·intro j d hj hd
    left;rcases itemsD_at hd with ⟨p,hp,z0_⟩;right;subst z0_
    obtain ⟨k1,k2⟩:=hk1 p (List.mem_of_getElem? hp)
    have k3:=h3 p (List.mem_of_getElem? hp)
    have k4:=b3 p (List.mem_of_getElem? hp)
    have htake:(ps.take (j + 1)).map partA = (ps.take j).map partA ++ [partA p]:=by
     rw [List.take_add_one,hp,List.map_append]; rfl
    rw [htake]
    have hplen:(own.toList ++ (ps.take j).map partA).length ≤ 20:=by
     rw [List.length_append,List.length_map,List.length_take]; omega
    have hl1:(S p.1).length ≤ lim:=by rw [S_len]; unfold lim; omega
    have hr:D.str (Txt.replace (S p.1) "_" "-") = .str (S (repL 95 [45] p.1)):=congrArg D.str (replace_S p.1 95 [45])
    have hrl:=rep1_len p.1
    obtain ⟨key,v⟩:=p
    have hkl:(repL 95 [45] key).length ≤ 1000:=by
     have q1:(repL 95 [45] key).length = key.length:=hrl
     have q2:key.length ≤ 10:=k1
     omega
    have hpl:(strsD (own.toList ++ (ps.take j).map partA)).length ≤ lim:=by unfold strsD lim; rw [List.length_map]; omega
    have fin:strsD (own.toList ++ ((ps.take j).map partA ++ [partA (key,v)])) = strsD (own.toList ++ (ps.take j).map partA) ++ [.str (S (partA (key,v)))]:=by simp [strsD]
    rw [fin]
    refine Step.of (Tg.tuple (Tgs.cons (.inl rfl) (Tgs.cons (.inl rfl) Tgs.nil))) ?_
    refine Ex.cons (Ex1.assign (m_conv h (kb:=true) (EV.name rfl) (EV.name (d:=.str (S key)) rfl) rfl hl1 k2) (.inl rfl)) ?_
    cases v with
    | none =>
     exact Ex.post (Ex.cons (Ex1.ite (t:=true) (TV.cmp (EV.name (d:=.none) rfl) EV.none rfl) (fun _ => Ex.cons (Ex1.append (EV.cast (EV.replace (EV.name rfl) hl1 (by decide) (by decide)) hr) rfl hpl) Ex.nil) (fun z => nomatch z)) Ex.nil) (.of rfl) (.of rfl)
    | some v =>
     have hl2:(S v).length ≤ lim:=by rw [S_len]; simp at k3; unfold lim; omega
     exact Ex.post (Ex.cons (Ex1.ite (t:=false) (TV.cmp (EV.name (d:=.str (S v)) rfl) EV.none rfl) (fun z => nomatch z) (fun _ => Ex.cons (Ex1.assign (m_conv h (kb:=false) (EV.name rfl) (EV.name (d:=.str (S v)) rfl) rfl hl2 k4) (.inl rfl)) (Ex.cons (Ex1.append (EV.call (g_fmt h) (KeepF.of (by rw [h]; rfl)) (EVs.cons (EV.cast (EV.replace (EV.name rfl) hl1 (by decide) (by decide)) hr) (EVs.cons (EV.name rfl) .nil)) (f_fmt h (repL 95 [45] key) v hkl (by simp at k3; omega))) rfl hpl) Ex.nil))) Ex.nil) (.of rfl) (.of rfl)
   ·rw [List.take_length]
    have hm:∀ p ∈ own.toList ++ ps.map partA,p.length ≤ 10000:=fun p hp => by
     rcases List.mem_append.mp hp with q | q
     ·cases own with
      | none => simp at q
      | some x => simp at q; subst q; simp at h4; omega
     ·left;rcases List.mem_map.mp q with ⟨a,ha,z0_⟩;right;subst z0_
      have:=partA_len a (hk1 a ha).1 (h3 a ha); omega
    refine ExA.last (EV.tuple (EVs.cons (m_conv h (kb:=true) (EV.name rfl) (EV.name (d:=.str (S nm)) rfl) rfl (by rw [S_len]; show nm.length ≤ lim; unfold lim; omega) b1) (EVs.cons (EV.join (sep:=[59,32]) rfl EV.str (EV.name rfl) (by decide) (by rw [List.length_append,List.length_map]; omega) hm) .nil))) rfl rfl (a_headers h)
end
section
section
variable {c:Cx} {n:Nat} {A:Around} {env:Env} {b:Shared} {co own:List Addr} {ad:Str→List Addr} {lo lo':List (Str × D)} {ow ow':List (Str × OwnD)} {ex:List (Str × Value)} {s s':Shared} {o:Out} {tg:PySem.Expr}
theorem Sto.added (S:Sto c n A env b co own ad lo ow ex s) {x:Str} {C a dx l:Addr} {ds:List D} {d:D} {ws:List Value} {k m:Nat} {t:Tok} {h':Heap} {v:Value} (hx:ow.lookup x = some (.hdr C ds)) (e1:ad x = [a,dx,l]) (hne:a ≠ dx) (e2:s.heap.get? a = some (instObj C dx)) (e3:s.heap.get? dx = some (dictOf (headersEs c.w.params t l) m)) (e4:s.heap.get? l = some (listOf ws.toArray k)) (r:RdAll c.w.params own s.heap ws ds)
  (n1:NameIs env s.heap x (.ref a)) (rv:∀ own2,Rd c.w.params own2 s.heap v d) (sb:Heap.SameBut l s.heap h') (ho:h'.get? l = some (listOf (ws ++ [v]).toArray (k + 1))):Sto c n A env b co own ad lo ((x,.hdr C (ds ++ [d])) :: ow) ex { s with heap:=h' }:=by
 have hl:l ∈ ad x:=by rw [e1]; simp
 have hlo:l ∈ own:=by left;rcases S.owns x _ hx with ⟨_,_,_,l1⟩;right; exact (l1 l hl).1
 have hal:a ≠ l:=fun z => by subst z; rw [e4] at e2; cases e2
 have hdl:dx ≠ l:=fun z => by
  subst z; rw [e4] at e3
  injection e3 with e3
  have:=congrArg Obj.data e3
  cases this
 refine S.mut hx hl (Nat.le_refl _) sb ho (fun vs z => by cases z) (fun z => not_tuple z.1) fun a' n2 o2 => ?_
 have ha:a' = a:=by
  have:=nameIs_unique n2 n1
  injection this
 subst ha
 have kp:=keep_of hlo sb
 exact ⟨dx,l,ws ++ [v],k + 1,m,t,e1,hne,(sb.2 _ hal).trans e2,(sb.2 _ hdl).trans e3,ho,(r.keep S.sit.ok kp).append (.cons ((rv own).keep S.sit.ok kp) .nil)⟩
theorem Ex1.addHdr {x:Str} {p ap pos pos':Pos} {es:List PySem.Expr} {C fA:Addr} {ds:List D} {args:List D} {d:D} {pl:Sem Bool} (hx:ow.lookup x = some (.hdr C ds)) (a:EVs c n env (lo ++ frozen ow) es args) (k:MethOk c C "add_header" fA) (hk:KeepF c (.ref fA)) (F:AddOk c n fA C ds args [] d) (hl:ds.length ≤ lim)
  (hd:autoParam ((x == ("__debug__":Str)) = false) byDec) (hcd:autoParam ((x == ("__classdict__":Str)) = false) byDec) (hi:autoParam (interactive env = false) byRfl)
  (he:autoParam (eval (.Call (.Attribute (.Name x p) "add_header" ap) es [] pos) env = (do
   let ov ← eval (.Name x p) env
   standAt ap.atName
   let (f,first) ← holding [ov] (getMethod ov "add_header" pl)
   callWith pos f first (backTo pos (starEach es env)) (backToKw pos (keywordEach [] env)))) byRfl) (hp:autoParam (Plain es env pos) byPl2) :
  Ex1 c n env ex (.Expr (.Call (.Attribute (.Name x p) "add_header" ap) es [] pos) pos') lo ow (.next lo ((x,.hdr C (ds ++ [d])) :: ow)):=fun A E b co s ⟨own,ad,S⟩ => by
 refine wpAny_Expr ?_ hi rfl
 left;rcases S.owns x _ hx with ⟨q,n1,o1,l1⟩;right
 have rself:=o1.froze thaw_sub fun z hz => thaw_not (ad:=ad) hx hz
 left;rcases o1 with ⟨dx,l,ws,j,m,t,e1,hne,e2,e3,e4,rw_⟩;right
 refine methodCall_KW (wpAny_Name (nameIs_load S.sit.ek n1 hcd ?_) hd) he
 refine meth_get k (by rw [List.lookup_cons]; rfl) S.sit.K rself ?_
 refine callWith_ev (first:=[.ref q]) hk a hp S.thawed fun us s₁ k1 ru => ?_
 have S1:=S.mono k1
 have T1:=S1.thawed
 have rw1:=rw_.ext k1.ext
 refine wpAny_call (F A s₁ _ us [] q dx l ws j m t _ T1.ao T1.ext T1.ok T1.base T1.tok ru .nil rfl (k1.ext _ _ e2) (k1.ext _ _ e3) (k1.ext _ _ e4) (rw1.sub thaw_sub) (by rw [rw_.length]; exact hl) fun s2 v h' k2 rv sb ho => ?_)
 have S2:=S1.mono k2
 exact ⟨rfl,own,ad,S2.added hx e1 hne (k2.ext _ _ (k1.ext _ _ e2)) (k2.ext _ _ (k1.ext _ _ e3)) (k2.ext _ _ (k1.ext _ _ e4)) (rw1.ext k2.ext) ((n1.ext k1.ext).ext k2.ext) rv sb ho⟩
end
theorem m_add {c:Cx} (h:Is c):MethOk c 182 "add_header" 179:=⟨by rw [h]; rfl,by rw [h]; rfl,by rw [h]; rfl⟩
end
section
section
variable {prog:Program} {w:World} {A:Around} {E:Value→Shared→Prop} {s:Shared}
theorem merge_run {d a:Addr} {es:List DictEntry} {n ep:Nat} {Q:Unit→Shared→Prop} (hd:s.heap.get? d = some (dictOf [] ep)) (ha:s.heap.get? a = some (dictOf es n)) (hne:a ≠ d) (hsm:(a == sysModules) = false) (hk:∀ e ∈ es,∃ k t,e.key = .str k t) (hpw:∀ i e,es[i]? = some e→∀ e' ∈ es.take i,∀ k t,e.key = .str k t→e'.key.isStr k = false) (hz:es.length ≤ 1000) (h:∀ h' m',Heap.SameBut d s.heap h'→h'.get? d = some (dictOf es m')→Q () { s with heap:=h' }):wpAny (model prog w) A (mergeMapping d (.ref a) true) Q E s:=by
 have hT:s.TypeIs (.ref a) "dict" := ⟨_,ha,rfl⟩
 unfold mergeMapping
 refine wpAny_bind (wpAny_isInstance (U := "dict") (b:=true) hT (by rw [isSubtype_type]; kernel_rfl) ?_)
 rw [if_pos rfl]
 refine wpAny_bind (wpAny_specialOf hT F.slot_dict_iter.lookup (wpAny_bind (wpAny_pure ?_)))
 simp only [beq_self_eq_true]
 rw [hsm]
 rw [if_neg (by decide)] at ⊢
 refine wpAny_bind (wpAny_dictEntries hd rfl ?_)
 rw [if_pos (by rfl)] at ⊢
 refine wpAny_bind (wpAny_dictEntries ha rfl ?_)
 refine wpAny_bind ?_
 have quiet:∀ (l:Array DictEntry) (s:Shared) (Q:PUnit→Shared→Prop),(∀ e ∈ l.toList,∃ k t,e.key = .str k t)→Q ⟨⟩ s→wpAny (model prog w) A (forIn l PUnit.unit fun e __s =>
             match e.key with
             | Value.ref a => do
              let __do_lift ← specialOf e.key (Str.ofString "__eq__")
              if (__do_lift != some (Value.builtin "object.__eq__")) = true then
                if (Array.filter (fun x => x.hash == e.hash) es.toArray).size > 1 then do
                 unsupported "dict.merge-into-an-empty-dict:keys-of-equal-hash"
                 pure (ForInStep.yield PUnit.unit)
                else pure (ForInStep.yield PUnit.unit)
               else pure (ForInStep.yield PUnit.unit)
             | x => pure (ForInStep.yield PUnit.unit)) Q E s:=fun l s Q hl hq => by
  rw [← Array.forIn_toList]
  refine wpAny_forIn_list _ (fun rest _ s' => s' = s∧∀ e ∈ rest,∃ k t,e.key = .str k t) _ (fun x rest _ s' hi => ?_) (fun _ s' hi => ?_) _ _ ⟨rfl,hl⟩
  ·obtain ⟨rfl,hi⟩:=hi
   left;rcases hi x (.head _) with ⟨k,t,hkt⟩;right
   rw [hkt]
   exact wpAny_pure ⟨rfl,fun e he => hi e (.tail _ he)⟩
  ·obtain ⟨rfl,_⟩:=hi
   exact hq
 refine quiet _ _ _ (by simpa using hk) ?_
 refine wpAny_bind (wpAny_dictEntries ha rfl ?_)
 refine wpAny_bind (wpAny_dictEpoch ha rfl ?_)
 refine wpAny_bind ?_
 refine wpAny_forIn_list _ (fun rest _ s' => ∃ i h' m',rest = (List.range es.length).drop i∧i ≤ es.length∧s' = { s with heap:=h' }∧Heap.SameBut d s.heap h'∧h'.get? d = some (dictOf (es.take i) m')) _ (fun x rest _ s' hi => ?_) (fun _ s' hi => ?_) _ _ ⟨0,s.heap,ep,by simp,Nat.zero_le _,rfl,.refl ..,by simpa using hd⟩
 ·left;rcases hi with ⟨i,h',m',hr,hile,z0_,sb,hdi⟩;right;subst z0_
  have hilt:i < es.length:=by
   have:=congrArg List.length hr
   simp at this; omega
  have hxi:x = i∧rest = (List.range es.length).drop (i + 1):=by
   rw [List.drop_eq_getElem_cons (by simpa using hilt)] at hr
   injection hr with h1 h2
   exact ⟨by rw [h1]; simp,h2⟩
  obtain ⟨rfl,hrest⟩:=hxi
  have ha':h'.get? a = some (dictOf es n):=(sb.2 a hne).trans ha
  refine wpAny_bind (wpAny_dictEntries (s:={ s with heap:=h' }) ha' rfl ?_)
  have hex:es.toArray[x]? = some es[x]:=by simp [hilt]
  rw [hex]
  have hmem:es[x] ∈ es:=List.getElem_mem _
  left;rcases hk _ hmem with ⟨k,t,hkt⟩;right
  have hfree:(es.take x).toArray.findIdx? (fun e => e.key.isStr k) = none:=by
   rw [List.findIdx?_toArray,List.findIdx?_eq_none_iff] at ⊢
   intro e' he'
   exact hpw x es[x] (by simp [hilt]) e' he' k t hkt
  have hall:((es.take x).toArray.all fun e => isExactStrKey e.key) = true:=by
   rw [← Array.all_toList]
   rw [List.all_eq_true]
   intro e' he'
   left;rcases hk e' (List.mem_of_mem_take (by simpa using he')) with ⟨k',t',hk'⟩;right
   rw [hk']; rfl
  have tail:∀ (P:Unit→Shared→Prop),(∀ h'' m'',Heap.SameBut d h' h''→h''.get? d = some (dictOf (es.take (x + 1)) m'')→P () { s with heap:=h'' })→wpAny (model prog w) A (dictPut d es[x].hash es[x].key es[x].val) P E { s with heap:=h' }:=fun P hP => by
   unfold dictPut
   rw [hkt]
   refine wpAny_bind (PyProof.Rows.KTD.kt_dictFind_strs (s:={ s with heap:=h' }) hdi rfl hall ?_)
   rw [hfree]
   refine wpAny_updateDictKeys (s:={ s with heap:=h' }) hdi rfl ?_ (by show (es.take x).toArray.size ≤ sizeLine; have:sizeLine = 16777216:=rfl; simp; omega)
   refine hP _ (m' + 1) (Heap.SameBut.update ..) ?_
   have e5:Obj.mapDictKeys (fun es_1 => es_1.push ⟨es[x].hash,.str k t,es[x].val⟩) (dictOf (es.take x) m') = dictOf (es.take (x + 1)) (m' + 1):=by
    have e6:es.take (x + 1) = es.take x ++ [es[x]]:=by rw [List.take_add_one]; simp [hilt]
    have e7:es[x] = ⟨es[x].hash,.str k t,es[x].val⟩:=by rw [hkt.symm]
    rw [e6]
    show ({ cls:=.type "dict",data:=.dict ((es.take x).toArray.push ⟨es[x].hash,.str k t,es[x].val⟩) (m' + 1) }:Obj) = _
    rw [List.push_toArray,e7.symm]
   (rewrite [Heap.get?_update_self _ hdi (by rw [e5]; rfl)] at ⊢; rw [e5])
  refine wpAny_bind (wpAny_holding ?_)
  rw [if_pos trivial]
  have hfind:∀ (P:Option Nat→Shared→Prop),P none { s with heap:=h' }→wpAny (model prog w) A (dictFind d es[x].key es[x].hash) P E { s with heap:=h' }:=fun P hP => by
   rw [hkt]
   refine PyProof.Rows.KTD.kt_dictFind_strs (s:={ s with heap:=h' }) hdi rfl hall ?_
   rw [hfree]; exact hP
  refine wpAny_bind (hfind _ ?_)
  rw [if_neg (by decide)] at ⊢
  refine tail _ fun h'' m'' sb' hd'' => ?_
  refine wpAny_bind (wpAny_dictEpoch (s:={ s with heap:=h'' }) ((sb'.2 a hne).trans ha') rfl ?_)
  rw [if_neg (by simp)] at ⊢
  exact wpAny_pure ⟨x + 1,h'',m'',hrest,by omega,rfl,sameBut_trans sb sb',hd''⟩
 ·left;rcases hi with ⟨i,h',m',hr,hile,z0_,sb,hdi⟩;right;subst z0_
  have:i = es.length:=by
   have:=congrArg List.length hr
   simp at this; omega
  subst this
  rw [List.take_length] at hdi
  exact wpAny_pure (h h' m' sb hdi)
noncomputable def kwOf (es:List DictEntry):List (Str × Value):=es.filterMap fun e => match e.key with | .str k _ => some (k,e.val) | _ => none
theorem keysIn_run {f:Value} {d:Addr} {es:List DictEntry} {m:Nat} {Q:List (Str × Value)→Shared→Prop} (hd:s.heap.get? d = some (dictOf es m)) (hk:∀ e ∈ es,∃ k t,e.key = .str k t) (h:Q (kwOf es) s):wpAny (model prog w) A (keywordsIn f d) Q E s:=by
 unfold keywordsIn
 refine wpAny_bind (wpAny_dictEntries hd rfl ?_)
 refine wpAny_bind ?_
 rw [← Array.forIn_toList]
 refine wpAny_forIn_list _ (fun rest acc s' => s' = s∧acc ++ kwOf rest = kwOf es∧∀ e ∈ rest,∃ k t,e.key = .str k t) _ (fun x rest acc s' hi => ?_) (fun acc s' hi => ?_) _ _ ⟨rfl,rfl,hk⟩
 ·left;rcases hi with ⟨z0_,ha,hi⟩;right;subst z0_
  left;rcases hi x (.head _) with ⟨k,t,hkt⟩;right
  rw [hkt]
  refine wpAny_pure ⟨rfl,?_,fun e he => hi e (.tail _ he)⟩
  rw [ha.symm]
  unfold kwOf
  rw [List.filterMap_cons,hkt]
  simp
 ·left;rcases hi with ⟨z0_,ha,_⟩;right;subst z0_
  have:acc = kwOf es:=by rw [ha.symm]; simp [kwOf]
  rw [this]
  exact wpAny_pure h
end
section
variable {c:Cx} {n:Nat} {A:Around} {E:Value→Shared→Prop} {s:Shared}
theorem merged_run {f:Value} {x:Sem Value} {pos:Pos} {Q:Addr→Shared→Prop}
  (h:wpAny (model c.prog c.w) A x (fun v s₂ => ∃ a es m,v = .ref a∧s₂.heap.get? a = some (dictOf es m)∧a ≠ s.heap.objs.size∧s₂.heap.get? s.heap.objs.size = some (dictOf [] 0)∧(a == sysModules) = false∧(∀ e ∈ es,∃ k t,e.key = .str k t)∧(∀ i e,es[i]? = some e→∀ e' ∈ es.take i,∀ k t,e.key = .str k t→e'.key.isStr k = false)∧es.length ≤ 1000 ∧
   ∀ h' m',Heap.SameBut s.heap.objs.size s₂.heap h'→h'.get? s.heap.objs.size = some (dictOf es m')→Q s.heap.objs.size { s₂ with heap:=h' }) E { s with heap:=s.heap.push (dictOf [] 0) }) :
  wpAny (model c.prog c.w) A (mergedKeywords f [(none,do let v ← x; standAt pos; pure v)]) Q E s:=by
 unfold mergedKeywords
 refine wpAny_bind (wpAny_alloc ?_)
 refine wpAny_bind (wpAny_holding ?_)
 dsimp only
 refine wpAny_bind ?_
 rw [List.forIn_cons]
 refine wpAny_bind ?_
 dsimp only
 refine wpAny_bind (wpAny_pure ?_)
 refine wpAny_bind (wpAny_bind (wpAny_mono h (fun v s₂ hv => ?_) fun _ _ z => z))
 left;rcases hv with ⟨a,es,m,z0_,h1,h2,h3,h4,h5,h6,h7,h8⟩;right;subst z0_
 refine wpAny_bind (wpAny_standAt (wpAny_pure ?_))
 refine wpAny_bind (wpAny_onRaise (wpAny_holding (wpAny_tryCatch (wpAny_onRaise (merge_run h3 h1 h2 h4 h5 h6 h7 fun h' m' sb hd => ?_)))))
 refine wpAny_pure ?_
 dsimp only
 rw [List.forIn_nil]
 refine wpAny_pure (wpAny_pure (wpAny_pure ?_))
 exact h8 h' m' sb hd
end
end
section
theorem kwOf_keys {P:Params} {own:List Addr} {h:Heap}:∀ {es:List DictEntry} {kvs:List (Str × D)},RdKv P own h es kvs→(kwOf es).map (·.1) = kvs.map (·.1)∧RdAll P own h ((kwOf es).map (·.2)) (kvs.map (·.2))∧(∀ e ∈ es,∃ k t,e.key = .str k t)∧es.map (fun e => match e.key with | .str k _ => k | _ => Str.empty) = kvs.map (·.1)
 | _,_,.nil => ⟨rfl,.nil,fun _ h => by simp at h,rfl⟩
 | _,_,.cons (k:=k) (t:=t) (v:=v) (es:=es) x r => by
  left;rcases kwOf_keys r with ⟨h1,h2,h3,h4⟩;right
  have e:kwOf (⟨PyData.keyHash P k,.str k t,v⟩ :: es) = (k,v) :: kwOf es:=rfl
  rw [e]
  refine ⟨by simp [h1],.cons x h2,fun e he => ?_,by simp [h4]⟩
  rcases List.mem_cons.mp he with rfl | he
  ·exact ⟨k,t,rfl⟩
  ·exact h3 e he
theorem rdKv_pw {P:Params} {own:List Addr} {h:Heap} {es:List DictEntry} {kvs:List (Str × D)} (r:RdKv P own h es kvs):(kvs.map (·.1)).Nodup→∀ i e,es[i]? = some e→∀ e' ∈ es.take i,∀ k t,e.key = .str k t→e'.key.isStr k = false:=
 r.ind (m:=fun es kvs => (kvs.map (·.1)).Nodup→∀ i e,es[i]? = some e→∀ e' ∈ es.take i,∀ k t,e.key = .str k t→e'.key.isStr k = false) (fun _ _ _ he => nomatch he) fun k0 t0 v0 _ es kvs _ r ih hn i e he e' he' k t hk => by
  have hn':=List.nodup_cons.mp hn
  cases i with
  | zero => exact nomatch he'
  | succ i =>
   rw [List.take_succ_cons] at he'
   rcases List.mem_cons.mp he' with rfl | he'
   ·refine beq_eq_false_iff_ne.mpr fun q => hn'.1 ?_
    left;rcases kwOf_keys r with ⟨_,_,_,h4⟩;right
    rw [h4.symm]
    refine List.mem_map.mpr ⟨e,List.mem_of_getElem? he,?_⟩
    rw [hk]; exact q.symm
   ·exact ih hn'.2 i e he e' he' k t hk
section
variable {c:Cx} {n:Nat} {A:Around} {env:Env} {b:Shared} {co own:List Addr} {ad:Str→List Addr} {lo lo':List (Str × D)} {ow ow':List (Str × OwnD)} {ex:List (Str × Value)} {s s':Shared} {o:Out} {tg:PySem.Expr}
end
end
section
section
variable {c:Cx} {n:Nat}
theorem FnOk.strInst {C f:Addr} {kvs:List (Str × D)} {z:Str} (hs:findIn c.K (.ref C) "__str__" = some (some (.ref f))) (hf:isFn c.K (.ref f) = true) (F:FnOk c n (.ref f) [.inst C kvs] [] (.str z)):FnOk c (n + 1) (.type "str") [.inst C kvs] [] (.str z):=fun A E s own vs Q ao ext ok base tok r h => by
 cases r with
 | cons r1 r =>
  cases r
  have r0:=r1
  left;rcases rd_inst r1 with ⟨a,dx,es,k,z0_,I,rk⟩;right;subst z0_
  have ao1:AOk c n A.in1.in1 s.heap:=ao.step rfl (by show A.depth ≤ _; omega) (by show A.units + 1 + 1 ≤ _; omega) rfl
  refine kso_call ?_ (c.X.keeps ext) I hs hf ?_
  ·have:=ao1.units; omega
  ·refine F A.in1.in1 _ s own [.ref a] _ ao1 ext ok base tok (.cons r0 .nil) fun v s' k rv => ?_
   cases rv
   exact h _ _ k (.str _ _)
end
theorem f_strhdr {c:Cx} (h:Is c) {n:Nat} (hs:List (List Nat × List Nat)) (hl:hs.length ≤ 500) (hw:∀ p ∈ hs,p.1.length ≤ 100∧p.2.length ≤ 8000):FnOk c (n + 2) (.type "str") [hdrsD hs] [] (.str (S (joinL [13,10] (hs.map headT ++ [[],[]])))):=
 FnOk.strInst (f:=158) (by rw [h]; rfl) (by rw [h]; rfl) (f_hstr h hs hl hw)
end
section
noncomputable def PF (h:Heap):Prop:=h.get? 254 = some { cls:=.none,data:=.fields #[] }
structure KG (s s':Shared):Prop where
 keep:∀ a o,a ≠ 254→s.heap.get? a = some o→s'.heap.get? a = some o
 tab:∃ vs,s'.heap.get? 254 = some { cls:=.none,data:=.fields vs }
 os:s'.os = s.os
 gens:AllBare s'.gens
theorem KG.pre {a b d:Shared} (x:Keeps a b) (y:KG b d):KG a d:=⟨fun q o n e => y.keep q o n (Keeps.ext x q o e),y.tab,by
 left;rcases x with ⟨h,t,z0_,_⟩;right;subst z0_
 exact y.os,y.gens⟩
theorem KG.post {a b d:Shared} (x:KG a b) (y:Keeps b d):KG a d:=⟨fun q o n e => Keeps.ext y q o (x.keep q o n e),let ⟨vs,e⟩:=x.tab; ⟨vs,Keeps.ext y _ _ e⟩,by
 left;rcases y with ⟨h,t,z0_,_⟩;right;subst z0_
 exact x.os,by
 left;rcases y with ⟨h,t,z0_,_⟩;right;subst z0_
 exact x.gens⟩
theorem KG.of {a b:Shared} (x:Keeps a b) (p:PF a.heap) (g:AllBare a.gens):KG a b:=by
 left;rcases x with ⟨h,t,z0_,e⟩;right;subst z0_
 exact ⟨fun q o _ z => e q o z,⟨_,e _ _ p⟩,rfl,g⟩
theorem PF.ext {h h':Heap} (x:PF h) (e:Ext h h'):PF h':=e _ _ x
section
variable {c:Cx} {n:Nat} {A:Around} {env:Env} {b:Shared} {co own:List Addr} {ad:Str→List Addr} {lo lo':List (Str × D)} {ow ow':List (Str × OwnD)} {ex:List (Str × Value)} {s s':Shared} {o:Out} {tg:PySem.Expr}
theorem Rd.kg {P:Params} {own:List Addr} (K:KG s s') (p:PF s.heap) {v:Value} {d:D} (r:Rd P own s.heap v d):Rd P own s'.heap v d:=
 r.wr (wr:=[254]) (fun b hb => by simp at hb; subst hb; exact ⟨_,_,p,rfl⟩) fun a o na e => K.keep a o (fun z => na (by simp [z])) e
theorem Sto.kg (S:Sto c n A env b co own ad lo ow ex s) (K:KG s s') (htk:s.toks ≤ s'.toks) (p:PF s.heap) (hno:254 ∉ own) (hcH:c.H.get? 254 = none):Sto c n A env { s' with heap:=hideAll b.heap [254] } co own ad lo ow ex s':=by
 have S1:Sto c n A env { b with heap:=hideAll b.heap [254] } co own ad lo ow ex s:={ S with
  new:=fun a ha => (S.new a ha).imp id fun z => none_of_ext (fun a o e => of_hideAll _ e) z
  keep:=by
   left;rcases S.keep with ⟨h',tk,e,k⟩;right
   exact ⟨h',tk,e,fun a o q => k _ _ (of_hideAll _ q)⟩ }
 have S2:=S1.wr (wr:=[254]) (h':=s'.heap) (tk:=s'.toks) (fun b hb => by simp at hb; subst hb; exact ⟨_,_,p,rfl⟩) (fun a o na e => K.keep a o (fun z => na (by simp [z])) e) (fun a ha => by simp at ha; subst ha; exact ⟨hno,hcH,hideAll_none _ (by simp)⟩) htk
 exact {
  sit:=⟨S2.sit.ek,S2.sit.ao,S2.sit.ext,S2.sit.ok,S2.sit.base,S2.sit.tok,S2.sit.names⟩
  coIn:=S2.coIn
  new:=S2.new
  keep:=⟨s'.heap,s'.toks,rfl,have k:=Keeps.ext S2.keep; fun a o e => k a o e⟩
  loc:=S2.loc
  cell:=S2.cell
  cells:=S2.cells
  exact:=S2.exact
  owns:=S2.owns
  apart:=S2.apart }
end
noncomputable def GPack (prog:Program) (w:World) (A:Around) (a L:Addr) (h0:Heap) (tx:Nat→Str) (n:Nat) (s:Shared):Prop:=
 ∃ fp wr g St,WalksS prog w A.in4 a fp wr (GenOnlyQ g) (passing (fun _ => true) n 0).length (fun j y => ∃ i,(passing (fun _ => true) n 0)[j]? = some i∧∃ t,y = .str (tx i) t) St∧St 0 s∧(∀ i s',St i s'→s'.TypeIs (.ref a) "generator")∧a ∈ fp∧(∀ b ∈ fp,∃ o,s.heap.get? b = some o)∧(∀ b ∈ wr,h0.get? b = none)∧L ∉ fp
theorem GPack.keep {prog:Program} {w:World} {A:Around} {a L:Addr} {h0:Heap} {tx:Nat→Str} {n:Nat} {s:Shared} {h':Heap} {tk:Nat} (x:GPack prog w A a L h0 tx n s) (ht:s.toks ≤ tk) (k:∀ b o,b ≠ L→s.heap.get? b = some o→h'.get? b = some o):GPack prog w A a L h0 tx n { s with heap:=h',toks:=tk }:=by
 left;rcases x with ⟨fp,wr,g,St,W,h1,h2,h3,h4,h5,h6⟩;right
 exact ⟨fp,wr,g,St,W,W.frame 0 s h' tk h1 ht fun b hb o e => k b o (fun z => h6 (z ▸ hb)) e,h2,h3,fun b hb => (h4 b hb).imp fun o e => k b o (fun z => h6 (z ▸ hb)) e,h5,h6⟩
theorem passing_all (n:Nat):passing (fun _ => true) n 0 = List.range n:=by
 unfold passing
 simp
end
section
section
variable {c:Cx} {A:Around} {E:Value→Shared→Prop} {s:Shared} {env:Env}
set_option tactic.hygienic true in
theorem elt_run {cenv:Env} {px p1 p2 p3 p4 p5:Pos} {k0:Nat} {v:Value} {m:Str→Option Value} {i:Int} {r:List D} {P:Params} {own:List Addr} (hkind:cenv.scope.kind = .function) (hk:cenv.kindOf "tup" = some .local) (hks:cenv.kindOf "str" = some .globalImplicit) (hn:s.heap.Ns cenv.locals m) (hm:m "tup" = some v)
  (hg:s.heap.Ns cenv.globals c.mg) (hmg:c.mg "str" = none) (hb:s.heap.Ns cenv.builtins c.mb) (hmb:c.mb "str" = some (.type "str")) (rd:Rd P own s.heap v (.tup (.int i :: r))) (hl:r.length ≤ 1000) (hi:small i = true) :
  wpAny (model c.prog c.w) A (eval (.Call (.Name "str" p1) [.Subscript (.Name "tup" p2) (.Constant (.int 0) k0 p3) p4] [] p5) cenv) (fun y s₃ => (∃ t,y = .str (Str.ofString (toString i)) t)∧Keeps s s₃) E s:=by
 refine PyProof.Rows.Call_ (Name_function_global hkind hks (loadGlobal_builtin hg hmg hb hmb ?_) (by decide))
 refine callWith_of (P:=fun _ => True) rfl (fun h' _ => ⟨.machine,.inr (.inl rfl),Looks.of_pure rfl⟩) (evalArgs_plain ?_)
 left;rcases rd.tup_inv with ⟨a,o,nn,vs,z0_,ea,ca,da,xa⟩;right;subst z0_
 cases xa with
 | cons x1 xa =>
  cases x1 with
  | int _ t =>
   rename_i vs
   have hlen:=xa.length
   have ht:IsTup s.heap a (Value.int i t :: vs).toArray:=⟨_,ea,ca,_,da⟩
   refine spliced_cons ?_
   refine PyProof.Rows.Subscript_ (wpAny_Name (wpAny_loadName_local hkind hk hn hm ?_) (by decide))
   refine wpAny_Constant_int ?_
   unfold PyProof.Rows.subscriptTail
   have hT:(({ s with toks:=s.toks + 1 }:Shared)).TypeIs (.ref a) "tuple" := ⟨_,ea,ca⟩
   refine wpAny_bind ?_
   rw [getitemInPython_of_ne hT.not_modules]
   refine wpAny_bind (wpAny_specialOf hT F.slot_tuple_getitem.lookup ?_)
   refine wpAny_pure ?_
   show wpAny (model c.prog c.w) A (operate [.ref a,.int 0 s.toks] (getItem (.ref a) (.int 0 s.toks)) >>= _) _ E _
   refine wpAny_bind (wpAny_operating (PyProof.Rows.getItem_tuple (j:=0) (x:=.int i t) ht (by decide) (by decide) (idx_seq (idx_pos (by decide) (by simp))) (by simp) ?_))
   refine wpAny_bind (wpAny_letTemporaryGo (wpAny_pure ?_))
   refine spliced_nil ⟨trivial,?_⟩
   have h':i.natAbs < 2 ^ 60:=of_decide_eq_true hi
   refine PySem.P.str_of_int ?_ ⟨⟨_,rfl⟩,keeps_toks _ _⟩
   by_cases z:i.natAbs = 0
   ·rw [z]; decide
   ·exact Nat.lt_of_lt_of_le ((Nat.log2_lt z).mpr h') (by decide)
theorem gen_made {elt:PySem.Expr} {px pw pos:Pos} {p1 p2 p3 p4 p5:Pos} {k0:Nat} {scope:Scope} {l:Addr} {k:Nat} {ws:List Value} {ds:List D} {is:List Int} {P:Params} {own:List Addr} {bm:Addr} {ob:Obj} {Q:Value→Shared→Prop}
  (helt:elt = .Call (.Name "str" p1) [.Subscript (.Name "tup" p2) (.Constant (.int 0) k0 p3) p4] [] p5)
  (hh:A.handled = none) (hroom:A.depth < recursionLimit) (hcode:env.code = .ref 258) (hgl:env.globals = mainGlobals) (hbl:env.builtins = builtinsNs) (hco:scope.isCoroutine = false) (hclos:closureFor scope env = pure []) (hcell:∀ y ∈ scope.names,y.2 ≠ .cell) (h0:scope.names.lookup (".0":Str) = some NameKind.local)
  (hx:scope.names.lookup (Str.ofString "tup") = some NameKind.local) (hxs:scope.names.lookup (Str.ofString "str") = some NameKind.globalImplicit) (hkind:scope.kind = .function) (hs:∀ x,genFold (.Name "w" pw) env x = pure x)
  (hM:BMod c.H mainGlobals c.mg bm ob) (hmg:c.mg "str" = none) (hmb:c.mb "str" = some (.type "str")) (ext:Ext c.H s.heap) (hcH:c.H.get? 254 = none) (hG:AllBare s.gens) (hP:PF s.heap)
  (hcd:s.heap.IsCode 258 254 #[]) (htab:s.heap.TableAt 258 254 #[]) (hnl:s.heap.NoLimit) (ek:env.scope.kind = .function) {L:Addr} (hL:L < s.heap.objs.size) (hLo:∃ o es ep,s.heap.get? L = some o∧o.data = .dict es ep) (hLs:L ≠ cStatics) (hLg:L ≠ mainGlobals) (hLb:L ≠ builtinsNs)
  (hw:NameIs env s.heap "w" (.ref l)) {ol:Obj} (hl:s.heap.get? l = some ol) (hlc:ol.cls = .type "list") (hld:ol.data = .seq ws.toArray k) (r:RdAll P own s.heap ws ds) (hlen:ds.length = is.length) (hds:∀ i d,ds[i]? = some d→∃ x y,d = .tup [.int (is.getD i 0),.int x,.int y]∧small (is.getD i 0) = true)
  (h:∀ a s5,(∀ b o,b ≠ 254→s.heap.get? b = some o→s5.heap.get? b = some o)→KG s s5→s.toks ≤ s5.toks→s.heap.objs.size ≤ s5.heap.objs.size→s.heap.get? a = none→GPack c.prog c.w A a L s.heap (fun i => Str.ofString (toString (is.getD i 0))) is.length s5→Q (.ref a) s5) :
  wpAny (model c.prog c.w) A (eval (.GeneratorExp elt [⟨.Name "tup" px,.Name "w" pw,[],0⟩] scope pos) env) Q E s:=by
 have hl':s.heap.IsList l ws.toArray:=⟨_,hl,hlc,_,hld⟩
 have hlt:=Heap.lt_size hl
 have hlL:l ≠ L:=fun z => by
  subst z
  left;rcases hLo with ⟨o,_,_,ho,hc⟩;right
  rw [hl] at ho; cases ho; rw [hld] at hc; cases hc
 have hl254:l ≠ 254:=fun z => by
  subst z
  have hP':s.heap.get? 254 = _:=hP
  rw [hl] at hP'; cases hP'; cases hlc
 have h254:=Heap.lt_size hP
 refine wpAny_with_toks (Nat.le_refl s.toks) ?_
 refine wpAny_GeneratorExp_make hco hclos hcell h0 hkind hroom ?_ hs
 refine wpAny_Name (nameIs_load ⟨ek,hgl,hbl⟩ hw (by decide) ?_) (by decide)
 refine wpAny_pyIter_list hl' ?_
 refine ⟨hnl.push _,?_⟩
 refine wpAny_genexprCodeX hcode (hcd.push _) (htab.push _) rfl fun c' h₃ tk₃ hx₃ hge hlt3 hcode₃ _ htab₃ _ => ?_
 have hsz2:(s.heap.push { cls:=.type "list_iterator",data:=.fields #[.ref l,.int 0 0] }).objs.size = s.heap.objs.size + 1:=Heap.size_push ..
 have hN:s.heap.objs.size + 1 < h₃.objs.size:=by rw [← hsz2]; exact Nat.lt_of_le_of_lt hge hlt3
 have szlt:s.heap.objs.size < h₃.objs.size:=Nat.lt_trans (Nat.lt_succ_self _) hN
 have lt3:∀ b:Addr,b < s.heap.objs.size→b < h₃.objs.size:=fun b hb => Nat.lt_trans hb szlt
 have e3:∀ b o,b ≠ 254→s.heap.get? b = some o→h₃.get? b = some o:=fun b o hb e => hx₃ b o hb (Heap.get?_push_of_some _ e)
 have eH:∀ b o,c.H.get? b = some o→h₃.get? b = some o:=fun b o e => e3 b o (fun z => by subst z; rw [hcH] at e; cases e) (ext b o e)
 have M₃:=hM.keeps eH
 refine wpAny_builtinsFor (m:=c.mg) (bm:=bm) (o:=ob) (by rw [hgl]; exact M₃.ns) M₃.name M₃.ne M₃.obj M₃.cls M₃.dict M₃.data ?_
 intro h' hn' hs'
 dsimp only at hn' hs' ⊢
 have hcP:cStatics ≠ 254:=fun e => by
  left;rcases hnl with ⟨_,hns,_⟩;right
  left;rcases hns with ⟨o,es,ep,ho,hd,_⟩;right
  have hP':s.heap.get? 254 = _:=hP
  rw [e,hP'] at ho; cases ho; cases hd
 have hl₃:h₃.NoLimit:=(hnl.push _).extBut hx₃ hcP
 have hclt:cStatics < h₃.objs.size:=let ⟨_,hn,_⟩:=hl₃; hn.lt
 have hsz:h'.objs.size = h₃.objs.size + 1:=by rw [hs'.1,Heap.size_push]
 have keep':∀ b o,h₃.get? b = some o→h'.get? b = some o:=fun b o e => hs'.extBut b o (Nat.ne_of_lt (Heap.lt_size e)) (Heap.get?_push_of_some _ e)
 have keep5:∀ (g:Obj) b o,h₃.get? b = some o→(h'.push g).get? b = some o:=fun g b o e => Heap.get?_push_of_some _ (keep' b o e)
 let fp0:List Addr:=(List.range h₃.objs.size).filter fun q => q != L && (h₃.get? q).isSome
 have inFp:∀ b o,h₃.get? b = some o→b ≠ L→b ∈ fp0:=fun b o hb hn => List.mem_filter.mpr ⟨List.mem_range.mpr (Heap.lt_size hb),by simp [hb,hn]⟩
 have fpOb:∀ b ∈ fp0,∃ o,h₃.get? b = some o:=fun b hb => by
  have:=(List.mem_filter.mp hb).2
  exact Option.isSome_iff_exists.mp (Bool.and_eq_true_iff.mp this).2
 have fpLt:∀ b ∈ fp0,b < h₃.objs.size:=fun b hb => List.mem_range.mp (List.mem_filter.mp hb).1
 have hI:s.heap.objs.size ≠ L:=Nat.ne_of_gt hL
 have hItr:h₃.get? s.heap.objs.size = some { cls:=.type "list_iterator",data:=.fields #[.ref l,.int 0 0] }:=hx₃ _ _ (Nat.ne_of_gt h254) (Heap.get?_push_size _ rfl)
 have hIs:(s.heap.get? s.heap.objs.size) = none:=none_size _
 have none3:∀ q,s.heap.objs.size ≤ q→s.heap.get? q = none:=fun q hq => by
  cases z:s.heap.get? q with
  | none => rfl
  | some o => exact absurd (Heap.lt_size z) (Nat.not_lt.mpr hq)
 have hlist3:h₃.IsList l ws.toArray:=⟨_,e3 _ _ hl254 hl,hlc,_,hld⟩
 have W₀:∀ A':Around,A'.handled = none→Walks c.prog c.w A' s.heap.objs.size fp0 [s.heap.objs.size] is.length (fun i v => ws.toArray[i]? = some v) (fun i h => h.IsListIter s.heap.objs.size l i∧h.IsList l ws.toArray):=fun A' hA => by
  have z:=(Walks.list (prog:=c.prog) (w:=c.w) hA s.heap.objs.size l (Nat.ne_of_lt hlt) ws.toArray).mono_fp (fp':=fp0) fun b hb => by
   simp at hb
   rcases hb with rfl | rfl
   ·exact inFp _ _ hItr hI
   ·exact inFp _ _ (e3 _ _ hl254 hl) hlL
  have e:ws.toArray.size = is.length:=by simp [r.length,hlen]
  rw [e] at z; exact z
 have quiet:∀ href:Heap,(∀ b o,h₃.get? b = some o→href.get? b = some o)→QuietGen c.prog c.w (genEnv scope [] h₃.objs.size (.ref c') builtinsNs env) "tup" [] elt fp0 [s.heap.objs.size] (fun i v => ws.toArray[i]? = some v) (fun _ => true) (fun i y => ∃ t,y = .str (Str.ofString (toString (is.getD i 0))) t) href:=fun href hh3 => {
  tests:=fun A' E' i v s₂ m₂ _ _ _ _ _ => by
   rw [List.forIn_nil]
   exact wpAny_pure ⟨rfl,Keeps.refl' _⟩
  elt:=fun A' E' i v s₂ m₂ hA hv _ hn hm hk => by
   have kk:∀ b o,b ≠ L→b ≠ 254→s.heap.get? b = some o→s₂.heap.get? b = some o:=fun b o n1 n2 e => hk b (inFp b _ (e3 b o n2 e) n1) (by
    have:=Nat.ne_of_lt (Heap.lt_size e)
    simpa using this) o (hh3 _ _ (e3 b o n2 e))
   have hv':ws[i]? = some v:=by simpa using hv
   have hi:i < ds.length:=by rw [← r.length]; exact (List.getElem?_eq_some_iff.mp hv').1
   left;rcases hds i ds[i] (List.getElem?_eq_getElem hi) with ⟨x,y,hd,hsm⟩;right
   left;rcases r.get (List.getElem?_eq_getElem hi) with ⟨v2,hv2,rd⟩;right
   rw [hv'] at hv2; cases hv2
   rw [hd] at rd
   have rd2:Rd P [L,254] s.heap v (.tup [.int (is.getD i 0),.int x,.int y]):=rd.flat rfl
   have okL:OwnOk [L,254] s.heap:=fun q hq => by
    simp at hq
    rcases hq with rfl | rfl
    ·left;rcases hLo with ⟨o,_,_,ho,hc⟩;right
     exact ⟨o,ho,fun z => by
      left;rcases z with ⟨_,_,_,z⟩;right
      rw [hc] at z; cases z⟩
    ·exact ⟨_,hP,fun z => by cases z.1⟩
   have rd3:Rd P [L,254] s₂.heap v (.tup [.int (is.getD i 0),.int x,.int y]):=rd2.keep okL fun b o nb e => kk b o (fun z => nb (by simp [z])) (fun z => nb (by simp [z])) e
   have eH2:∀ b o,b ≠ L→c.H.get? b = some o→s₂.heap.get? b = some o:=fun b o n1 e => kk b o n1 (fun z => by subst z; rw [hcH] at e; cases e) (ext b o e)
   subst helt
   have g1:s₂.heap.Ns mainGlobals c.mg:=by
    left;rcases c.T.g with ⟨o,es,ep,q1,q2⟩;right
    exact ⟨o,es,ep,eH2 _ _ (Ne.symm hLg) q1,q2⟩
   have g2:s₂.heap.Ns builtinsNs c.mb:=by
    left;rcases c.T.b with ⟨o,es,ep,q1,q2⟩;right
    exact ⟨o,es,ep,eH2 _ _ (Ne.symm hLb) q1,q2⟩
   exact elt_run (px:=p1) (c:=c) (cenv:=genEnv scope [] h₃.objs.size (.ref c') builtinsNs env) hkind hx hxs hn hm (by show s₂.heap.Ns env.globals _; rw [hgl]; exact g1) hmg g2 hmb rd3 (by simp) hsm }
 have haC:h'.objs.size ≠ h₃.objs.size:=by rw [hsz]; exact Nat.succ_ne_self _
 have haf:h'.objs.size ∉ fp0:=fun hm => absurd (fpLt _ hm) (by rw [hsz]; exact Nat.not_lt.mpr (Nat.le_succ _))
 have W:=WalksS.genexpQ (prog:=c.prog) (w:=c.w) (A:=A.in4) hh h'.objs.size s.gens.size h₃.objs.size fp0 [s.heap.objs.size] (fun _ => true) is.length (fun i y => ∃ t,y = .str (Str.ofString (toString (is.getD i 0))) t) haC haf (fun b hb => by
  simp at hb; subst hb; exact inFp _ _ hItr hI) hroom (let ⟨_,⟨o,_,_,ho,_⟩,_⟩:=hl₃; inFp _ o ho (Ne.symm hLs)) (Nat.ne_of_lt hclt) (by
  have:cStatics < s.heap.objs.size:=let ⟨_,hn,_⟩:=hnl; hn.lt
  simpa using Nat.ne_of_lt this)
 have G0:=fun (hq:Heap) (gs:Array GenState) (tk:Nat) (hgen:hq.IsGen h'.objs.size s.gens.size) (hgs:gs[s.gens.size]? = some (.fresh (.compStart (.GeneratorExp elt [⟨.Name "tup" px,.Name "w" pw,[],0⟩] scope pos) 0 (.ref s.heap.objs.size) .none (genEnv scope [] h₃.objs.size (.ref c') builtinsNs env)))) (hk:∀ b o,h₃.get? b = some o→hq.get? b = some o) (hnq:hq.Ns h₃.objs.size (fun y => if y = ".0" then some (.ref s.heap.objs.size) else none)) =>
  GenAt.fresh (A:=A.in4) (prog:=c.prog) (w:=c.w) (s:={ s with heap:=hq,gens:=gs,toks:=tk }) (cenv:=genEnv scope [] h₃.objs.size (.ref c') builtinsNs env) (m:=fun y => if y = ".0" then some (.ref s.heap.objs.size) else none) hh W₀ (fun _ => true) (fun i y => ∃ t,y = .str (Str.ofString (toString (is.getD i 0))) t) hx (by simp [genEnv,hkind]) hco (fun hm => Nat.lt_irrefl _ (fpLt _ hm)) (quiet _ hk) hgen hgs ((W₀ A hh).frame 0 _ _ ⟨⟨_,hItr,rfl,rfl⟩,hlist3⟩ fun b _ o e => hk b o e) hnq (hl₃.keeps hk)
 intro htk
 have hpsz:∀ g:Obj,(h'.push g).objs.size = h'.objs.size + 1:=fun g => Heap.size_push ..
 refine h _ _ (fun b o hb e => keep5 _ b o (e3 b o hb e)) ⟨fun b o hb e => keep5 _ b o (e3 b o hb e),⟨_,keep5 _ _ _ htab₃.2⟩,rfl,hG.push rfl⟩ htk ?_ (none3 _ (by rw [hsz]; exact Nat.le_of_lt (Nat.lt_trans szlt (Nat.lt_succ_self _)))) ⟨_,_,_,_,W,G0 _ _ _ ⟨_,_,_,Heap.get?_push_size _ rfl,rfl,rfl,rfl⟩ (Array.getElem?_push_size ..) (keep5 _) (hn'.push _),(fun i s' st => st.1.typeIs),List.mem_cons_self,?_,?_,?_⟩
 ·dsimp only
  rw [hpsz,hsz]
  exact Nat.le_of_lt (Nat.lt_trans szlt (Nat.lt_trans (Nat.lt_succ_self _) (Nat.lt_succ_self _)))
 ·intro b hb
  rcases List.mem_cons.mp hb with rfl | hb
  ·exact ⟨_,Heap.get?_push_size _ rfl⟩
  ·rcases List.mem_cons.mp hb with rfl | hb
   ·left;rcases hn' with ⟨o,_,_,ho,_⟩;right
    exact ⟨o,Heap.get?_push_of_some _ ho⟩
   ·obtain ⟨o,ho⟩:=fpOb b hb
    exact ⟨o,keep5 _ _ _ ho⟩
 ·intro b hb
  simp at hb
  rcases hb with rfl | rfl
  ·exact none3 _ (Nat.le_of_lt szlt)
  ·exact none_size _
 ·intro hm
  rcases List.mem_cons.mp hm with z | hm
  ·exact absurd (z ▸ hL) (Nat.not_lt.mpr (by rw [hsz]; exact Nat.le_of_lt (Nat.lt_trans szlt (Nat.lt_succ_self _))))
  ·rcases List.mem_cons.mp hm with z | hm
   ·exact absurd (z ▸ hL) (Nat.not_lt.mpr (Nat.le_of_lt szlt))
   ·have:=(List.mem_filter.mp hm).2
    simp at this
end
end
section
section
variable {c:Cx} {n:Nat} {A:Around} {env:Env} {b:Shared} {co own:List Addr} {ad:Str→List Addr} {lo lo':List (Str × D)} {ow ow':List (Str × OwnD)} {ex:List (Str × Value)} {s s':Shared} {o:Out} {tg:PySem.Expr}
noncomputable def FnG (c:Cx) (n:Nat) (f:Value) (ds:List D) (d:D):Prop:=
 ∀ (A:Around) (E:Value→Shared→Prop) (s:Shared) (own:List Addr) (vs:List Value) (Q:Value→Shared→Prop),AOk c n A s.heap→Ext c.H s.heap→OwnOk own s.heap→(∀ a ∈ own,c.H.get? a = none)→1 ≤ s.toks→AllBare s.gens→PF s.heap→254 ∉ own →
  RdAll c.w.params own s.heap vs ds→(∀ v s',KG s s'→s.toks ≤ s'.toks→Rd c.w.params own s'.heap v d→Q v s')→wpAny (model c.prog c.w) A (call f vs) Q E s
noncomputable def ExG (c:Cx) (n:Nat) (env:Env) (ex:List (Str × Value)) (st:List Stmt) (lo:List (Str × D)) (ow:List (Str × OwnD)) (d:D):Prop:=
 ∀ (A:Around) (E:Value→Shared→Prop) (b:Shared) (co:List Addr) (s:Shared),SO c n A env b co lo ow ex s→AllBare b.gens→PF b.heap→254 ∉ co→wpAny (model c.prog c.w) A (execs st env) (fun fl s' => ∃ v,fl = .ret v∧Rd c.w.params co s'.heap v d∧KG b s') E s
theorem ExG.of {st:List Stmt} {d:D} (x:Ex c n env ex st lo ow (.ret d)):ExG c n env ex st lo ow d:=fun A E b co s S hG hP hno =>
 wpAny_mono (x A E b co s S) (fun fl s' h => by
  left;rcases h with ⟨v,z0_,r,k⟩;right;subst z0_
  exact ⟨v,rfl,r,KG.of k hP hG⟩) fun _ _ z => z
theorem ExG.cons {st:Stmt} {rest:List Stmt} {d:D} (x:Ex1 c n env ex st lo ow (.next lo' ow')) (y:ExG c n env ex rest lo' ow' d):ExG c n env ex (st :: rest) lo ow d:=fun A E b co s S hG hP hno =>
 wpAny_execs_cons (wpAny_mono (x A E b co s S) (fun fl s' h => by
  obtain ⟨rfl,h⟩:=h
  exact y A E b co s' h hG hP hno) fun _ _ z => z)
theorem Sto.no254 (S:Sto c n A env b co own ad lo ow ex s) (hP:PF b.heap) (hno:254 ∉ co):254 ∉ own:=fun h => (S.new 254 h).elim hno fun z => by
 have hP':b.heap.get? 254 = _:=hP
 rw [z] at hP'; cases hP'
theorem Sto.pf (S:Sto c n A env b co own ad lo ow ex s) (hP:PF b.heap):PF s.heap:=Keeps.ext S.keep _ _ hP
theorem Sto.bare (S:Sto c n A env b co own ad lo ow ex s) (hG:AllBare b.gens):AllBare s.gens:=by
 left;rcases S.keep with ⟨h,t,z0_,_⟩;right;subst z0_
 exact hG
variable {name qual:Str} {params:Arguments} {body:List Stmt} {scope:Scope} {dV kV doc pm cdv ct oc:Value} {an od:Option Addr} {osl:Array (Option Value)} {f:Addr}
theorem FnG.def {ds:List D} {N:List Str} {ds0:List D} {d:D} (ho:c.K.lookup f = some ⟨oc,od,.func (fnOf name qual params body scope dV kV doc pm an cdv ct),osl⟩) (hcd:codeIn c.K cdv qual = true)
  (hb:∀ (s:Shared) (own:List Addr) (vs:List Value),Ext c.H s.heap→RdAll c.w.params own s.heap vs ds→∃ B:List (Str × Value),BindsTo s (fnOf name qual params body scope dV kV doc pm an cdv ct) ⟨vs,([]:List (Str × Bool)).map fun p => (p.1,.bool p.2)⟩ B∧B.map (·.1) = N∧RdAll c.w.params own s.heap (B.map (·.2)) ds0)
  (hN:N.Nodup) (hk:N.all (fun y => scope.names.lookup y == some .local || scope.names.lookup y == some .cell) = true)
  (hbody:∀ L,ExG c n (envOfC qual scope L f cdv) [] body (N.zip ds0) [] d)
  (hco:autoParam (scope.isCoroutine = false) byRfl) (hgen:autoParam (scope.isGenerator = false) byRfl) (hkind:autoParam (scope.kind = .function) byRfl):FnG c (n + 1) (.ref f) ds d:=fun A E s own vs Q ao ext ok base tok hG hP hno r h => by
 left;rcases hb s own vs ext r with ⟨B,hbind,z0_,rB⟩;right;subst z0_
 have hk':∀ m,∀ x ∈ B,scope.names.lookup x.1 = some .local ∨ (scope.names.lookup x.1 = some .cell∧((cellsFrom m scope.names []).lookup x.1).isSome = true):=kindsX (binds:=B) (by
  rw [List.all_eq_true] at hk ⊢
  exact fun x hx => hk x.1 (List.mem_map_of_mem hx))
 have X:c.K.In s.heap:=c.X.keeps ext
 refine wpAny_call (codeAny_with_toks (Nat.le_refl s.toks) (codeAny_call_function (by have:=ao.depth; omega) (X _ _ ho) rfl hco hgen rfl (codeRec_of X hcd) (hbind _ _ _ _ ?_)))
 refine wpAny_with_toks (Nat.le_refl s.toks) (wpAny_newFunctionEnv_cells hkind (hk' _) fun env he s' x htk => ?_)
 subst he
 refine ⟨(c.T.nolimit.keeps ext).keeps x.toInCall.keep,codeAny_func ?_⟩
 have S:=entry_sto (n:=n) (qual:=qual) (f:=f) (cdv:=cdv) ao ext ok base tok htk hkind hN (hk' _) (fun y d e => zip_lookup rB e) (ex0:=[]) (fun y v e => by simp at e) x
 refine wpAny_mono (hbody _ _ _ s own s' S hG hP hno) (fun fl s'' ho hts => ?_) fun _ _ z => z
 left;rcases ho with ⟨v,z0_,rv,kk⟩;right;subst z0_
 exact h v s'' kk hts rv
structure GCx (c:Cx):Prop where
 h254:c.H.get? 254 = none
 bm:∃ bm ob,BMod c.H mainGlobals c.mg bm ob
 strg:c.mg "str" = none
 strb:c.mb "str" = some (.type "str")
theorem code258 {c:Cx} (h:Is c):∃ o vs,c.K.lookup 258 = some o∧o.cls = .type "code"∧o.data = .fields vs∧vs[11]? = some (.ref 254)∧vs.getD 11 .none = .ref 254∧(∃ file tf,vs.getD 18 .none = .str file tf)∧(∃ fl tg,vs.getD 7 .none = .int fl tg)∧(∃ q,vs.getD 9 .none = .bool q)∧(∃ x tt,vs.getD 10 .none = .int x tt):=by
 rw [h]
 exact ⟨_,_,rfl,rfl,rfl,rfl,rfl,⟨_,_,rfl⟩,⟨_,_,rfl⟩,⟨_,rfl⟩,⟨_,_,rfl⟩⟩
theorem isCode258 {c:Cx} (h:Is c) {hp:Heap} (X:c.K.In hp) (hP:PF hp):hp.IsCode 258 254 #[]∧hp.TableAt 258 254 #[]:=by
 left;rcases code258 h with ⟨o,vs,e1,e2,e3,e4,e5,⟨file,tf,e6⟩,⟨fl,tg,e7⟩,⟨q,e8⟩,⟨x,tt,e9⟩⟩;right
 have g:=X _ _ e1
 exact ⟨⟨o,vs,file,tf,fl,tg,q,x,tt,_,g,e3,e5,e6,e7,e8,e9,hP,rfl,(by first | exact trivial | decide | simp [TriplesOk]),by decide⟩,⟨⟨o,vs,g,e2,e3,e4⟩,hP⟩⟩
end
end
section
section
variable {c:Cx} {n:Nat} {A:Around} {env:Env} {b:Shared} {co own:List Addr} {ad:Str→List Addr} {lo lo':List (Str × D)} {ow ow':List (Str × OwnD)} {ex:List (Str × Value)} {s s':Shared} {o:Out}
theorem Sto.storeL (S:Sto c n A env b co own ad lo ow ex s) {E:Value→Shared→Prop} {x:Str} {v:Value} {d:D} {Q:Unit→Shared→Prop} (hk:env.kindOf x = some .local) (how:ow.lookup x = none) (hex:ex.lookup x = none) (rd:Rd c.w.params own s.heap v d)
  (h:∀ h' tk,Heap.SameBut env.locals s.heap h'→s.toks ≤ tk→Sto c n A env b co own ad ((x,d) :: lo) ow ex { s with heap:=h',toks:=tk }→Q () { s with heap:=h',toks:=tk }):wpAny (model c.prog c.w) A (storeName env x v) Q E s:=by
 left;rcases S.loc with ⟨⟨m,hm⟩,hLo,hLc⟩;right
 refine wpAny_storeName_local hk hm (fun h' hn hs => ?_) (by rw [S.sit.ek.kind]; rfl)
 have hn':=hn
 left;rcases hn' with ⟨o,es,ep,g1,g2,_,_⟩;right
 have T:=S.turn (x:=x) (v:=v) (tk:=s.toks + 1) (Nat.le_succ _) hLo hLc hs g1 (fun vs z => by rw [g2] at z; cases z) (fun vs k z => by rw [g2] at z; cases z)
  (fun y w e hm => by left;rcases S.owns y w e with ⟨_,_,_,z⟩;right; exact (z _ hm).2.2 rfl)
  (.inl ⟨hk,_,hn,by simp⟩)
  (fun y u hyx e => by
   rcases e with ⟨a,m',b',d'⟩ | ⟨a,q,b',d'⟩
   ·have:=ns_unique b' hm; subst this
    exact .inl ⟨a,_,hn,by simp [hyx,d']⟩
   ·exact .inr ⟨a,q,b',d'.sameBut hs (fun z => by
     subst z
     left;rcases d' with ⟨o1,x1,x2⟩;right
     left;rcases hm with ⟨o2,_,_,x3,x4,_,_⟩;right
     rw [x1] at x3; cases x3; rw [x2] at x4; cases x4)⟩)
  ⟨_,hn⟩
  (fun y a ke k l => by
   left;rcases S.cell y a ke k l with ⟨⟨u,hu⟩,_⟩;right
   exact ⟨u,hu.sameBut hs (fun z => by
     subst z
     left;rcases hu with ⟨o1,x1,x2⟩;right
     left;rcases hm with ⟨o2,_,_,x3,x4,_,_⟩;right
     rw [x1] at x3; cases x3; rw [x2] at x4; cases x4)⟩)
  how hex
 exact h h' (s.toks + 1) hs (Nat.le_succ _) (T.1 d rd)
theorem GPack.k2 {prog:Program} {w:World} {A:Around} {a L:Addr} {h0:Heap} {tx:Nat→Str} {n:Nat} {s s':Shared} (x:GPack prog w A a L h0 tx n s) (k:K2 s s'):GPack prog w A a L h0 tx n s':=by
 left;rcases k with ⟨⟨h,t,z0_,e⟩,ht⟩;right;subst z0_
 exact x.keep ht fun b o _ q => e b o q
end
theorem range_map_getD {α:Type} (is:List Int) (f:Int→α):(List.range is.length).map (fun i => f (is.getD i 0)) = is.map f:=by
 apply List.ext_getElem?
 intro j
 by_cases hj:j < is.length
 ·simp [hj,List.getD_eq_getElem?_getD]
 ·simp [hj]
section
variable {c:Cx} {n:Nat} {A:Around} {env:Env} {E:Value→Shared→Prop} {s:Shared}
theorem join_gpack {sep:Str} {t:Tok} {a L:Addr} {h0:Heap} {is:List Int} {Q:Value→Shared→Prop} (G:GPack c.prog c.w A a L h0 (fun i => Str.ofString (toString (is.getD i 0))) is.length s) (hb:AllBare s.gens) (hl:is.length ≤ 700) (hs:sep.length ≤ 10) (hsz:∀ i ∈ is,(Str.ofString (toString i)).length ≤ 100)
  (h:∀ s' t',(∀ b o,s.heap.get? b = some o→(∃ o,h0.get? b = some o)→s'.heap.get? b = some o)→s'.os = s.os→AllBare s'.gens→Q (.str (Txt.join sep (is.map fun i => Str.ofString (toString i))) t') s') :
  wpAny (model c.prog c.w) A (call (.builtin "str.join") [.str sep t,.ref a]) Q E s:=by
 left;rcases G with ⟨fp,wr,g,St,W,hst,hT,ha,hfp,hwr,hL⟩;right
 have W:=W.in4_2
 have hn:(passing (fun _ => true) is.length 0).length = is.length:=by rw [passing_all]; simp
 refine SC.joinGen W hT hst (fun b hb => let ⟨o,e⟩:=hfp b hb; Heap.lt_size e) ha (fun j v hv => let ⟨i,_,u,e⟩:=hv; ⟨_,u,e⟩) (fun s' l hm hacc => ?_) (by rw [hn]; have:sizeLine = 16777216:=rfl; omega)
 have hl2:l.map (·.1) = is.map fun i => Str.ofString (toString i):=by
  rw [← range_map_getD is fun i => Str.ofString (toString i)] at ⊢
  apply List.ext_getElem?
  intro j
  have hsz:l.length = is.length:=by
   have:=hacc.1
   rw [hn] at this
   simpa [strValues] using this
  by_cases hj:j < is.length
  ·have hj':j < l.length:=hsz ▸ hj
   left;rcases hacc.2 j (.str l[j].1 l[j].2) (by simp [strValues,List.getElem?_eq_getElem hj']) with ⟨i,hi,u,hv⟩;right
   rw [passing_all,List.getElem?_range hj] at hi
   cases hi
   injection hv with h1 _
   simp [List.getElem?_eq_getElem hj',hj,h1]
  ·rw [List.getElem?_eq_none (by simpa [hsz] using Nat.le_of_not_lt hj),List.getElem?_eq_none (by simpa using Nat.le_of_not_lt hj)] at ⊢
 rw [hl2]
 refine ⟨?_,fun t' k => h { s' with toks:=k } t' (fun b o e he => hm.heap b o (fun hw => ?_) e) hm.os (have z:AllBare s'.gens:=hb.movedS hm; z)⟩
 ·unfold JoinOk
  have h3:(is.map fun i => Str.ofString (toString i)).length ≤ 700:=by simpa using hl
  have h4:=Nat.mul_le_mul h3 hs
  rw [StrLaws.joinFits (B:=100) (fun y hy => let ⟨i,hi,e⟩:=List.mem_map.mp hy; e ▸ hsz i hi) (by omega)] at ⊢
  rfl
 ·obtain ⟨o',e'⟩:=he
  rw [hwr b hw] at e'; cases e'
theorem ret_join {co own:List Addr} {ad:Str→List Addr} {lo:List (Str × D)} {b5 b:Shared} {a L:Addr} {h0:Heap} {is:List Int} {pre:Str} {p1 p2 p3 p4 p5 p6 p7 p8 p9:Pos} {k1 k2:Nat} {pl:Sem Bool} (S0:Sto c n A env b5 co own ad lo [] [("firsts",.ref a)] s) (hp:lo.lookup (Str.ofString "prefix") = some (D.str pre)) (hpl:pre.length ≤ 1000)
  (G:GPack c.prog c.w A a L h0 (fun i => Str.ofString (toString (is.getD i 0))) is.length s) (hb:AllBare s.gens) (hl:is.length ≤ 700) (hsz:∀ i ∈ is,(Str.ofString (toString i)).length ≤ 100) (hT:∃ vs,s.heap.get? 254 = some { cls:=.none,data:=.fields vs }) (hos:s.os = b.os) (h254:∃ o,h0.get? 254 = some o) (hk:∀ q o,q ≠ 254→b.heap.get? q = some o→s.heap.get? q = some o) (hk0:∀ q o,b.heap.get? q = some o→∃ o,h0.get? q = some o)
  (he:eval (.Call (.Attribute (.Constant (.str ", ") k2 p3) "join" p4) [.Name "firsts" p5] [] p6) env = (do
   let ov ← eval (.Constant (.str ", ") k2 p3) env
   standAt p4.atName
   let (f,first) ← holding [ov] (getMethod ov "join" pl)
   callWith p6 f first (backTo p6 (starEach [.Name "firsts" p5] env)) (backToKw p6 (keywordEach [] env)))) :
  wpAny (model c.prog c.w) A (execs [.Return (some (.BinOp (.BinOp (.Name "prefix" p1) .Add (.Constant (.str " ") k1 p2) p7) .Add (.Call (.Attribute (.Constant (.str ", ") k2 p3) "join" p4) [.Name "firsts" p5] [] p6) p9)) p8] env)
   (fun fl s' => ∃ v,fl = .ret v∧Rd c.w.params co s'.heap v (.str ((pre ++ " ") ++ Txt.join ", " (is.map fun i => Str.ofString (toString i))))∧KG b s') E s:=by
 have hpl2:pre.length + (Str.ofString " ").length ≤ lim:=by
  have:(Str.ofString " ").length = 1:=by decide
  rw [this]; unfold lim; omega
 refine wpAny_execs_cons (wpAny_Return_some (wpAny_BinOp ((EV.cat (EV.name hp) EV.str hpl2) A E s own _ S0.sit fun v s1 k1 r1 => ?_)))
 have S1:=S0.mono k1
 have G1:=G.k2 k1
 refine methodCall_KW (wpAny_Constant_str ?_) he
 refine GM.join ?_
 have k2:K2 s1 { s1 with toks:=s1.toks + 1 }:=⟨keeps_toks _ _,Nat.le_succ _⟩
 have S2:=S1.mono k2
 have G2:=G1.k2 k2
 refine callWith_of (P:=fun _ => True) rfl (fun h' _ => ⟨.machine,.inr (.inl rfl),Looks.of_pure rfl⟩) (evalArgs_plain (spliced_cons (wpAny_Name (nameIs_load S2.sit.ek (S2.exact _ _ rfl) (by decide) (spliced_nil ⟨trivial,?_⟩)) (by decide))))
 have b2:AllBare s1.gens:=by
  left;rcases k1 with ⟨⟨h,t,z0_,_⟩,_⟩;right;subst z0_
  exact hb
 refine join_gpack (sep := ", ") G2 b2 hl (by decide) hsz fun s3 t3 k3 o3 g3 => ?_
 have os1:s1.os = s.os:=by
  left;rcases k1 with ⟨⟨h,t,z0_,_⟩,_⟩;right;subst z0_
  rfl
 have kb:∀ q o,q ≠ 254→b.heap.get? q = some o→s3.heap.get? q = some o:=fun q o hq e => k3 q o (k1.ext _ _ (hk q o hq e)) (hk0 q o e)
 obtain ⟨vs,hvs⟩:=hT
 have t3':s3.heap.get? 254 = some { cls:=.none,data:=.fields vs }:=k3 _ _ (k1.ext _ _ hvs) h254
 cases r1
 refine SBL.add (fun t' k _ => ?_) ?_
 ·exact ⟨_,rfl,.str _ _,⟨kb,⟨vs,t3'⟩,o3.trans (os1.trans hos),g3⟩⟩
 ·have h1:(pre ++ Str.ofString " ").length ≤ 1001:=by
   rw [str_len_app]
   have:(Str.ofString " ").length = 1:=by decide
   omega
  have h2:(Txt.join (Str.ofString ", ") (is.map fun i => Str.ofString (toString i))).length ≤ 100000:=by
   have e:(is.map fun i => Str.ofString (toString i)) = (is.map fun i => (Str.ofString (toString i)).cps.toList).map S:=by
    rw [List.map_map]
    exact List.map_congr_left fun x _ => rfl
   have e2:Str.ofString ", " = S [44,32]:=by decide
   rw [e,e2,txt_join,S_len]
   have q1:=joinL_le (m:=100) [44,32] (is.map fun i => (Str.ofString (toString i)).cps.toList) fun p hp => by
    left;rcases List.mem_map.mp hp with ⟨i,hi,z0_⟩;right;subst z0_
    exact hsz i hi
   rw [List.length_map] at q1
   have q2:=Nat.mul_le_mul_right (100 + [44,32].length) hl
   have q3:700 * (100 + ([44,32]:List Nat).length) = 71400:=rfl
   omega
  have:sizeLine = 16777216:=rfl
  omega
end
noncomputable def fwT (is:List Int):Str:=((("at tab size":Str) ++ (if 1 < is.length then ("s":Str) else "")) ++ " ") ++ Txt.join ", " (is.map fun i => Str.ofString (toString i))
set_option maxHeartbeats 2000000 in
theorem f_fw0 {c:Cx} (h:Is c) (g:GCx c) {n:Nat} (T:Str) (ds:List D) (is:List Int) (hlen:ds.length = is.length) (hl:is.length ≤ 700) (hds:∀ i d,ds[i]? = some d→∃ x y,d = .tup [.int (is.getD i 0),.int x,.int y]∧small (is.getD i 0) = true)
  (hsz:∀ i ∈ is,(Str.ofString (toString i)).length ≤ 100)
  (hT1:decide (1 < is.length) = true→T = ((("at tab size":Str) ++ ("s":Str)) ++ " ") ++ Txt.join ", " (is.map fun i => Str.ofString (toString i)))
  (hT0:decide (1 < is.length) = false→T = (("at tab size":Str) ++ " ") ++ Txt.join ", " (is.map fun i => Str.ofString (toString i))):FnG c (n + 1) (.ref 259) [.lst ds] (.str T):=by
 refine FnG.def (ho:=by rw [h]; rfl) (hcd:=by rw [h]; rfl) (N:=["w"]) (ds0:=[.lst ds]) (b1 fun _ => rfl) (by decide) (by rfl) ?_
 intro L A E b co s ⟨own,ad,S⟩ hG hP hno
 have hPs:=S.pf hP
 have hGs:=S.bare hG
 have hno':=S.no254 hP hno
 left;rcases g.bm with ⟨bm,ob,hM⟩;right
 left;rcases S.sit.names "w" (.lst ds) rfl with ⟨v0,n0,r0⟩;right
 left;rcases r0.lst_inv with ⟨l,o,k,ws,z0_,na,ea,ca,da,xa⟩;right;subst z0_
 obtain ⟨hcd,htab⟩:=isCode258 h S.sit.K hPs
 have hnl:s.heap.NoLimit:=c.T.nolimit.keeps S.sit.ext
 have hLn:∀ a o,c.H.get? a = some o→L ≠ a:=fun a o e z => by
  have:=S.sit.base L S.loc.2.1
  rw [z,e] at this; cases this
 have hLg:=c.T.g
 have hLb:=c.T.b
 have hLc:=c.T.nolimit
 refine wpAny_execs_cons (wpAny_Assign_Name (gen_made (c:=c) (is:=is) (L:=L) rfl S.sit.ao.handled (by have:=S.sit.ao.depth; omega) rfl rfl rfl rfl (by rfl) (by decide) (by rfl) (by rfl) (by rfl) (by rfl) (by intro _; rfl) hM g.strg g.strb S.sit.ext g.h254 hGs hPs hcd htab hnl rfl ?_ ?_ ?_ ?_ ?_ n0 ea ca da xa hlen hds fun a s5 k5 K5 tk5 sz5 fr5 G5 => ?_) (by rfl))
 ·left;rcases S.loc.1 with ⟨m,o,es,ep,ho,_⟩;right
  exact Heap.lt_size ho
 ·left;rcases S.loc.1 with ⟨m,o,es,ep,ho,hd,_⟩;right
  exact ⟨o,es,ep,ho,hd⟩
 ·left;rcases hLc with ⟨_,⟨o,_,_,ho,_⟩,_⟩;right
  exact hLn _ _ ho
 ·left;rcases hLg with ⟨o,_,_,ho,_⟩;right
  exact hLn _ _ ho
 ·left;rcases hLb with ⟨o,_,_,ho,_⟩;right
  exact hLn _ _ ho
 have S5:=S.kg K5 tk5 hPs hno' g.h254
 refine S5.storeX (x := "firsts") rfl rfl rfl rfl fun s6 hs6 S6 => ?_
 left;rcases hs6 with ⟨h6,tk6,z0_,sb6,ht6⟩;right;subst z0_
 have G6:=G5.keep (h':=h6) ht6 fun q o hq e => (sb6.2 q hq).trans e
 refine wpAny_execs_cons (wpAny_Assign_Name (EV.str _ _ _ _ _ S6.sit fun v s7 k7 r7 => ?_) (by rfl))
 have S7:=S6.mono k7
 have G7:=G6.k2 k7
 refine S7.storeL (x := "prefix") rfl rfl rfl r7 fun h8 tk8 sb8 ht8 S8 => ?_
 have G8:=G7.keep (h':=h8) ht8 fun q o hq e => (sb8.2 q hq).trans e
 have hll:ds.length ≤ lim:=by unfold lim; omega
 have ecmp:cmpD .Gt (.int (ds.length:Int)) (.int 1) = some (decide (1 < is.length)):=by
  show some (decide ((ds.length:Int) > 1)) = _
  by_cases z:1 < is.length
  ·(rewrite [decide_eq_true z]; rw [decide_eq_true (by omega)] at ⊢)
  ·(rewrite [decide_eq_false z]; rw [decide_eq_false (by omega)] at ⊢)
 refine wpAny_execs_cons (wpAny_If ((TV.cmp (EV.lenL h (EV.name (d:=.lst ds) rfl) hll) EV.int ecmp) _ _ _ _ _ S8.sit fun s9 k9 => ?_))
 have S9:=S8.mono k9
 have G9:=G8.k2 k9
 have hos5:s5.os = b.os:=by
  rw [K5.os]
  left;rcases S.keep with ⟨h,t,z0_,_⟩;right;subst z0_
  rfl
 have kb5:∀ q o,q ≠ 254→b.heap.get? q = some o→(hideAll b.heap [254]).get? q = some o:=fun q o hq e => hideAll_get _ e (by simpa using hq)
 obtain ⟨vt,ht⟩:=K5.tab
 have hL254:(254:Addr) ≠ L:=fun z => hno' (z ▸ S.loc.2.1)
 have t9:s9.heap.get? 254 = some { cls:=.none,data:=.fields vt }:=k9.ext _ _ ((sb8.2 254 hL254).trans (k7.ext _ _ ((sb6.2 254 hL254).trans ht)))
 have bare:∀ {s10:Shared},Keeps { s5 with heap:=hideAll b.heap [254] } s10→AllBare s10.gens∧s10.os = b.os:=fun k => by
  left;rcases k with ⟨h,t,z0_,_⟩;right;subst z0_
  exact ⟨K5.gens,hos5⟩
 have hk0:∀ q o,b.heap.get? q = some o→∃ o,s.heap.get? q = some o:=fun q o e => ⟨o,Keeps.ext S.keep _ _ e⟩
 cases hc:decide (1 < is.length) with
 | true =>
  have e:=hT1 hc
  clear hT1 hT0
  subst e
  simp only [if_true]
  refine wpAny_execs_cons (wpAny_Assign_Name ((EV.cat (EV.name (d:=.str "at tab size") rfl) EV.str (by decide +kernel)) _ _ _ _ _ S9.sit fun v s10 k10 r10 => ?_) (by rfl))
  have S10:=S9.mono k10
  have G10:=G9.k2 k10
  refine S10.storeL (x := "prefix") rfl rfl rfl r10 fun h11 tk11 sb11 ht11 S11 => ?_
  have G11:=G10.keep (h':=h11) ht11 fun q o hq e => (sb11.2 q hq).trans e
  refine wpAny_execs_nil ?_
  refine ret_join (pl:=?pl) (b:=b) S11 rfl (by decide +kernel) G11 (bare S11.keep).1 hl hsz ⟨vt,(sb11.2 254 hL254).trans (k10.ext _ _ t9)⟩ (bare S11.keep).2 ⟨_,hPs⟩ (fun q o hq e => (Keeps.ext S11.keep) _ _ (kb5 q o hq e)) hk0 ?he
  case he => rfl
 | false =>
  have e:=hT0 hc
  clear hT1 hT0
  subst e
  simp only [Bool.false_eq_true,if_false]
  refine wpAny_execs_nil ?_
  refine ret_join (pl:=?pl) (b:=b) S9 rfl (by decide +kernel) G9 (bare S9.keep).1 hl hsz ⟨vt,t9⟩ (bare S9.keep).2 ⟨_,hPs⟩ (fun q o hq e => (Keeps.ext S9.keep) _ _ (kb5 q o hq e)) hk0 ?he
  case he => rfl
theorem f_fw {c:Cx} (h:Is c) (g:GCx c) {n:Nat} (ds:List D) (is:List Int) (hlen:ds.length = is.length) (hl:is.length ≤ 700) (hds:∀ i d,ds[i]? = some d→∃ x y,d = .tup [.int (is.getD i 0),.int x,.int y]∧small (is.getD i 0) = true)
  (hsz:∀ i ∈ is,(Str.ofString (toString i)).length ≤ 100):FnG c (n + 1) (.ref 259) [.lst ds] (.str (fwT is)):=by
 refine f_fw0 h g _ ds is hlen hl hds hsz (fun z => ?_) (fun z => ?_)
 ·unfold fwT
  rw [if_pos (of_decide_eq_true z)]
 ·unfold fwT
  rw [if_neg (of_decide_eq_false z)]
  have e0:("at tab size":Str) ++ ("":Str) = "at tab size" := by decide +kernel
  rw [e0]
end
section
section
variable {c:Cx} {n:Nat} {A:Around} {env:Env} {b:Shared} {co own:List Addr} {ad:Str→List Addr} {lo lo':List (Str × D)} {ow ow':List (Str × OwnD)} {ex:List (Str × Value)} {s s':Shared} {o:Out} {tg:PySem.Expr}
noncomputable def EVG (c:Cx) (n:Nat) (env:Env) (lo:List (Str × D)) (e:PySem.Expr) (d:D):Prop:=
 ∀ (A:Around) (E:Value→Shared→Prop) (s:Shared) (own:List Addr) (Q:Value→Shared→Prop),Sit c n A env own lo s→AllBare s.gens→PF s.heap→254 ∉ own →
  (∀ v s',KG s s'→s.toks ≤ s'.toks→Rd c.w.params own s'.heap v d→Q v s')→wpAny (model c.prog c.w) A (eval e env) Q E s
theorem K2.bare (k:K2 s s') (g:AllBare s.gens):AllBare s'.gens:=by
 left;rcases k with ⟨⟨h,t,z0_,_⟩,_⟩;right;subst z0_
 exact g
theorem EVG.call {x:Str} {p pos:Pos} {f:Value} {es:List PySem.Expr} {ds:List D} {d:D} (g:GlobIs c env x f) (hk:KeepF c f) (a:EVs c n env lo es ds) (F:FnG c n f ds d) (hp:autoParam (Plain es env pos) byPl2) (hd:autoParam ((x == ("__debug__":Str)) = false) byDec) :
  EVG c n env lo (.Call (.Name x p) es [] pos) d:=fun A E s own Q S hG hP hno h =>
 PyProof.Rows.Call_ (glob_eval g S hd (callWith_ev hk a hp S fun vs s' k r => F A E s' own vs Q (S.mono k).ao (S.mono k).ext (S.mono k).ok (S.mono k).base (S.mono k).tok (k.bare hG) (hP.ext k.ext) hno r fun v s'' k' t' r' => h v s'' (k'.pre k.1) (Nat.le_trans k.2 t') r'))
theorem EVG.pair {e1 e2:PySem.Expr} {k:Nat} {pos:Pos} {d1 d2:D} (x:EV c n env lo e1 d1) (y:EVG c n env lo e2 d2) (he1:autoParam (starEach [e1,e2] env = (false,eval e1 env) :: starEach [e2] env) byRfl) (he2:autoParam (starEach [e2] env = (false,eval e2 env) :: starEach [] env) byRfl) :
  EVG c n env lo (.Tuple [e1,e2] k pos) (.tup [d1,d2]):=fun A E s own Q S hG hP hno h =>
 wpAny_Tuple (wpAny_items_cons (x A E s own _ S fun v s1 k1 r1 => wpAny_items_cons (y A E s1 own _ (S.mono k1) (k1.bare hG) (hP.ext k1.ext) hno fun u s2 k2 t2 r2 => wpAny_items_nil ⟨by have e:sizeLine = 16777216:=rfl; simp; omega,h _ _ ((k2.pre k1.1).post (keeps_push _ _ _)) (Nat.le_trans k1.2 t2) (rd_newTup (.cons (r1.kg k2 (hP.ext k1.ext)) (.cons r2 .nil)))⟩) he2) he1)
noncomputable def ExG1 (c:Cx) (n:Nat) (env:Env) (ex:List (Str × Value)) (st:Stmt) (lo:List (Str × D)) (ow:List (Str × OwnD)) (d:D):Prop:=
 ∀ (A:Around) (E:Value→Shared→Prop) (b:Shared) (co:List Addr) (s:Shared),SO c n A env b co lo ow ex s→AllBare b.gens→PF b.heap→254 ∉ co→wpAny (model c.prog c.w) A (exec st env) (fun fl s' => ∃ v,fl = .ret v∧Rd c.w.params co s'.heap v d∧KG b s') E s
theorem ExG.last {st:Stmt} {rest:List Stmt} {d:D} (x:ExG1 c n env ex st lo ow d):ExG c n env ex (st :: rest) lo ow d:=fun A E b co s S hG hP hno =>
 wpAny_execs_cons (wpAny_mono (x A E b co s S hG hP hno) (fun fl s' h => by
  left;rcases h with ⟨v,z0_,h⟩;right;subst z0_
  exact ⟨v,rfl,h⟩) fun _ _ z => z)
theorem thaw_no (S:Sto c n A env b co own ad lo ow ex s) (h:254 ∉ own):254 ∉ thaw own ad ow:=fun z => h (by
 unfold thaw at z
 exact (List.mem_filter.mp z).1)
theorem ExG1.ret {e:PySem.Expr} {pos:Pos} {d:D} (y:EVG c n env (lo ++ frozen ow) e d):ExG1 c n env ex (.Return (some e) pos) lo ow d:=fun A E b co s ⟨own,ad,S⟩ hG hP hno =>
 wpAny_Return_some (y A E s _ _ S.thawed (S.bare hG) (S.pf hP) (thaw_no S (S.no254 hP hno)) fun v s₁ k t r => ⟨v,rfl,r.sub S.co_thaw,k.pre S.keep⟩)
theorem ExG1.ite {test:PySem.Expr} {body orelse:List Stmt} {pos:Pos} {t:Bool} {d:D} (x:TV c n env (lo ++ frozen ow) test t) (y:t = true→ExG c n env ex body lo ow d) (z:t = false→ExG c n env ex orelse lo ow d):ExG1 c n env ex (.If test body orelse pos) lo ow d:=fun A E b co s ⟨own,ad,S⟩ hG hP hno =>
 wpAny_If (x A E s _ _ S.thawed fun s₁ k => by
  cases t with
  | true => exact y rfl A E b co s₁ ⟨own,ad,S.mono k⟩ hG hP hno
  | false => exact z rfl A E b co s₁ ⟨own,ad,S.mono k⟩ hG hP hno)
theorem ExG1.loop {iter:PySem.Expr} {body:List Stmt} {pos:Pos} {ds:List D} {d r':D} {lo1:List (Str × D)} (it:ITS c n env ex lo ow tg iter ds) (L:Nat→List (Str × D)) (W:Nat→List (Str × OwnD)) (N:Nat) (hN:ds[N]? = some d)
  (start:Sub (L 0) lo) (startO:SubO (W 0) ow) (step:∀ i d,i < N→ds[i]? = some d→Step c n env ex tg d body (L i) (W i) (.next (L (i + 1)) (W (i + 1))))
  (t:Tg c n env ex tg d (L N) (W N) lo1) (fin:ExG c n env ex body lo1 (W N) r') (hs:autoParam (∀ x,foldedSetIterable iter env x = pure x) byIR):ExG1 c n env ex (.For tg iter body [] pos) lo ow r':=fun A E b co s ⟨own,ad,S⟩ hG hP hno => by
 refine wpAny_For (it A E b co own ad s _ S fun I wr fp es vals St s₁ k X st hwn hfo r => ?_) hs
 have hNl:N < ds.length:=by
  rcases Nat.lt_or_ge N ds.length with q | q
  ·exact q
  ·rw [List.getElem?_eq_none q] at hN; cases hN
 have S₁:=(S.mono k).weak start.at startO.at
 have hwb:∀ a ∈ wr,c.H.get? a = none∧b.heap.get? a = none:=fun a ha => ⟨none_of_ext S.sit.ext (hwn a ha),none_of_ext (Keeps.ext S.keep) (hwn a ha)⟩
 refine codeAny_forLoop_any (fun m s => ∃ i own ad,i ≤ N∧m = N - i∧Sto c n A env b co own ad (L i) (W i) ex s∧St i s.heap∧(∀ a ∈ fp,a ∉ own)∧RdAll c.w.params own s.heap vals es) (fun m s hI => ?_) N ⟨0,own,ad,Nat.zero_le _,rfl,S₁,st,hfo,r⟩
 left;rcases hI with ⟨i,own,ad,hi,z0_,S,st,hfo,r⟩;right;subst z0_
 have hw:=X.rec_ i _ st
 have hi':i < ds.length:=by omega
 obtain ⟨d0,hd⟩:∃ d,ds[i]? = some d:=⟨ds[i],by simp [hi']⟩
 refine wpAny_mono (X.next i s (notedBy (model c.prog c.w) A env fun e s' => cameBackBy (model c.prog c.w) A env E e s') (notedBy (model c.prog c.w) A env fun e s' => cameBackBy (model c.prog c.w) A env E e s') own
   (fun v s₂ => wpAny (model c.prog c.w) A (PySem.assign tg env v) (fun _ s₂ => wpAny (model c.prog c.w) A (execs body env) (fun f s₃ => match f with
      | .next | .cont => ∃ m,m < N - i∧∃ i own ad,i ≤ N∧m = N - i∧Sto c n A env b co own ad (L i) (W i) ex s₃∧St i s₃.heap∧(∀ a ∈ fp,a ∉ own)∧RdAll c.w.params own s₃.heap vals es
      | .brk => ∃ v,Flow.next = .ret v∧Rd c.w.params co s₃.heap v r'∧KG b s₃
      | .ret u => ∃ v,Flow.ret u = .ret v∧Rd c.w.params co s₃.heap v r'∧KG b s₃) (notedBy (model c.prog c.w) A env fun e s' => cameBackBy (model c.prog c.w) A env E e s') s₂) (notedBy (model c.prog c.w) A env fun e s' => cameBackBy (model c.prog c.w) A env E e s') s₂)
   hi' st S.sit.ok.held r fun v h' tk htk st' kp hv => ?_) (fun rr s₁ h1 => ?_) fun _ _ z => z
 ·have S':=S.wr hw kp (fun a ha => ⟨hfo a (X.sub a ha),hwb a ha⟩) htk
  have r':=r.wr hw kp
  by_cases hiN:i < N
  ·left;rcases S'.carry with ⟨b₁,S₁,k1,k2⟩;right
   have back:∀ {own₂ ad₂ lo₂ ow₂ s₂},Sto c n A env b₁ co own₂ ad₂ lo₂ ow₂ ex s₂→Sto c n A env b co own₂ ad₂ lo₂ ow₂ ex s₂∧St (i + 1) s₂.heap∧(∀ a ∈ fp,a ∉ own₂)∧RdAll c.w.params own₂ s₂.heap vals es:=fun S₂ => by
    left;rcases k1 S₂ with ⟨S₃,mv,_⟩;right
    refine ⟨S₃,X.frame _ _ _ st' fun q hq o e => (mv q o (hfo q hq) e).1,fun q hq => ?_,r'.move S'.sit.ok mv⟩
    obtain ⟨o,e⟩:=X.obj _ _ st' q hq
    exact (mv q o (hfo q hq) e).2
   refine wpAny_mono (step i d0 hiN hd A _ b₁ co own ad _ v S₁ (hv d0 hd)) (fun _ s₂ h2 => wpAny_mono h2 (fun f s₃ h3 => ?_) fun _ _ z => z) fun _ _ z => z
   left;rcases h3 with ⟨z0_,own₂,ad₂,S₂⟩;right;subst z0_
   left;rcases back S₂ with ⟨S₃,st3,f3,r3⟩;right
   exact ⟨N - (i + 1),by omega,i + 1,own₂,ad₂,hiN,rfl,S₃,st3,f3,r3⟩
  ·have hNi:N = i:=by omega
   subst hNi
   rw [hN] at hd; cases hd
   refine t A _ b co own ad _ v _ S' (hv d hN) fun s₂ own₂ ad₂ S₂ => ?_
   refine wpAny_mono (fin A _ b co s₂ ⟨own₂,ad₂,S₂⟩ hG hP hno) (fun f s₃ h3 => ?_) fun _ _ z => z
   left;rcases h3 with ⟨u,z0_,ru,ku⟩;right;subst z0_
   exact ⟨u,rfl,ru,ku⟩
 ·left;rcases h1 with ⟨v,z0_,hv⟩;right;subst z0_
  exact hv
end
end
section
theorem slice_from (l:List Nat) (k:Nat) (h:k ≤ l.length):Txt.slice (S l) (some (k:Int)) none = S (l.drop k):=by
 have q:=StrLaws.sliceText_from (x:=S l) (i:=(k:Int)) ⟨by omega,by have:(S l).cps.toList.length = l.length:=rfl; omega⟩
 refine (show Txt.slice (S l) (some (k:Int)) none = StrLaws.sliceText (S l) (some (k:Int)) none from rfl).trans (q.trans ?_)
 have e1:((k:Nat):Int).toNat = k:=by omega
 show (⟨_⟩:Str) = ⟨_⟩
 congr 2
 show ((l.drop _).take _) = _
 rw [e1]
 rw [List.take_of_length_le]
 have:(S l).cps.toList.length = l.length:=rfl
 simp
theorem slice_to (l:List Nat) (k:Nat) (h:k ≤ l.length):Txt.slice (S l) none (some (k:Int)) = S (l.take k):=by
 have q:=StrLaws.sliceText_to (x:=S l) (j:=(k:Int)) ⟨by omega,by have:(S l).cps.toList.length = l.length:=rfl; omega⟩
 refine (show Txt.slice (S l) none (some (k:Int)) = StrLaws.sliceText (S l) none (some (k:Int)) from rfl).trans (q.trans ?_)
 have e1:(((k:Nat):Int) - 0).toNat = k:=by omega
 show (⟨_⟩:Str) = ⟨_⟩
 rw [e1]
 rfl
noncomputable def wsL (l:List Nat):WsS:=wsOf (wsPre (S l))
noncomputable def hdW (l:List Nat):List Nat:=l.drop (wsL l).n
noncomputable def eqW (p l:List Nat):Bool:=decide ((wsL p).cnt = (wsL l).cnt) && (((wsL p).b:Int) == ((wsL l).b:Int))
noncomputable def lessW (p l:List Nat):Bool:=lessZ (wsL p).n (wsL p).nt (wsL p).cnt (wsL p).b (decide ((wsL p).cnt.length ≤ 1)) (wsL l).n (wsL l).nt (wsL l).cnt (wsL l).b (decide ((wsL l).cnt.length ≤ 1))
noncomputable def topW (p l:List Nat):Nat:=(topZ (wsL p).cnt (wsL l).cnt (wsL p).b (wsL l).b).toNat
noncomputable def indW (l:List Nat) (j:Nat):Int:=indentZ (1 + j) (wsL l).nt (wsL l).cnt (wsL l).b
noncomputable def witW (p l:List Nat):List Int:=((List.range (topW p l)).filter fun (j:Nat) => decide (indW p j ≥ indW l j)).map fun (j:Nat) => (1:Int) + j
noncomputable def okW (p l:List Nat):Bool:=eqW p l || lessW p l
noncomputable def readTo (p:List Nat) (ls:List (List Nat)):Nat→List (List Nat)
 | 0 => []
 | j + 1 => if eqW p (ls.getD j []) then readTo p ls j ++ [hdW (ls.getD j [])] else (readTo p ls j).set ((readTo p ls j).length - 1) ((readTo p ls j).getD ((readTo p ls j).length - 1) [] ++ [32] ++ hdW (ls.getD j []))
noncomputable def readD (ls:List (List Nat)):D:=
 match (List.range ls.length).find? (fun j => !(okW (ls.getD 0 []) (ls.getD j []))) with
 | none => .tup [.lst (strsD (readTo (ls.getD 0 []) ls ls.length)),.none]
 | some N => .tup [.lst (strsD (readTo (ls.getD 0 []) ls N)),.tup [.int (N:Int),.str (fwT (witW (ls.getD 0 []) (ls.getD N [])))]]
theorem eqW_self (p:List Nat):eqW p p = true:=by unfold eqW; simp
theorem readTo_pos (ls:List (List Nat)):∀ j,0 < (readTo (ls.getD 0 []) ls (j + 1)).length
 | 0 => by unfold readTo; rw [if_pos (eqW_self _)]; simp
 | j + 1 => by
  unfold readTo
  split
  ·simp
  ·rw [List.length_set]; exact readTo_pos ls j
theorem wsL_n (l:List Nat):(wsL l).n ≤ l.length:=by
 have h:=wsOf_bd (wsPre (S l))
 have h2:(wsPre (S l)).length ≤ l.length:=(List.takeWhile_sublist _).length_le
 left;rcases h with ⟨_,_,q⟩;right
 unfold wsL
 omega
theorem readTo_bd (p:List Nat) (ls:List (List Nat)) (h:∀ l ∈ ls,l.length ≤ 100):∀ j,sumLen (readTo p ls j) + (readTo p ls j).length ≤ j * 101
 | 0 => by simp [readTo,sumLen]
 | j + 1 => by
  have ih:=readTo_bd p ls h j
  have hl:(hdW (ls.getD j [])).length ≤ 100:=by
   unfold hdW
   (rewrite [List.length_drop]; rw [List.getD_eq_getElem?_getD] at ⊢)
   cases q:ls[j]? with
   | none => simp
   | some l => have:=h l (List.mem_of_getElem? q); simp; omega
  unfold readTo
  generalize hdW (ls.getD j []) = q at hl
  split
  ·simp [sumLen] at ih ⊢; omega
  ·by_cases z:(readTo p ls j).length = 0
   ·have:readTo p ls j = []:=List.length_eq_zero_iff.mp z
    rw [this]; simp [sumLen]
   ·have q1:=sumLen_set (readTo p ls j) ((readTo p ls j).length - 1) ((readTo p ls j).getD ((readTo p ls j).length - 1) [] ++ [32] ++ q) (by omega)
    rw [List.length_set]
    simp only [List.length_append,List.length_cons,List.length_nil] at q1
    omega
theorem wit_ds (p l:List Nat):(witZ (wsL p).nt (wsL p).cnt (wsL p).b (wsL l).nt (wsL l).cnt (wsL l).b (topW p l)).length = (witW p l).length∧∀ (i:Nat) (d:D),(witZ (wsL p).nt (wsL p).cnt (wsL p).b (wsL l).nt (wsL l).cnt (wsL l).b (topW p l))[i]? = some d→∃ x y,d = D.tup [.int ((witW p l).getD i 0),.int x,.int y]:=by
 unfold witZ witW indW
 refine ⟨by simp,fun i d hd => ?_⟩
 rw [List.getElem?_map] at hd
 left;rcases Option.map_eq_some_iff.mp hd with ⟨j,hj,z0_⟩;right;subst z0_
 refine ⟨indentZ (1 + j) (wsL p).nt (wsL p).cnt (wsL p).b,indentZ (1 + j) (wsL l).nt (wsL l).cnt (wsL l).b,?_⟩
 (rewrite [List.getD_eq_getElem?_getD,List.getElem?_map] at ⊢; rw [hj])
 rfl
theorem witW_le (p l:List Nat):(witW p l).length ≤ topW p l:=by
 unfold witW
 rw [List.length_map]
 exact Nat.le_trans (List.length_filter_le _ _) (by simp)
theorem witW_mem {p l:List Nat} {i:Int} (h:i ∈ witW p l):∃ j:Nat,j < topW p l∧i = 1 + j:=by
 unfold witW at h
 left;rcases List.mem_map.mp h with ⟨j,hj,z0_⟩;right;subst z0_
 have:=(List.mem_filter.mp hj).1
 exact ⟨j,by simpa using this,rfl⟩
theorem ints_short:∀ j < 620,(Str.ofString (toString ((1:Int) + (j:Nat)))).length ≤ 100:=by decide +kernel
theorem wsL_bd (l:List Nat) (h:l.length ≤ 100):(wsL l).cnt.length ≤ 100∧(wsL l).b ≤ 100:=by
 have h1:=wsOf_bd (wsPre (S l))
 have h2:(wsPre (S l)).length ≤ l.length:=(List.takeWhile_sublist _).length_le
 left;rcases h1 with ⟨q1,q2,_⟩;right
 unfold wsL
 omega
theorem topW_le (p l:List Nat) (h:p.length ≤ 100) (h2:l.length ≤ 100):topW p l ≤ 501:=by
 obtain ⟨a1,a2⟩:=wsL_bd p h
 obtain ⟨b1,b2⟩:=wsL_bd l h2
 have q1:=longest_bd (cnt:=(wsL p).cnt) (b:=((wsL p).b:Int)) (by omega) (by omega)
 have q2:=longest_bd (cnt:=(wsL l).cnt) (b:=((wsL l).b:Int)) (by omega) (by omega)
 unfold topW topZ
 split <;> omega
theorem m_equal {c:Cx} (h:Is c):MethOk c 248 "equal" 224:=⟨by rw [h]; rfl,by rw [h]; rfl,by rw [h]; rfl⟩
theorem m_less {c:Cx} (h:Is c):MethOk c 248 "less" 238:=⟨by rw [h]; rfl,by rw [h]; rfl,by rw [h]; rfl⟩
theorem m_witness {c:Cx} (h:Is c):MethOk c 248 "not_less_witness" 245:=⟨by rw [h]; rfl,by rw [h]; rfl,by rw [h]; rfl⟩
theorem g_fw {c:Cx} (h:Is c) {env:Env} (hk:autoParam (env.kindOf "format_witnesses" = some .globalImplicit) byRfl):GlobIs c env "format_witnesses" (.ref 259):=GlobIs.glob (by rw [h]; rfl) hk
section
variable {c:Cx} {n:Nat} {env:Env} {lo:List (Str × D)}
theorem EV.ws (h:Is c) {p pos:Pos} {e:PySem.Expr} {l:List Nat} (y:EV c (n + 2) env lo e (.str (S l))) (hl:l.length ≤ 100) (hk:autoParam (env.kindOf "Whitespace" = some .globalImplicit) byRfl) (hp:autoParam (Plain [e] env pos) byPl) (he:autoParam (starEach [e] env = (false,eval e env) :: starEach [] env) byRfl) :
  EV c (n + 2) env lo (.Call (.Name "Whitespace" p) [e] [] pos) (wsObj (S l)):=EV.new (g_Whitespace h hk) (KeepF.of (by rw [h]; rfl)) (by rw [h]; rfl) (by rw [h]; rfl) (by rw [h]; rfl) (EVs.cons y .nil he) (f_Whitespace h (by rw [S_len]; omega)) hp
end
end
section
section
variable {c:Cx} {n:Nat} {env:Env} {lo:List (Str × D)} {o e:PySem.Expr} {apos pos:Pos} {p l:List Nat}
theorem EV.eqW (h:Is c) {pl:Sem Bool} (x:EV c (n + 2) env lo o (wsObj (S p))) (y:EV c (n + 2) env lo e (wsObj (S l)))
  (he:autoParam (eval (.Call (.Attribute o "equal" apos) [e] [] pos) env = (do
   let ov ← eval o env
   standAt apos.atName
   let (f,first) ← holding [ov] (getMethod ov "equal" pl)
   callWith pos f first (backTo pos (starEach [e] env)) (backToKw pos (keywordEach [] env)))) byRfl) (hse:autoParam (starEach [e] env = (false,eval e env) :: starEach [] env) byRfl) (hp:autoParam (Plain [e] env pos) byPl) :
  EV c (n + 2) env lo (.Call (.Attribute o "equal" apos) [e] [] pos) (.bool (eqW p l)):=EV.meth x (EVs.cons y .nil hse) (m_equal h) rfl (KeepF.of (by rw [h]; rfl)) (f_equal h) he hp
theorem EV.lessW (h:Is c) {pl:Sem Bool} (x:EV c (n + 2) env lo o (wsObj (S p))) (y:EV c (n + 2) env lo e (wsObj (S l))) (h1:p.length ≤ 100) (h2:l.length ≤ 100)
  (he:autoParam (eval (.Call (.Attribute o "less" apos) [e] [] pos) env = (do
   let ov ← eval o env
   standAt apos.atName
   let (f,first) ← holding [ov] (getMethod ov "less" pl)
   callWith pos f first (backTo pos (starEach [e] env)) (backToKw pos (keywordEach [] env)))) byRfl) (hse:autoParam (starEach [e] env = (false,eval e env) :: starEach [] env) byRfl) (hp:autoParam (Plain [e] env pos) byPl) :
  EV c (n + 2) env lo (.Call (.Attribute o "less" apos) [e] [] pos) (.bool (lessW p l)):=by
 obtain ⟨a1,a2⟩:=wsL_bd p h1
 obtain ⟨b1,b2⟩:(wsOf (wsPre (S l))).cnt.length ≤ 100∧(wsOf (wsPre (S l))).b ≤ 100:=wsL_bd l h2
 exact EV.meth (kvs:=[("raw",.str (S p)),("n",.int (wsL p).n),("nt",.int (wsL p).nt),("norm",.tup [.tup ((wsL p).cnt.map .int),.int (wsL p).b]),("is_simple",.bool (decide ((wsL p).cnt.length ≤ 1)))]) x (EVs.cons y .nil hse) (m_less h) rfl (KeepF.of (by rw [h]; rfl)) (f_less h (by omega) (by omega) (by omega) (by omega)) he hp
theorem EV.witW (h:Is c) {pl:Sem Bool} (x:EV c (n + 2) env lo o (wsObj (S p))) (y:EV c (n + 2) env lo e (wsObj (S l))) (h1:p.length ≤ 100) (h2:l.length ≤ 100)
  (he:autoParam (eval (.Call (.Attribute o "not_less_witness" apos) [e] [] pos) env = (do
   let ov ← eval o env
   standAt apos.atName
   let (f,first) ← holding [ov] (getMethod ov "not_less_witness" pl)
   callWith pos f first (backTo pos (starEach [e] env)) (backToKw pos (keywordEach [] env)))) byRfl) (hse:autoParam (starEach [e] env = (false,eval e env) :: starEach [] env) byRfl) (hp:autoParam (Plain [e] env pos) byPl) :
  EV c (n + 2) env lo (.Call (.Attribute o "not_less_witness" apos) [e] [] pos) (.lst (witZ (wsL p).nt (wsL p).cnt (wsL p).b (wsL l).nt (wsL l).cnt (wsL l).b (topW p l))):=by
 obtain ⟨a1,a2⟩:=wsL_bd p h1
 obtain ⟨b1,b2⟩:(wsOf (wsPre (S l))).cnt.length ≤ 100∧(wsOf (wsPre (S l))).b ≤ 100:=wsL_bd l h2
 exact EV.meth (kvs:=[("raw",.str (S p)),("n",.int (wsL p).n),("nt",.int (wsL p).nt),("norm",.tup [.tup ((wsL p).cnt.map .int),.int (wsL p).b]),("is_simple",.bool (decide ((wsL p).cnt.length ≤ 1)))]) x (EVs.cons y .nil hse) (m_witness h) rfl (KeepF.of (by rw [h]; rfl)) (f_witness h (by omega) (by omega) (by omega) (by omega)) he hp
theorem EV.hd {sp:Pos} (h:Is c) (x:EV c n env lo o (.str (S l))) (y:EV c n env lo e (wsObj (S l))) (hl:l.length ≤ 100)
  (he:autoParam (eval (.Attribute e "n" apos) env = (do
   let ov ← eval e env
   standAt apos.atName
   let r ← holding [ov] (getAttr ov "n" true)
   letTemporaryGo e ov r
   pure r)) byRfl)
  (hs:autoParam (∀ u v,subscripted (.Slice (some (.Attribute e "n" apos)) Option.none Option.none sp) false u v = operate [u,v] (getItem u v) ∨ subscripted (.Slice (some (.Attribute e "n" apos)) Option.none Option.none sp) false u v = operate [v,u] (getItem u v)) byIF) :
  EV c n env lo (.Subscript o (.Slice (some (.Attribute e "n" apos)) Option.none Option.none sp) pos) (.str (S (hdW l))):=
 EV.cast (EV.cut x (PV.some (i:=((wsL l).n:Int)) (EV.attr (kvs:=[("raw",.str (S l)),("n",.int (wsL l).n),("nt",.int (wsL l).nt),("norm",.tup [.tup ((wsL l).cnt.map .int),.int (wsL l).b]),("is_simple",.bool (decide ((wsL l).cnt.length ≤ 1)))]) y (a_n h) rfl he)) PV.none (by rw [S_len]; unfold lim; omega) hs) (congrArg D.str (slice_from l _ (wsL_n l)))
end
theorem strsD_app (a:List (List Nat)) (l:List Nat):strsD (a ++ [l]) = strsD a ++ [.str (S l)]:=by simp [strsD]
theorem readTo_succ_eq {p:List Nat} {ls:List (List Nat)} {j:Nat} {l:List Nat} (hl:ls[j]? = some l) (h:eqW p l = true):readTo p ls (j + 1) = readTo p ls j ++ [hdW l]:=by
 have e:ls.getD j [] = l:=by (rewrite [List.getD_eq_getElem?_getD] at ⊢; rw [hl]); rfl
 rw [readTo,e,if_pos h]
theorem readTo_succ_lt {p:List Nat} {ls:List (List Nat)} {j:Nat} {l:List Nat} (hl:ls[j]? = some l) (h:eqW p l = false):readTo p ls (j + 1) = (readTo p ls j).set ((readTo p ls j).length - 1) ((readTo p ls j).getD ((readTo p ls j).length - 1) [] ++ [32] ++ hdW l):=by
 have e:ls.getD j [] = l:=by (rewrite [List.getD_eq_getElem?_getD] at ⊢; rw [hl]); rfl
 (rewrite [readTo,e]; rw [if_neg (by rw [h]; decide)] at ⊢)
theorem find_end (f:Nat→Bool):∀ m,∃ N,N ≤ m∧(∀ j,j < N→f j = false)∧((N = m∧(List.range m).find? f = none) ∨ (N < m∧f N = true∧(List.range m).find? f = some N))
 | 0 => ⟨0,Nat.le_refl _,fun j h => absurd h (Nat.not_lt_zero _),.inl ⟨rfl,rfl⟩⟩
 | m + 1 => by
  left;rcases find_end f m with ⟨N,h1,h2,h3⟩;right
  (rewrite [List.range_succ]; rw [List.find?_append] at ⊢)
  rcases h3 with ⟨rfl,e⟩ | ⟨hN,hf,e⟩
  ·rw [e]
   cases hf:f N with
   | true => exact ⟨N,Nat.le_succ _,h2,.inr ⟨Nat.lt_succ_self _,hf,by simp [hf]⟩⟩
   | false => exact ⟨N + 1,Nat.le_refl _,fun j hj => (Nat.lt_succ_iff_lt_or_eq.mp hj).elim (h2 j) (fun q => q ▸ hf),.inl ⟨rfl,by simp [hf]⟩⟩
  ·rw [e]
   exact ⟨N,Nat.le_succ_of_le h1,h2,.inr ⟨Nat.lt_succ_of_lt hN,hf,rfl⟩⟩
section
variable {c:Cx} {n:Nat} {env:Env} {ex:List (Str × Value)} {lo:List (Str × D)} {ow:List (Str × OwnD)} {tg:PySem.Expr}
theorem ExG.loopE {iter:PySem.Expr} {body rest:List Stmt} {pos:Pos} {ds:List D} {r':D} (it:ITS c n env ex lo ow tg iter ds) (L:Nat→List (Str × D)) (W:Nat→List (Str × OwnD)) (N:Nat)
  (start:Sub (L 0) lo) (startO:SubO (W 0) ow) (step:∀ i d,i < N→ds[i]? = some d→Step c n env ex tg d body (L i) (W i) (.next (L (i + 1)) (W (i + 1))))
  (fin:(N = ds.length∧ExG c n env ex rest (L N) (W N) r') ∨ ∃ d lo1,ds[N]? = some d∧Tg c n env ex tg d (L N) (W N) lo1∧ExG c n env ex body lo1 (W N) r') (hs:autoParam (∀ x,foldedSetIterable iter env x = pure x) byIR):ExG c n env ex (.For tg iter body [] pos :: rest) lo ow r':=by
 rcases fin with ⟨e,y⟩ | ⟨d,lo1,hN,t,y⟩
 ·exact ExG.cons (Ex1.loopG it L W N (Nat.le_of_eq e) start startO step (.inl ⟨e,rfl⟩) hs) y
 ·exact ExG.last (ExG1.loop it L W N hN start startO step t y hs)
end
set_option maxHeartbeats 2000000 in
theorem f_read {c:Cx} (h:Is c) (g:GCx c) {n:Nat} (ls:List (List Nat)) (h0:0 < ls.length) (hn:ls.length ≤ 500) (hw:∀ l ∈ ls,l.length ≤ 100):FnG c (n + 3) (.ref 304) [.lst (strsD ls)] (readD ls):=by
 refine FnG.def (ho:=by rw [h]; rfl) (hcd:=by rw [h]; rfl) (N:=["page"]) (ds0:=[.lst (strsD ls)]) (b1 fun _ => rfl) (by decide) (by rfl) ?_
 intro L
 have hp0:ls[0]? = some (ls.getD 0 []):=by rw [List.getD_eq_getElem?_getD,List.getElem?_eq_getElem h0] at ⊢; rfl
 have hp1:=hw _ (List.mem_of_getElem? hp0)
 have hpos:=readTo_pos ls
 have hbd:=readTo_bd (ls.getD 0 []) ls hw
 have hrd:readD ls = match (List.range ls.length).find? (fun j => !(okW (ls.getD 0 []) (ls.getD j []))) with
  | none => .tup [.lst (strsD (readTo (ls.getD 0 []) ls ls.length)),.none]
  | some N => .tup [.lst (strsD (readTo (ls.getD 0 []) ls N)),.tup [.int (N:Int),.str (fwT (witW (ls.getD 0 []) (ls.getD N [])))]]:=rfl
 rw [hrd]
 clear hrd
 have hself:eqW (ls.getD 0 []) (ls.getD 0 []) = true:=eqW_self _
 generalize ls.getD 0 [] = p at hp0 hp1 hpos hbd hself
 have hll:(strsD ls).length ≤ lim:=by simp [strsD,lim]; omega
 refine ExG.cons (Ex1.assign (d:=wsObj (S p)) (EV.ws h (EV.itemL (d:=.str (S p)) (EV.name rfl) (EV.int (i:=0)) (by decide) (by show (strsD ls)[0]? = _; unfold strsD; (rewrite [List.getElem?_map] at ⊢; rw [hp0]); rfl) hll) hp1) (.inl rfl)) ?_
 refine ExG.cons (Ex1.fresh (EVF.list .nil) (.inl rfl)) ?_
 have hen:(enumD (strsD ls)).length = ls.length:=by rw [enumD_len]; simp [strsD]
 have elem:∀ {j:Nat} {x:D},(enumD (strsD ls))[j]? = some x→∃ l,ls[j]? = some l∧x = .tup [.int (j:Int),.str (S l)]:=fun hx => by
  left;rcases enumD_at hx with ⟨d0,hd0,z0_⟩;right;subst z0_
  unfold strsD at hd0
  rw [List.getElem?_map] at hd0
  left;rcases Option.map_eq_some_iff.mp hd0 with ⟨l,hl,z0_⟩;right;subst z0_
  exact ⟨l,hl,rfl⟩
 left;rcases find_end (fun j => !(okW p (ls.getD j []))) ls.length with ⟨N,hN,hok,hend⟩;right
 refine ExG.loopE (IT.its (IT.enum (g_enumerate h) (EV.name rfl))) (fun _ => [("page",.lst (strsD ls)),("margin",wsObj (S p))]) (fun j => [("heads",.lst (strsD (readTo p ls j)))]) N (.of rfl) (.of rfl) ?_ ?_
 ·intro j x hj hx
  left;rcases elem hx with ⟨l,hl,z0_⟩;right;subst z0_
  have hlw:=hw l (List.mem_of_getElem? hl)
  have e:ls.getD j [] = l:=by (rewrite [List.getD_eq_getElem?_getD] at ⊢; rw [hl]); rfl
  have hk:okW p l = true:=by
   have:=hok j hj
   rw [e] at this
   simpa using this
  have hbj:=hbd j
  have hj5:j < 500:=by omega
  have hhd:(hdW l).length ≤ 100:=by unfold hdW; rw [List.length_drop]; omega
  refine Step.of (Tg.tuple (Tgs.cons (.inl rfl) (Tgs.cons (.inl rfl) Tgs.nil))) ?_
  refine Ex.cons (Ex1.assign (d:=wsObj (S l)) (EV.ws h (EV.name rfl) hlw) (.inl rfl)) ?_
  cases hq:eqW p l with
  | true =>
   rw [readTo_succ_eq hl hq,strsD_app]
   refine Ex.post (Ex.cons (Ex1.ite (t:=true) (TV.value (d:=.bool true) (EV.cast (EV.eqW h (EV.name rfl) (EV.name rfl)) (by rw [hq])) rfl) (fun _ => Ex.cons (Ex1.append (EV.hd h (EV.name rfl) (EV.name rfl) hlw) rfl (by simp [strsD,lim]; omega)) Ex.nil) (fun z => by cases z)) Ex.nil) (.of rfl) (.of rfl)
  | false =>
   have hlt:lessW p l = true:=by
    unfold okW at hk
    rw [hq] at hk
    exact hk
   rw [readTo_succ_lt hl hq]
   have hjpos:0 < (readTo p ls j).length:=by
    cases j with
    | zero =>
     rw [hp0] at hl; cases hl
     rw [hself] at hq; cases hq
    | succ j => exact hpos j
   generalize readTo p ls j = hs at hbj hjpos
   have hla:=getD_le hjpos
   refine Ex.post (Ex.cons (Ex1.ite (t:=false) (TV.value (d:=.bool false) (EV.cast (EV.eqW h (EV.name rfl) (EV.name rfl)) (by rw [hq])) rfl) (fun z => by cases z) (fun _ => Ex.cons (Ex1.ite (t:=true) (TV.value (d:=.bool true) (EV.cast (EV.lessW h (EV.name rfl) (EV.name rfl) hp1 hlw) (by rw [hlt])) rfl) (fun _ => 
    Ex.cons (Ex1.setF (k:=-1) (j:=hs.length - 1) (EV.cat (EV.cat (EV.last (EV.name rfl) (EV.neg EV.int) (by simp [strsD]; omega) (strsD_last (by omega)) (by simp [strsD,lim]; omega)) EV.str ?_) (EV.hd h (EV.name rfl) (EV.name rfl) hlw) ?_) (EV.neg EV.int) rfl rfl (by simp [strsD,lim]; omega) (by rw [idx_last (by simp [strsD]; omega)] at ⊢; simp [strsD])) Ex.nil) (fun z => by cases z)) Ex.nil)) Ex.nil) (.of rfl) ⟨?_,trivial⟩
   ·have:(Str.ofString " ").length = 1:=by decide
    rw [S_len,this]; unfold lim; omega
   ·have:(Str.ofString " ").length = 1:=by decide
    rw [str_len_app,S_len (hs.getD (hs.length - 1) []),S_len (hdW l),this]; unfold lim; omega
   ·have e2:(Str.ofString " ") = S [32]:=by decide
    rw [e2,S_app,S_app]
    unfold strsD
    rw [List.map_set]
    rfl
 ·rcases hend with ⟨q1,q2⟩ | ⟨q1,hN2,q2⟩
  ·rw [q2]
   subst q1
   exact .inl ⟨hen.symm,ExG.of (Ex.cons_ret (Ex1.ret (EV.tuple (EVs.cons (EV.name rfl) (EVs.cons EV.none .nil)))))⟩
  ·rw [q2]
   obtain ⟨l,hl⟩:∃ l,ls[N]? = some l:=⟨ls[N],List.getElem?_eq_getElem q1⟩
   have e:ls.getD N [] = l:=by (rewrite [List.getD_eq_getElem?_getD] at ⊢; rw [hl]); rfl
   dsimp only
   rw [e] at hN2 ⊢
   have hlw:=hw l (List.mem_of_getElem? hl)
   have hno:okW p l = false:=by simpa using hN2
   have hq:eqW p l = false:=by unfold okW at hno; simp at hno; exact hno.1
   have hlt:lessW p l = false:=by unfold okW at hno; simp at hno; exact hno.2
   obtain ⟨w1,w2⟩:=wit_ds p l
   have htop:=topW_le p l hp1 hlw
   have hwl:=witW_le p l
   have hd0:(enumD (strsD ls))[N]? = some (.tup [.int (N:Int),.str (S l)]):=by
    have hd0:(strsD ls)[N]? = some (.str (S l)):=by unfold strsD; (rewrite [List.getElem?_map] at ⊢; rw [hl]); rfl
    unfold enumD
    simp [hd0]
   refine .inr ⟨_,_,hd0,Tg.tuple (Tgs.cons (.inl rfl) (Tgs.cons (.inl rfl) Tgs.nil)),?_⟩
   refine ExG.cons (Ex1.assign (d:=wsObj (S l)) (EV.ws h (EV.name rfl) hlw) (.inl rfl)) (ExG.last (ExG1.ite (t:=false) (TV.value (d:=.bool false) (EV.cast (EV.eqW h (EV.name rfl) (EV.name rfl)) (by rw [hq])) rfl) (fun z => by cases z) (fun _ => ExG.last (ExG1.ite (t:=false) (TV.value (d:=.bool false) (EV.cast (EV.lessW h (EV.name rfl) (EV.name rfl) hp1 hlw) (by rw [hlt])) rfl) (fun z => by cases z) (fun _ =>
    ExG.last (ExG1.ret (EVG.pair (EV.name rfl) (EVG.pair (EV.name rfl) (EVG.call (g_fw h) (KeepF.of (by rw [h]; rfl)) (EVs.cons (EV.witW h (EV.name rfl) (EV.name rfl) hp1 hlw) .nil) (f_fw h g _ (witW p l) w1 (by omega) (fun i d hd => ?_) (fun i hi => ?_)))))))))))
   ·left;rcases w2 i d hd with ⟨x,y,q⟩;right
    refine ⟨x,y,q,?_⟩
    have hi:i < (witW p l).length:=by
     rw [w1.symm]
     rcases Nat.lt_or_ge i (witZ (wsL p).nt (wsL p).cnt (wsL p).b (wsL l).nt (wsL l).cnt (wsL l).b (topW p l)).length with z | z
     ·exact z
     ·rw [List.getElem?_eq_none z] at hd; cases hd
    rw [List.getD_eq_getElem?_getD,List.getElem?_eq_getElem hi] at ⊢
    left;rcases witW_mem (List.getElem_mem hi) with ⟨j,hj,q⟩;right
    show small (witW p l)[i] = true
    rw [q]
    have q1:(1 + (j:Int)).natAbs = 1 + j:=by omega
    have q2:(2:Nat) ^ 60 = 1152921504606846976:=rfl
    refine decide_eq_true ?_
    rw [q1,q2]
    omega
   ·left;rcases witW_mem hi with ⟨j,hj,z0_⟩;right;subst z0_
    exact ints_short j (by omega)
end
section
theorem drop_tw {α:Type} (p:α→Bool):∀ l:List α,l.drop (l.takeWhile p).length = l.dropWhile p
 | [] => rfl
 | a :: r => by
  rw [List.takeWhile_cons,List.dropWhile_cons]
  by_cases h:p a = true
  ·rw [if_pos h,if_pos h]; simpa using drop_tw p r
  ·rw [if_neg h,if_neg h]; rfl
theorem drop_lo (g:Nat→Bool):∀ (l:List Nat) (k:Nat),k ≤ l.length→(∀ j,j < k→g (l.getD j 0) = true)→(k = l.length ∨ g (l.getD k 0) = false)→l.drop k = l.dropWhile g
 | [],k,h,_,_ => by simp
 | a :: r,0,_,_,h => by
  rcases h with h | h
  ·simp at h
  ·(rewrite [List.dropWhile_cons]; rw [if_neg (by simpa using h)] at ⊢); rfl
 | a :: r,k + 1,h,h1,h2 => by
  have ha:g a = true:=h1 0 (by omega)
  rw [List.dropWhile_cons,if_pos ha]
  exact drop_lo g r k (by simpa using h) (fun j hj => by simpa using h1 (j + 1) (by omega)) (by simpa using h2)
theorem lstrip_S (l:List Nat):Txt.lstripChars (S l) " \t" = S (l.dropWhile isWs):=by
 have q:=stripBy_eq (fun ch => (" \t":Str).cps.contains ch) true false (S l)
 refine (show Txt.lstripChars (S l) " \t" = Txt.stripBy (fun ch => (" \t":Str).cps.contains ch) true false (S l) from rfl).trans (q.trans ?_)
 left;rcases lo_facts (fun ch => (" \t":Str).cps.contains ch) (S l) with ⟨h1,h2,h3⟩;right
 have hg:(fun ch => (" \t":Str).cps.contains ch) = isWs:=by
  funext ch
  have:(" \t":Str).cps = #[32,9]:=by decide
  rw [this]
  simp [isWs]
  rfl
 have hg':∀ ch,(" \t":Str).cps.contains ch = isWs ch:=fun ch => congrFun hg ch
 simp only [hg'] at h1 h2 h3 ⊢
 generalize stripLo isWs true (S l) = k at h1 h2 h3
 have hk:l.drop k = l.dropWhile isWs:=drop_lo isWs l k (by rw [S_len] at h1; exact h1) (fun j hj => by have:=h2 j hj; rw [← getD_list] at this; exact this) (by
  rw [← getD_list,S_len] at h3; exact h3)
 apply Str.ext'
 have q2:=StrLaws.strSub_toList (S l) k (stripHi isWs false (S l) k)
 have hh:stripHi isWs false (S l) k = (S l).length:=rfl
 rw [hh] at q2 ⊢
 apply Array.ext'
 rw [q2]
 show ((l.drop k).take _) = _
 (rewrite [S_len]; rewrite [List.take_of_length_le (by simp)] at ⊢; rw [hk])
theorem cutLead (l:List Nat):Txt.slice (S l) none (some ((l.length:Int) - ((l.dropWhile isWs).length:Int))) = S (l.takeWhile isWs):=by
 have h:(l.takeWhile isWs).length + (l.dropWhile isWs).length = l.length:=by
  rw [← List.length_append,List.takeWhile_append_dropWhile]
 have e:(l.length:Int) - ((l.dropWhile isWs).length:Int) = ((l.takeWhile isWs).length:Int):=by omega
 (rewrite [e]; rw [slice_to _ _ (by omega)] at ⊢)
 congr 1
 have:l.take (l.takeWhile isWs).length = (l.takeWhile isWs ++ l.dropWhile isWs).take (l.takeWhile isWs).length:=by rw [List.takeWhile_append_dropWhile]
 rw [this,List.take_left']
 rfl
theorem hdW_eq (l:List Nat):hdW l = l.dropWhile isWs:=by
 have h:=wsOf_bd (wsPre (S l))
 left;rcases h with ⟨_,_,q⟩;right
 unfold hdW wsL
 rw [q]
 exact drop_tw isWs l
noncomputable def hasRun (p l:List Nat) (k:Nat):Bool:=inStr (Txt.mul " " (k:Int)) (S p) || (inStr (Txt.mul " " (k:Int)) (S l) || false)
noncomputable def runsW (p l:List Nat):List Nat:=(List.range 10).filter (hasRun p l)
noncomputable def mostZ (p l:List Nat):Int:=1 + maxL ((runsW p l).map fun (k:Nat) => (k:Int))
noncomputable def colsT (p l x:List Nat):List Int:=(List.range (mostZ p l).toNat).map fun (k:Nat) => colD (1 + k) 0 x
noncomputable def eqT (p l:List Nat):Bool:=decide (colsT p l p = colsT p l l)
noncomputable def overN (p l:List Nat):List Nat:=(List.range (mostZ p l).toNat).filter fun (k:Nat) => decide (colD (1 + k) 0 p ≥ colD (1 + k) 0 l)
noncomputable def overW (p l:List Nat):List Int:=(overN p l).map fun (k:Nat) => (k:Int) + 1
noncomputable def ldT (l:List Nat):List Nat:=l.takeWhile isWs
noncomputable def rsT (l:List Nat):List Nat:=l.dropWhile isWs
noncomputable def okT (p l:List Nat):Bool:=eqT p l || decide (overN p l = [])
noncomputable def takenTo (p:List Nat) (ls:List (List Nat)):Nat→List (List Nat)
 | 0 => []
 | j + 1 => if eqT p (ldT (ls.getD j [])) then takenTo p ls j ++ [rsT (ls.getD j [])] else (takenTo p ls j).set ((takenTo p ls j).length - 1) ((takenTo p ls j).getD ((takenTo p ls j).length - 1) [] ++ [32] ++ rsT (ls.getD j []))
noncomputable def takenD (ls:List (List Nat)):D:=
 match (List.range ls.length).find? (fun j => !(okT (ldT (ls.getD 0 [])) (ldT (ls.getD j [])))) with
 | none => .tup [.lst (strsD (takenTo (ldT (ls.getD 0 [])) ls ls.length)),.none]
 | some N => .tup [.lst (strsD (takenTo (ldT (ls.getD 0 [])) ls N)),.tup [.int (N:Int),.str (fwT (overW (ldT (ls.getD 0 [])) (ldT (ls.getD N []))))]]
theorem eqT_self (p:List Nat):eqT p p = true:=by unfold eqT; simp
theorem takenTo_pos (ls:List (List Nat)):∀ j,0 < (takenTo (ldT (ls.getD 0 [])) ls (j + 1)).length
 | 0 => by unfold takenTo; rw [if_pos (eqT_self _)]; simp
 | j + 1 => by
  unfold takenTo
  split
  ·simp
  ·rw [List.length_set]; exact takenTo_pos ls j
theorem takenTo_bd (p:List Nat) (ls:List (List Nat)) (h:∀ l ∈ ls,l.length ≤ 100):∀ j,sumLen (takenTo p ls j) + (takenTo p ls j).length ≤ j * 101
 | 0 => by simp [takenTo,sumLen]
 | j + 1 => by
  have ih:=takenTo_bd p ls h j
  have hl:(rsT (ls.getD j [])).length ≤ 100:=by
   unfold rsT
   refine Nat.le_trans (List.dropWhile_sublist _).length_le ?_
   rw [List.getD_eq_getElem?_getD] at ⊢
   cases q:ls[j]? with
   | none => simp
   | some l => exact h l (List.mem_of_getElem? q)
  unfold takenTo
  generalize rsT (ls.getD j []) = q at hl
  split
  ·simp [sumLen] at ih ⊢; omega
  ·by_cases z:(takenTo p ls j).length = 0
   ·have:takenTo p ls j = []:=List.length_eq_zero_iff.mp z
    rw [this]; simp [sumLen]
   ·have q1:=sumLen_set (takenTo p ls j) ((takenTo p ls j).length - 1) ((takenTo p ls j).getD ((takenTo p ls j).length - 1) [] ++ [32] ++ q) (by omega)
    rw [List.length_set]
    simp only [List.length_append,List.length_cons,List.length_nil] at q1
    omega
theorem takenTo_succ_eq {p:List Nat} {ls:List (List Nat)} {j:Nat} {l:List Nat} (hl:ls[j]? = some l) (h:eqT p (ldT l) = true):takenTo p ls (j + 1) = takenTo p ls j ++ [rsT l]:=by
 have e:ls.getD j [] = l:=by (rewrite [List.getD_eq_getElem?_getD] at ⊢; rw [hl]); rfl
 rw [takenTo,e,if_pos h]
theorem takenTo_succ_lt {p:List Nat} {ls:List (List Nat)} {j:Nat} {l:List Nat} (hl:ls[j]? = some l) (h:eqT p (ldT l) = false):takenTo p ls (j + 1) = (takenTo p ls j).set ((takenTo p ls j).length - 1) ((takenTo p ls j).getD ((takenTo p ls j).length - 1) [] ++ [32] ++ rsT l):=by
 have e:ls.getD j [] = l:=by (rewrite [List.getD_eq_getElem?_getD] at ⊢; rw [hl]); rfl
 (rewrite [takenTo,e]; rw [if_neg (by rw [h]; decide)] at ⊢)
theorem run0 (x:List Nat):inStr (Txt.mul " " ((0:Nat):Int)) (S x) = true:=by
 have e:Txt.mul " " ((0:Nat):Int) = ⟨#[]⟩:=by decide +kernel
 rw [e]
 refine (StrLaws.found_iff (S x) ⟨#[]⟩).mpr ⟨0,by show 0 + 0 ≤ _; omega,?_⟩
 rw [StrLaws.subAt_eq]
 rfl
theorem runsW_ne (p l:List Nat):0 ∈ runsW p l:=by
 unfold runsW
 refine List.mem_filter.mpr ⟨by simp,?_⟩
 unfold hasRun
 rw [run0]
 rfl
theorem maxL_bd {B:Int}:∀ (l:List Int),(∀ x ∈ l,0 ≤ x∧x ≤ B)→0 ≤ B→0 ≤ maxL l∧maxL l ≤ B
 | [],_,h => ⟨Int.le_refl _,h⟩
 | a :: r,h,_ => by
  show 0 ≤ r.foldl _ a∧r.foldl _ a ≤ B
  have:∀ (r:List Int) (a:Int),(0 ≤ a∧a ≤ B)→(∀ x ∈ r,0 ≤ x∧x ≤ B)→0 ≤ r.foldl (fun m b => if b > m then b else m) a∧r.foldl (fun m b => if b > m then b else m) a ≤ B:=by
   intro r
   induction r with
   | nil => intro a ha _; exact ha
   | cons b r ih =>
    intro a ha hr
    refine ih _ ?_ fun x hx => hr x (.tail _ hx)
    have:=hr b (.head _)
    dsimp only
    split <;> omega
  exact this r a (h a (.head _)) fun x hx => h x (.tail _ hx)
theorem mostZ_bd (p l:List Nat):1 ≤ mostZ p l∧mostZ p l ≤ 10:=by
 have:=maxL_bd (B:=9) ((runsW p l).map fun (k:Nat) => (k:Int)) (fun x hx => by
  left;rcases List.mem_map.mp hx with ⟨k,hk,z0_⟩;right;subst z0_
  have:=(List.mem_filter.mp hk).1
  simp at this
  omega) (by decide)
 unfold mostZ
 omega
theorem canLay_strs:∀ l:List Str,(∀ x ∈ l,PyData.strOk x = true)→PyData.canLayAll0 (toPys (l.map .str)) = true
 | [],_ => rfl
 | a :: r,h => by
  show (PyData.strOk a && _) = true
  (rewrite [canLay_strs r fun x hx => h x (.tail _ hx)] at ⊢; rw [h a (.head _)]); rfl
theorem depth_strs:∀ l:List Str,PyData.depthAll (toPys (l.map .str)) = 0
 | [] => rfl
 | a :: r => by
  show max _ _ = 0
  rw [depth_strs r]; rfl
theorem ok_ints (l:List Int):okD (.lst (l.map .int)) = true:=by
 unfold okD
 have h1:(toPy (.lst (l.map .int))).canLay0 = true:=canLay_ints l
 have h2:(toPy (.lst (l.map .int))).depth = 1:=by
  show PyData.depthAll (toPys (l.map .int)) + 1 = 1
  rw [depth_ints]
 rw [h1,h2]; rfl
theorem ok_strs (l:List Str) (h:∀ x ∈ l,PyData.strOk x = true):okD (.lst (l.map .str)) = true:=by
 unfold okD
 have h1:(toPy (.lst (l.map .str))).canLay0 = true:=canLay_strs l h
 have h2:(toPy (.lst (l.map .str))).depth = 1:=by
  show PyData.depthAll (toPys (l.map .str)) + 1 = 1
  rw [depth_strs]
 rw [h1,h2]; rfl
theorem cmpEqInts (a b:List Int):cmpD .Eq (.lst (a.map .int)) (.lst (b.map .int)) = some (decide (a = b)):=by
 show (if _ then _ else _) = _
 rw [if_pos (by rw [ok_ints,ok_ints]; rfl)] at ⊢
 exact congrArg some (eqv_ints a b)
theorem cmpEqNil (a:List Str) (h:∀ x ∈ a,PyData.strOk x = true):cmpD .Eq (.lst (a.map .str)) (.lst []) = some (decide (a = [])):=by
 show (if _ then _ else _) = _
 rw [if_pos (by rw [ok_strs _ h]; rfl)] at ⊢
 cases a with
 | nil => rfl
 | cons x r => rfl
end
section
section
variable {c:Cx} {n:Nat} {env:Env} {lo:List (Str × D)} {o e:PySem.Expr} {apos pos:Pos} {l:List Nat}
theorem EV.lstrip {x y:Str} {pl:Sem Bool} (a:EV c n env lo o (.str x)) (b:EV c n env lo e (.str y)) (hl:x.length ≤ lim)
  (he:autoParam (eval (.Call (.Attribute o "lstrip" apos) [e] [] pos) env = (do
   let ov ← eval o env
   standAt apos.atName
   let (f,first) ← holding [ov] (getMethod ov "lstrip" pl)
   callWith pos f first (backTo pos (starEach [e] env)) (backToKw pos (keywordEach [] env)))) byRfl) (hp:autoParam (Plain [e] env pos) byPl) (hse:autoParam (starEach [e] env = (false,eval e env) :: starEach [] env) byRfl) :
  EV c n env lo (.Call (.Attribute o "lstrip" apos) [e] [] pos) (.str (Txt.lstripChars x y)):=EV.smeth (m := "lstrip") a (EVs.cons b .nil hse) (meth_lstrip hl) he hp
theorem EV.rest {x:Str} {pl:Sem Bool} (hx:x = " \t") (a:EV c n env lo o (.str (S l))) (b:EV c n env lo e (.str x)) (hl:l.length ≤ 100)
  (he:autoParam (eval (.Call (.Attribute o "lstrip" apos) [e] [] pos) env = (do
   let ov ← eval o env
   standAt apos.atName
   let (f,first) ← holding [ov] (getMethod ov "lstrip" pl)
   callWith pos f first (backTo pos (starEach [e] env)) (backToKw pos (keywordEach [] env)))) byRfl) (hp:autoParam (Plain [e] env pos) byPl) (hse:autoParam (starEach [e] env = (false,eval e env) :: starEach [] env) byRfl) :
  EV c n env lo (.Call (.Attribute o "lstrip" apos) [e] [] pos) (.str (S (rsT l))):=by
 subst hx
 exact EV.cast (EV.lstrip a b (by rw [S_len]; unfold lim; omega) he hp hse) (congrArg D.str (lstrip_S l))
end
noncomputable def fsR (p l:List Nat):D→Option D
 | .int k => if hasRun p l k.toNat then some (.int k) else none
 | _ => none
noncomputable def fsO (p l:List Nat):D→Option D
 | .int k => if decide (colD (1 + k) 0 p ≥ colD (1 + k) 0 l) then some (.str (Str.ofString (toString (k + 1)))) else none
 | _ => none
theorem fsR_map (p l:List Nat):((rangeD 0 10).filterMap (fsR p l)) = (runsW p l).map fun (k:Nat) => D.int (k:Int):=by
 unfold rangeD runsW
 generalize List.range 10 = r
 induction r with
 | nil => rfl
 | cons a r ih =>
  rw [List.map_cons,List.filterMap_cons,List.filter_cons]
  have e:fsR p l (.int (0 + (a:Int))) = if hasRun p l a then some (.int (a:Int)) else none:=by
   show (if hasRun p l (0 + (a:Int)).toNat then some (D.int (0 + (a:Int))) else none) = _
   rw [Int.zero_add,Int.toNat_natCast]
  rw [e]
  cases hasRun p l a with
  | true => exact congrArg (List.cons _) ih
  | false => exact ih
theorem fsO_map (p l:List Nat) (m:Nat):((rangeD 0 m).filterMap (fsO p l)) = (((List.range m).filter fun (k:Nat) => decide (colD (1 + k) 0 p ≥ colD (1 + k) 0 l)).map fun (k:Nat) => Str.ofString (toString ((k:Int) + 1))).map D.str:=by
 unfold rangeD
 generalize List.range m = r
 induction r with
 | nil => rfl
 | cons a r ih =>
  rw [List.map_cons,List.filterMap_cons,List.filter_cons]
  have e:fsO p l (.int (0 + (a:Int))) = if decide (colD (1 + a) 0 p ≥ colD (1 + a) 0 l) then some (.str (Str.ofString (toString ((a:Int) + 1)))) else none:=by
   show (if decide (colD (1 + (0 + (a:Int))) 0 p ≥ colD (1 + (0 + (a:Int))) 0 l) then some (D.str (Str.ofString (toString ((0 + (a:Int)) + 1)))) else none) = _
   rw [Int.zero_add]
  rw [e]
  cases decide (colD (1 + a) 0 p ≥ colD (1 + a) 0 l) with
  | true => exact congrArg (List.cons _) ih
  | false => exact ih
theorem overS (p l:List Nat):((overN p l).map fun (k:Nat) => Str.ofString (toString ((k:Int) + 1))) = (overW p l).map fun i => Str.ofString (toString i):=by
 unfold overW
 rw [List.map_map]
 rfl
theorem digits_ok:∀ k < 11,PyData.strOk (Str.ofString (toString ((k:Nat):Int))) = true∧PyData.strOk (Str.ofString (toString (((k:Nat):Int) + 1))) = true∧(Str.ofString (toString (((k:Nat):Int) + 1))).length ≤ 10:=by decide +kernel
theorem over_lt {p l:List Nat} {k:Nat} (h:k ∈ overN p l):k < 10:=by
 have h1:=mostZ_bd p l
 unfold overN at h
 have:=(List.mem_filter.mp h).1
 simp at this
 omega
theorem overN_len (p l:List Nat):(overN p l).length ≤ 10:=by
 have h1:=mostZ_bd p l
 unfold overN
 refine Nat.le_trans (List.length_filter_le _ _) ?_
 rw [List.length_range]; omega
theorem fw_same (p l:List Nat):(("at tab size":Str) ++ (if 1 < (overN p l).length then ("s ":Str) else " ")) ++ Txt.join ", " ((overN p l).map fun (k:Nat) => Str.ofString (toString ((k:Int) + 1))) = fwT (overW p l):=by
 have e1:(overW p l).length = (overN p l).length:=by unfold overW; simp
 unfold fwT
 rw [overS,e1]
 congr 1
 split
 ·decide +kernel
 ·decide +kernel
theorem call_run {prog:Program} {w:World} {P:Params} (p l:List Nat):CallOk prog w P (.builtin "max") [.lst ((runsW p l).map fun (k:Nat) => D.int (k:Int))] (.int (maxL ((runsW p l).map fun (k:Nat) => (k:Int)))):=by
 have hne:=runsW_ne p l
 cases hr:runsW p l with
 | nil => rw [hr] at hne; cases hne
 | cons a r =>
  have e:(((a :: r).map fun (k:Nat) => D.int (k:Int))) = ((a :: r).map fun (k:Nat) => (k:Int)).map D.int:=by rw [List.map_map]; rfl
  rw [e]
  exact call_maxL (asInts_map _)
theorem g_columns {c:Cx} (h:Is c) {env:Env} (hk:autoParam (env.kindOf "_law_columns" = some .globalImplicit) byRfl):GlobIs c env "_law_columns" (.ref 311):=GlobIs.glob (by rw [h]; rfl) hk
theorem colsT_at (p l x:List Nat) (k:Nat) (h:k < (mostZ p l).toNat):((colsT p l x).map D.int)[((k:Nat):Int).toNat]? = some (.int (colD (1 + k) 0 x)):=by
 unfold colsT
 (rewrite [Int.toNat_natCast]; rw [List.getElem?_map,List.getElem?_map,List.getElem?_range h] at ⊢)
 rfl
theorem colsT_len (p l x:List Nat):((colsT p l x).map D.int).length ≤ lim:=by
 have:=mostZ_bd p l
 unfold colsT lim
 rw [List.length_map,List.length_map,List.length_range]
 omega
theorem mul_run (k:Nat) (h:k < 10):binD .Mult (.str " ") (.int (k:Int)) = some (.str (Txt.mul " " (k:Int))):=by
 show (if _ then _ else _) = _
 have:(Str.ofString " ").length = 1:=by decide
 rw [if_pos ⟨by rw [this]; decide,by omega,by omega⟩] at ⊢
theorem join_small (ts:List Str) (h:ts.length ≤ 10) (hw:∀ x ∈ ts,x.length ≤ 10):(Txt.join ", " ts).length ≤ 120:=by
 have e:ts = (ts.map fun x => x.cps.toList).map S:=by
  rw [List.map_map]
  exact (List.map_id' ts).symm
 have e2:Str.ofString ", " = S [44,32]:=by decide
 rw [e,e2,txt_join,S_len]
 have q1:=joinL_le (m:=10) [44,32] (ts.map fun x => x.cps.toList) fun p hp => by
  left;rcases List.mem_map.mp hp with ⟨i,hi,z0_⟩;right;subst z0_
  exact hw i hi
 rw [List.length_map] at q1
 have q2:=Nat.mul_le_mul_right (10 + [44,32].length) h
 have q3:10 * (10 + ([44,32]:List Nat).length) = 120:=rfl
 omega
section
variable {c:Cx} {n:Nat} {env:Env} {ex:List (Str × Value)} {lo:List (Str × D)} {ow:List (Str × OwnD)} {tg:PySem.Expr}
theorem Ex1.loopT {iter:PySem.Expr} {body:List Stmt} {pos:Pos} {fl:Bool} {ds:List D} {dEnd:D} (it:IT c n env lo fl tg iter ds) (L:Nat→List (Str × D)) (W:Nat→List (Str × OwnD)) (N:Nat) (hN:N ≤ ds.length)
  (start:Sub (L 0) lo) (startO:SubO (W 0) ow) (step:∀ i d,i ≤ N→ds[i]? = some d→Step c n env ex tg d body (L i) (W i) (if i < N then .next (L (i + 1)) (W (i + 1)) else .ret dEnd)) (hs:autoParam (∀ x,foldedSetIterable iter env x = pure x) byIR) :
  Ex1 c n env ex (.For tg iter body [] pos) lo ow (if N < ds.length then .ret dEnd else .next (L N) (W N)):=by
 refine Ex1.loop it L W N hN start startO (fun i d hi hd => ?_) ?_ hs
 ·have:=step i d (Nat.le_of_lt hi) hd
  rwa [if_pos hi] at this
 ·by_cases h:N < ds.length
  ·rw [if_pos h]
   have:=step N _ (Nat.le_refl _) (List.getElem?_eq_getElem h)
   rw [if_neg (Nat.lt_irrefl _)] at this
   exact .inr ⟨_,List.getElem?_eq_getElem h,.inr ⟨dEnd,this,rfl⟩⟩
  ·rw [if_neg h]
   exact .inl ⟨Nat.le_antisymm hN (Nat.not_lt.mp h),rfl⟩
theorem Ex.consIf {st:Stmt} {rest:List Stmt} {p:Prop} [Decidable p] {d1 d2:D} {lo':List (Str × D)} {ow':List (Str × OwnD)} (x:Ex1 c n env ex st lo ow (if p then .ret d1 else .next lo' ow')) (y:¬ p→Ex c n env ex rest lo' ow' (.ret d2)):Ex c n env ex (st :: rest) lo ow (.ret (if p then d1 else d2)):=by
 by_cases h:p
 ·rw [if_pos h] at x ⊢
  exact Ex.cons_ret x
 ·rw [if_neg h] at x ⊢
  exact Ex.cons x (y h)
end
set_option maxHeartbeats 2000000 in
theorem f_taken {c:Cx} (h:Is c) {n:Nat} (ls:List (List Nat)) (h0:0 < ls.length) (hn:ls.length ≤ 500) (hw:∀ l ∈ ls,l.length ≤ 100):FnOk c (n + 2) (.ref 316) [.lst (strsD ls)] [] (takenD ls):=by
 refine FnOk.def (ho:=by rw [h]; rfl) (hcd:=by rw [h]; rfl) (N:=["page"]) (ds0:=[.lst (strsD ls)]) (b1 fun _ => rfl) (by decide) (by rfl) ?_ (.inl rfl)
 intro L
 have hp0:ls[0]? = some (ls.getD 0 []):=by rw [List.getD_eq_getElem?_getD,List.getElem?_eq_getElem h0] at ⊢; rfl
 have hp1:=hw _ (List.mem_of_getElem? hp0)
 have hpos:=takenTo_pos ls
 have hbd:=takenTo_bd (ldT (ls.getD 0 [])) ls hw
 have hrd:takenD ls = match (List.range ls.length).find? (fun j => !(okT (ldT (ls.getD 0 [])) (ldT (ls.getD j [])))) with
  | none => .tup [.lst (strsD (takenTo (ldT (ls.getD 0 [])) ls ls.length)),.none]
  | some N => .tup [.lst (strsD (takenTo (ldT (ls.getD 0 [])) ls N)),.tup [.int (N:Int),.str (fwT (overW (ldT (ls.getD 0 [])) (ldT (ls.getD N []))))]]:=rfl
 rw [hrd]
 clear hrd
 have hll:(strsD ls).length ≤ lim:=by simp [strsD,lim]; omega
 have i0:∀ {lo:List (Str × D)} {env:Env} {p1 p2 p3:Pos} {k:Nat},lo.lookup ("page":Str) = some (D.lst (strsD ls))→(∀ u v,subscripted (.Constant (.int 0) k p1) false u v = operate [u,v] (getItem u v))→EV c (n + 1) env lo (.Subscript (.Name "page" p2) (.Constant (.int 0) k p1) p3) (.str (S (ls.getD 0 []))):=fun hlo hs =>
  EV.itemL (d:=.str (S (ls.getD 0 []))) (EV.name hlo) (EV.int (i:=0)) (by decide) (by show (strsD ls)[0]? = _; unfold strsD; (rewrite [List.getElem?_map] at ⊢; rw [hp0]); rfl) hll hs
 refine Ex.cons (Ex1.assign (d:=.str (S (ldT (ls.getD 0 [])))) (EV.cast (EV.cut (i0 rfl (by intro _ _; rfl)) PV.none (PV.some (EV.bin (EV.lenS h (i0 rfl (by intro _ _; rfl)) (by rw [S_len]; unfold lim; omega)) (EV.lenS h (EV.rest rfl (i0 rfl (by intro _ _; rfl)) EV.str hp1) (by rw [S_len]; have:=(List.dropWhile_sublist (l:=ls.getD 0 []) isWs).length_le; unfold rsT lim; omega)) rfl)) (by rw [S_len]; unfold lim; omega)) (by rw [S_len,S_len]; exact congrArg D.str (cutLead (ls.getD 0 [])))) (.inr ⟨rfl,rfl⟩)) ?_
 have hself:eqT (ldT (ls.getD 0 [])) (ldT (ls.getD 0 [])) = true:=eqT_self _
 have hld:(ldT (ls.getD 0 [])).length ≤ 100:=Nat.le_trans (List.takeWhile_sublist _).length_le hp1
 clear i0
 generalize hP:ldT (ls.getD 0 []) = p at hpos hbd hself hld
 refine Ex.cons (Ex1.fresh (EVF.list .nil) (.inl rfl)) ?_
 have hen:(enumD (strsD ls)).length = ls.length:=by rw [enumD_len]; simp [strsD]
 have elem:∀ {j:Nat} {x:D},(enumD (strsD ls))[j]? = some x→∃ l,ls[j]? = some l∧x = .tup [.int (j:Int),.str (S l)]:=fun hx => by
  left;rcases enumD_at hx with ⟨d0,hd0,z0_⟩;right;subst z0_
  unfold strsD at hd0
  rw [List.getElem?_map] at hd0
  left;rcases Option.map_eq_some_iff.mp hd0 with ⟨l,hl,z0_⟩;right;subst z0_
  exact ⟨l,hl,rfl⟩
 have hcg:∀ i j:Nat,cmpD .Gt (.int (i:Int)) (.int (j:Int)) = some (decide (j < i)):=fun i j => by
  show some (decide ((i:Int) > (j:Int))) = _
  by_cases q:j < i
  ·(rewrite [decide_eq_true q]; rw [decide_eq_true (by omega)] at ⊢)
  ·(rewrite [decide_eq_false q]; rw [decide_eq_false (by omega)] at ⊢)
 left;rcases find_end (fun j => !(okT p (ldT (ls.getD j [])))) ls.length with ⟨N,hN,hok,hend⟩;right
 have hres:(match (List.range ls.length).find? (fun j => !(okT p (ldT (ls.getD j [])))) with
  | none => D.tup [.lst (strsD (takenTo p ls ls.length)),.none]
  | some N => .tup [.lst (strsD (takenTo p ls N)),.tup [.int (N:Int),.str (fwT (overW p (ldT (ls.getD N []))))]]) = if N < (enumD (strsD ls)).length then D.tup [.lst (strsD (takenTo p ls N)),.tup [.int (N:Int),.str (fwT (overW p (ldT (ls.getD N []))))]] else .tup [.lst (strsD (takenTo p ls N)),.none]:=by
  rw [hen]
  rcases hend with ⟨q1,q2⟩ | ⟨q1,_,q2⟩
  ·(rewrite [q2]; rewrite [if_neg (by omega)] at ⊢; rw [q1])
  ·rw [q2,if_pos q1]
 rw [hres]
 clear hres
 refine Ex.consIf (Ex1.loopT (IT.enum (g_enumerate h) (EV.name rfl)) (fun _ => [("page",.lst (strsD ls)),("first",.str (S p))]) (fun j => [("heads",.lst (strsD (takenTo p ls j)))]) N (by rw [hen]; exact hN) (.of rfl) (.of rfl) ?_) fun _ => Ex.cons_ret (Ex1.ret (EV.tuple (EVs.cons (EV.name rfl) (EVs.cons EV.none .nil))))
 intro j x hj hx
 left;rcases elem hx with ⟨l,hl,z0_⟩;right;subst z0_
 have hlw:=hw l (List.mem_of_getElem? hl)
 have e:ls.getD j [] = l:=by (rewrite [List.getD_eq_getElem?_getD] at ⊢; rw [hl]); rfl
 have hbj:=hbd j
 have hj5:j < 500:=by have:=(List.getElem?_eq_some_iff.mp hl).1; omega
 refine Step.of (Tg.tuple (Tgs.cons (.inl rfl) (Tgs.cons (.inl rfl) Tgs.nil))) ?_
 obtain ⟨mz1,mz2⟩:=mostZ_bd p (ldT l)
 have hldl:(ldT l).length ≤ 100:=Nat.le_trans (List.takeWhile_sublist _).length_le hlw
 have hrsl:(rsT l).length ≤ 100:=Nat.le_trans (List.dropWhile_sublist _).length_le hlw
 have hov:=overN_len p (ldT l)
 refine Ex.cons (Ex1.assign (d:=.str (S (rsT l))) (EV.rest rfl (EV.name rfl) EV.str hlw) (.inl rfl)) ?_
 refine Ex.cons (Ex1.assign (d:=.str (S (ldT l))) (EV.cast (EV.cut (EV.name rfl) PV.none (PV.some (EV.bin (EV.lenS h (EV.name rfl) (by rw [S_len]; unfold lim; omega)) (EV.lenS h (EV.name rfl) (by rw [S_len]; unfold lim; omega)) rfl)) (by rw [S_len]; unfold lim; omega)) (by rw [S_len,S_len]; exact congrArg D.str (cutLead l))) (.inr ⟨rfl,rfl⟩)) ?_
 refine Ex.cons (Ex1.assign (d:=.int (mostZ p (ldT l))) (EV.bin EV.int (EV.call (g_max h) KeepF.builtin (EVs.cons (EV.cast (EV.comp (cap:=[("first",.str (S p)),("front",.str (S (ldT l)))]) none (fsR p (ldT l)) (by rfl) (.of rfl) (IT.range1 (z:=10) (g_range h) EV.int (by decide)) ?_ (by decide)) (congrArg D.lst (fsR_map p (ldT l)))) .nil) (FnOk.builtin (call_run p (ldT l)))) rfl) (.inl rfl)) ?_
 ·intro i x hx C ex hx2
  obtain ⟨hi,rfl⟩:=rangeD_at hx
  have hi10:i < 10:=hi
  rw [show (0:Int) + (i:Int) = (i:Int) from by omega] at ⊢
  refine CB.two (b:=hasRun p (ldT l) i) ((.of rfl)) (Tg.name (.inl rfl) (hex:=hx2 _ rfl)) (TV.boolop (AV.or_cons (TV.cmp (EV.bin EV.str (EV.name rfl) (mul_run i hi10)) (EV.name rfl) rfl) fun _ => AV.or_cons (TV.cmp (EV.bin EV.str (EV.name rfl) (mul_run i hi10)) (EV.name rfl) rfl) fun _ => AV.or_nil)) (fun z => ⟨.int (i:Int),?_,EV.name rfl⟩) (fun z => ?_)
  ·show (if hasRun p (ldT l) ((i:Int)).toNat then some (D.int (i:Int)) else none) = _
   rw [Int.toNat_natCast,z]; rfl
  ·show (if hasRun p (ldT l) ((i:Int)).toNat then some (D.int (i:Int)) else none) = _
   rw [Int.toNat_natCast,z]; rfl
 have ecol:∀ x:List Nat,D.lst ((List.range (mostZ p (ldT l)).toNat).map fun (k:Nat) => .int (colD (1 + k) 0 (S x).cps.toList)) = .lst ((colsT p (ldT l) x).map D.int):=fun x => by
  unfold colsT
  rw [List.map_map]
  rfl
 refine Ex.cons (Ex1.unpack (ds:=[.lst ((colsT p (ldT l) p).map D.int),.lst ((colsT p (ldT l) (ldT l)).map D.int)]) (EV.tuple (EVs.cons (EV.cast (EV.call (g_columns h) (KeepF.of (by rw [h]; rfl)) (EVs.cons (EV.name rfl) (EVs.cons (EV.name rfl) .nil)) (f_columns h (S p) (mostZ p (ldT l)) (by rw [S_len]; omega) (by omega))) (ecol p)) (EVs.cons (EV.cast (EV.call (g_columns h) (KeepF.of (by rw [h]; rfl)) (EVs.cons (EV.name rfl) (EVs.cons (EV.name rfl) .nil)) (f_columns h (S (ldT l)) (mostZ p (ldT l)) (by rw [S_len]; omega) (by omega))) (ecol (ldT l))) .nil))) (Tgs.cons (.inr ⟨rfl,rfl⟩) (Tgs.cons (.inr ⟨rfl,rfl⟩) Tgs.nil))) ?_
 refine Ex.cons (Ex1.assignComp (cap:=[("here",.lst ((colsT p (ldT l) (ldT l)).map D.int)),("margin",.lst ((colsT p (ldT l) p).map D.int))]) none (fsO p (ldT l)) (by rfl) (.of rfl) (IT.range1 (g_range h) (EV.name rfl) (by omega)) ?_ (by rw [rangeD_len]; unfold lim; omega) (.inl rfl)) ?_
 ·intro i x hx C ex hx2
  obtain ⟨hi,rfl⟩:=rangeD_at hx
  rw [show (0:Int) + (i:Int) = (i:Int) from by omega] at ⊢
  have hi10:i < 11:=by omega
  refine CB.two (b:=decide (colD (1 + i) 0 p ≥ colD (1 + i) 0 (ldT l))) ((.of rfl)) (Tg.name (.inl rfl) (hex:=hx2 _ rfl)) (TV.cmp (EV.itemL (EV.name rfl) (EV.name rfl) (by omega) (colsT_at _ _ _ i hi) (colsT_len _ _ _)) (EV.itemL (EV.name rfl) (EV.name rfl) (by omega) (colsT_at _ _ _ i hi) (colsT_len _ _ _)) rfl) (fun z => ⟨.str (Str.ofString (toString ((i:Int) + 1))),?_,EV.call (g_str h) KeepF.type (EVs.cons (EV.bin (EV.name rfl) EV.int rfl) .nil) (FnOk.builtin (call_strI ?_))⟩) (fun z => ?_)
  ·show (if decide (colD (1 + (i:Int)) 0 p ≥ colD (1 + (i:Int)) 0 (ldT l)) then some (D.str (Str.ofString (toString ((i:Int) + 1)))) else none) = _
   rw [z]; rfl
  ·have q1:((i:Int) + 1).natAbs = i + 1:=by omega
   have q2:(2:Nat) ^ 60 = 1152921504606846976:=rfl
   exact decide_eq_true (by rw [q1,q2]; omega)
  ·show (if decide (colD (1 + (i:Int)) 0 p ≥ colD (1 + (i:Int)) 0 (ldT l)) then some (D.str (Str.ofString (toString ((i:Int) + 1)))) else none) = _
   rw [z]; rfl
 rw [show (rangeD 0 (mostZ p (ldT l)).toNat).filterMap (fsO p (ldT l)) = ((overN p (ldT l)).map fun (k:Nat) => Str.ofString (toString ((k:Int) + 1))).map D.str from fsO_map _ _ _] at ⊢
 have hsok:∀ x ∈ (overN p (ldT l)).map (fun (k:Nat) => Str.ofString (toString ((k:Int) + 1))),PyData.strOk x = true:=fun x hx => by
  left;rcases List.mem_map.mp hx with ⟨k,hk,z0_⟩;right;subst z0_
  exact (digits_ok k (by have:=over_lt hk; omega)).2.1
 have hnil:decide ((overN p (ldT l)).map (fun (k:Nat) => Str.ofString (toString ((k:Int) + 1))) = []) = decide (overN p (ldT l) = []):=by
  cases overN p (ldT l) <;> rfl
 have hq0:cmpD .Eq (.lst ((colsT p (ldT l) p).map D.int)) (.lst ((colsT p (ldT l) (ldT l)).map D.int)) = some (eqT p (ldT l)):=cmpEqInts _ _
 by_cases hjN:j < N
 ·rw [if_pos hjN]
  have hk:okT p (ldT l) = true:=by
   have:=hok j hjN
   rw [e] at this
   simpa using this
  cases hq:eqT p (ldT l) with
  | true =>
   rw [hq] at hq0
   rw [takenTo_succ_eq hl hq,strsD_app]
   exact Ex.post (Ex.cons (Ex1.ite (t:=true) (TV.cmp (EV.name rfl) (EV.name rfl) hq0) (fun _ => Ex.cons (Ex1.append (EV.name rfl) rfl (by simp [strsD,lim]; omega)) Ex.nil) (fun z => by cases z)) Ex.nil) (.of rfl) (.of rfl)
  | false =>
   rw [hq] at hq0
   have hlt:decide (overN p (ldT l) = []) = true:=by
    unfold okT at hk
    rw [hq] at hk
    exact hk
   rw [takenTo_succ_lt hl hq]
   have hjpos:0 < (takenTo p ls j).length:=by
    cases j with
    | zero =>
     rw [hp0] at hl; cases hl
     rw [hP,hself] at hq; cases hq
    | succ j => exact hpos j
   generalize takenTo p ls j = hs at hbj hjpos
   have hla:=getD_le hjpos
   refine Ex.post (Ex.cons (Ex1.ite (t:=false) (TV.cmp (EV.name rfl) (EV.name rfl) hq0) (fun z => by cases z) (fun _ => Ex.cons (Ex1.ite (t:=true) (TV.cmp (EV.name rfl) (EV.list .nil) ((cmpEqNil _ hsok).trans (by rw [hnil,hlt]))) (fun _ =>
    Ex.cons (Ex1.setF (k:=-1) (j:=hs.length - 1) (EV.cat (EV.cat (EV.last (EV.name rfl) (EV.neg EV.int) (by simp [strsD]; omega) (strsD_last (by omega)) (by simp [strsD,lim]; omega)) EV.str ?_) (EV.name rfl) ?_) (EV.neg EV.int) rfl rfl (by simp [strsD,lim]; omega) (by rw [idx_last (by simp [strsD]; omega)] at ⊢; simp [strsD])) Ex.nil) (fun z => by cases z)) Ex.nil)) Ex.nil) (.of rfl) ⟨?_,trivial⟩
   ·have:(Str.ofString " ").length = 1:=by decide
    rw [S_len,this]; unfold lim; omega
   ·have:(Str.ofString " ").length = 1:=by decide
    rw [str_len_app,S_len (hs.getD (hs.length - 1) []),S_len (rsT l),this]; unfold lim; omega
   ·have e2:(Str.ofString " ") = S [32]:=by decide
    rw [e2,S_app,S_app]
    unfold strsD
    rw [List.map_set]
    rfl
 ·have hjN2:j = N:=by omega
  subst hjN2
  have hno:okT p (ldT l) = false:=by
   rcases hend with ⟨q1,_⟩ | ⟨_,q2,_⟩
   ·have:=(List.getElem?_eq_some_iff.mp hl).1
    omega
   ·rw [e] at q2
    simpa using q2
  rw [if_neg hjN,e]
  have hq:eqT p (ldT l) = false:=by
   unfold okT at hno
   cases z:eqT p (ldT l) with
   | true => rw [z] at hno; cases hno
   | false => rfl
  have hlt:decide (overN p (ldT l) = []) = false:=by
   unfold okT at hno
   rw [hq] at hno
   exact hno
  have hfw:=fw_same p (ldT l)
  rw [hq] at hq0
  rw [hfw.symm]
  have hsl:∀ x ∈ (overN p (ldT l)).map (fun (k:Nat) => Str.ofString (toString ((k:Int) + 1))),x.length ≤ 10:=fun x hx => by
   left;rcases List.mem_map.mp hx with ⟨k,hk,z0_⟩;right;subst z0_
   exact (digits_ok k (by have:=over_lt hk; omega)).2.2
  have hat:(Str.ofString "at tab size").length + (if 1 < (overN p (ldT l)).length then ("s ":Str) else " ").length ≤ 20:=by
   split
   ·decide +kernel
   ·decide +kernel
  have hol:((overN p (ldT l)).map (fun (k:Nat) => Str.ofString (toString ((k:Int) + 1)))).length = (overN p (ldT l)).length:=by simp
  have hov':(((overN p (ldT l)).map (fun (k:Nat) => Str.ofString (toString ((k:Int) + 1)))).map D.str).length = (overN p (ldT l)).length:=by simp
  refine Ex.cons_ret (Ex1.ite (t:=false) (TV.cmp (EV.name rfl) (EV.name rfl) hq0) (fun z => by cases z) (fun _ => Ex.cons_ret (Ex1.ite (t:=false) (TV.cmp (EV.name rfl) (EV.list .nil) ((cmpEqNil _ hsok).trans (by rw [hnil,hlt]))) (fun z => by cases z) (fun _ =>
   Ex.cons_ret (Ex1.ret (EV.tuple (EVs.cons (EV.name rfl) (EVs.cons (EV.tuple (EVs.cons (EV.name rfl) (EVs.cons (EV.cat (EV.cat EV.str (EV.cast (EV.ite (t:=decide (1 < (overN p (ldT l)).length)) (TV.cmp (EV.lenL h (EV.name rfl) (by rw [hov']; unfold lim; omega)) EV.int ?_) (fun _ => EV.str) (fun _ => EV.str)) ?_) ?_) (EV.joinS EV.str (EV.name rfl) (asStrs_map _) ⟨by decide,by rw [hol]; omega,?_⟩) ?_) .nil))) .nil))))))))
  ·rw [hov']; exact hcg _ 1
  ·by_cases z:1 < (overN p (ldT l)).length
   ·rw [if_pos (decide_eq_true z),if_pos z]
   ·(rewrite [if_neg (by simpa using z)] at ⊢; rw [if_neg z])
  ·refine Nat.le_trans hat ?_
   unfold lim; omega
  ·exact List.all_eq_true.mpr fun y hy => decide_eq_true (by have:=hsl y hy; omega)
  ·rw [str_len_app]
   have q1:=join_small _ (by rw [hol]; exact hov) hsl
   unfold lim
   omega
end
section
noncomputable def frs (A:Around):List Addr:=(A.frames.getD []).filterMap (·.frame)
noncomputable def TF (h:Heap):Prop:=∃ vs,h.get? 254 = some { cls:=.none,data:=.fields vs }
theorem PF.tf {h:Heap} (p:PF h):TF h:=⟨_,p⟩
theorem TF.ext {h h':Heap} (x:TF h) (e:Ext h h'):TF h':=let ⟨vs,q⟩:=x; ⟨vs,e _ _ q⟩
structure KX (fr:List Addr) (s s':Shared):Prop where
 keep:∀ a o,a ≠ 254→a ∉ fr→s.heap.get? a = some o→s'.heap.get? a = some o
 slot:s.heap.UpToSlots s'.heap
 tab:TF s'.heap
 os:s'.os = s.os
 gens:AllBare s'.gens
theorem KX.of {fr:List Addr} {s s':Shared} (k:Keeps s s') (t:TF s.heap) (g:AllBare s.gens):KX fr s s':=by
 left;rcases k with ⟨h,tk,z0_,e⟩;right;subst z0_
 exact ⟨fun a o _ _ q => e a o q,.of_keeps e,t.ext e,rfl,g⟩
theorem KX.of_kg {fr:List Addr} {s s':Shared} (k:KG s s') (t:TF s.heap):KX fr s s':=⟨fun a o n _ q => k.keep a o n q,fun b o e hn => by
 by_cases z:b = 254
 ·subst z
  obtain ⟨vs,q⟩:=t
  rw [q] at e; cases e
  exact absurd rfl (hn vs)
 ·exact ⟨o.slots,k.keep b o z e⟩,k.tab,k.os,k.gens⟩
theorem KX.trans {fr:List Addr} {a b d:Shared} (x:KX fr a b) (y:KX fr b d):KX fr a d:=⟨fun q o n m e => y.keep q o n m (x.keep q o n m e),x.slot.trans y.slot,y.tab,y.os.trans x.os,y.gens⟩
theorem nameIs_slots {env:Env} {h h':Heap} {x:Str} {v:Value} (k:h.UpToSlots h') (q:NameIs env h x v):NameIs env h' x v:=by
 rcases q with ⟨a,m,b,d⟩ | ⟨a,q,b,o,ho,hd⟩
 ·exact .inl ⟨a,m,k.ns b,d⟩
 ·obtain ⟨sl,e⟩:=k q o ho fun vs z => by rw [hd] at z; cases z
  exact .inr ⟨a,q,b,_,e,hd⟩
section
variable {c:Cx} {n:Nat} {A:Around} {env:Env} {b:Shared} {co own:List Addr} {ad:Str→List Addr} {lo lo':List (Str × D)} {ow ow':List (Str × OwnD)} {ex:List (Str × Value)} {s s':Shared} {o:Out} {tg:PySem.Expr}
theorem Sto.kgT (S:Sto c n A env b co own ad lo ow ex s) (K:KG s s') (htk:s.toks ≤ s'.toks) (p:TF s.heap) (hno:254 ∉ own) (hcH:c.H.get? 254 = none):Sto c n A env { s' with heap:=hideAll b.heap [254] } co own ad lo ow ex s':=by
 obtain ⟨vs0,p⟩:=p
 have S1:Sto c n A env { b with heap:=hideAll b.heap [254] } co own ad lo ow ex s:={ S with
  new:=fun a ha => (S.new a ha).imp id fun z => none_of_ext (fun a o e => of_hideAll _ e) z
  keep:=by
   left;rcases S.keep with ⟨h',tk,e,k⟩;right
   exact ⟨h',tk,e,fun a o q => k _ _ (of_hideAll _ q)⟩ }
 have S2:=S1.wr (wr:=[254]) (h':=s'.heap) (tk:=s'.toks) (fun b hb => by simp at hb; subst hb; exact ⟨_,_,p,rfl⟩) (fun a o na e => K.keep a o (fun z => na (by simp [z])) e) (fun a ha => by simp at ha; subst ha; exact ⟨hno,hcH,hideAll_none _ (by simp)⟩) htk
 exact {
  sit:=⟨S2.sit.ek,S2.sit.ao,S2.sit.ext,S2.sit.ok,S2.sit.base,S2.sit.tok,S2.sit.names⟩
  coIn:=S2.coIn
  new:=S2.new
  keep:=⟨s'.heap,s'.toks,rfl,have k:=Keeps.ext S2.keep; fun a o e => k a o e⟩
  loc:=S2.loc
  cell:=S2.cell
  cells:=S2.cells
  exact:=S2.exact
  owns:=S2.owns
  apart:=S2.apart }
theorem Sit.fx {fr:List Addr} (S:Sit c n A env own lo s) (kp:∀ a o,a ∉ fr→s.heap.get? a = some o→s'.heap.get? a = some o) (sl:s.heap.UpToSlots s'.heap) (htk:s.toks ≤ s'.toks) (hfr:∀ a ∈ fr,a ∈ own) (hnf:∀ a ∈ fr,∃ o,s.heap.get? a = some o∧∀ vs,o.data ≠ .fields vs):Sit c n A env own lo s' where
 ek:=S.ek
 ao:=⟨S.ao.handled,S.ao.depth,S.ao.units,let ⟨o,h1,h2⟩:=S.ao.frames; ⟨o,h1,h2.of_keeps fun b o e hn => let ⟨sl',e'⟩:=sl b o e hn; ⟨_,e',rfl⟩⟩⟩
 ext:=fun a o e => kp a o (fun hm => by rw [S.base a (hfr a hm)] at e; cases e) (S.ext a o e)
 ok:=fun a ha => by
  left;rcases S.ok a ha with ⟨o,ho,hc⟩;right
  by_cases hm:a ∈ fr
  ·left;rcases hnf a hm with ⟨o',ho',hn⟩;right
   rw [ho] at ho'; cases ho'
   obtain ⟨sl',e⟩:=sl a o ho hn
   exact ⟨_,e,hc⟩
  ·exact ⟨o,kp a o hm ho,hc⟩
 base:=S.base
 tok:=Nat.le_trans S.tok htk
 names:=fun x d e => by
  left;rcases S.names x d e with ⟨v,n1,r1⟩;right
  exact ⟨v,nameIs_slots sl n1,r1.keep S.ok fun b o hb q => kp b o (fun hm => hb (hfr b hm)) q⟩
theorem Sto.fx {fr:List Addr} (S:Sto c n A env b co own ad lo ow ex s) (kp:∀ a o,a ∉ fr→s.heap.get? a = some o→s'.heap.get? a = some o) (sl:s.heap.UpToSlots s'.heap) (htk:s.toks ≤ s'.toks) (hfr:∀ a ∈ fr,a = env.locals ∨ a ∈ co) (hnf:∀ a ∈ fr,∃ o,s.heap.get? a = some o∧∀ vs,o.data ≠ .fields vs) :
  Sto c n A env { s' with heap:=hideAll b.heap fr } co own ad lo ow ex s':=
 have hin:∀ a ∈ fr,a ∈ own:=fun a ha => (hfr a ha).elim (fun z => z ▸ S.loc.2.1) (S.coIn a)
 have kw:Keep own s.heap s'.heap:=fun b o hb q => kp b o (fun hm => hb (hin b hm)) q
 {sit:=S.sit.fx kp sl htk hin hnf
  coIn:=S.coIn
  new:=fun a ha => (S.new a ha).imp id fun z => none_of_ext (fun a o e => of_hideAll _ e) z
  keep:=⟨s'.heap,s'.toks,rfl,fun a o e => kp a o (fun hm => by rw [hideAll_none _ hm] at e; cases e) (Keeps.ext S.keep _ _ (of_hideAll _ e))⟩
  loc:=⟨let ⟨m,hm⟩:=S.loc.1; ⟨m,sl.ns hm⟩,S.loc.2⟩
  cell:=fun x a h1 h2 h3 => by
   left;rcases S.cell x a h1 h2 h3 with ⟨⟨v,o,ho,hd⟩,k1,k2⟩;right
   obtain ⟨sl',e⟩:=sl a o ho fun vs z => by rw [hd] at z; cases z
   exact ⟨⟨v,_,e,hd⟩,k1,k2⟩
  cells:=S.cells
  exact:=fun x v e => nameIs_slots sl (S.exact x v e)
  owns:=fun x w e => by
   left;rcases S.owns x w e with ⟨a,n1,o1,l1⟩;right
   exact ⟨a,nameIs_slots sl n1,o1.keep S.sit.ok kw fun q hq o ho => kp q o (fun hm => (hfr q hm).elim (l1 q hq).2.2 (l1 q hq).2.1) ho,l1⟩
  apart:=S.apart }
theorem fr_facts {fr:List Addr} {h:Heap} (x:AOk c n A h):∀ a ∈ frs A,c.H.get? a = none∧∃ o,h.get? a = some o∧∀ vs,o.data ≠ .fields vs:=fun a ha => by
 left;rcases x.frames with ⟨l,h1,h2⟩;right
 unfold frs at ha
 rw [h1] at ha
 exact h2.mem ha
theorem Sto.kx (S:Sto c n A env b co own ad lo ow ex s) (K:KX (frs A) s s') (htk:s.toks ≤ s'.toks) (hT:TF s.heap) (hno:254 ∉ own) (hcH:c.H.get? 254 = none) (hfr:∀ a ∈ frs A,a = env.locals ∨ a ∈ co) :
  ∃ b₁,Sto c n A env b₁ co own ad lo ow ex s'∧KX (frs A) b b₁:=by
 obtain ⟨vs0,hT0⟩:=hT
 obtain ⟨vs1,hT1⟩:=K.tab
 have hu:(s.heap.update 254 fun _ => { cls:=.none,data:=.fields vs1 }).get? 254 = some { cls:=.none,data:=.fields vs1 }:=Heap.get?_update_self (fun _ => { cls:=.none,data:=.fields vs1 }) hT0 rfl
 have hv:∀ a,a ≠ 254→(s.heap.update 254 fun _ => { cls:=.none,data:=.fields vs1 }).get? a = s.heap.get? a:=fun a ha => Heap.get?_update_other _ _ (Ne.symm ha)
 generalize s.heap.update 254 (fun _ => { cls:=.none,data:=.fields vs1 }) = h1 at hu hv
 have K1:KG s { s' with heap:=h1 }:=⟨fun a o hn e => (hv a hn).trans e,⟨vs1,hu⟩,K.os,K.gens⟩
 have S1:=S.kgT K1 htk ⟨vs0,hT0⟩ hno hcH
 have kp:∀ a o,a ∉ frs A→h1.get? a = some o→s'.heap.get? a = some o:=fun a o hn e => by
  by_cases z:a = 254
  ·subst z; rw [hu] at e; cases e; exact hT1
  ·rw [hv a z] at e; exact K.keep a o z hn e
 have sl:h1.UpToSlots s'.heap:=fun a o e hn => by
  by_cases z:a = 254
  ·subst z; rw [hu] at e; cases e; exact absurd rfl (hn vs1)
  ·rw [hv a z] at e; exact K.slot a o e hn
 have S2:=S1.fx (s':=s') kp sl (Nat.le_refl _) hfr fun a ha => (fr_facts (fr:=[]) S1.sit.ao a ha).2
 left;rcases S2.rebase with ⟨b₁,S3,k1,k2,k3⟩;right
 have inb:∀ a o,b.heap.get? a = some o→a ∉ own ∨ a ∈ co:=fun a o e => by
  by_cases z:a ∈ own
  ·rcases S.new a z with y | y
   ·exact .inr y
   ·rw [y] at e; cases e
  ·exact .inl z
 have eb:=Keeps.ext S.keep
 left;rcases S3.keep with ⟨hh,tt,es,ee⟩;right
 have os1:s'.os = b₁.os:=by rw [es]
 have g1:s'.gens = b₁.gens:=by rw [es]
 have os0:s.os = b.os:=by
  left;rcases S.keep with ⟨hh,tt,es,ee⟩;right
  rw [es]
 refine ⟨b₁,S3,⟨fun a o hn hm e => k1 a o (inb a o e) (K.keep a o hn hm (eb a o e)),fun a o e hn => ?_,⟨vs1,k1 _ _ (.inl hno) hT1⟩,os1.symm.trans (K.os.trans os0),g1 ▸ K.gens⟩⟩
 obtain ⟨sl1,e1⟩:=K.slot a o (eb a o e) hn
 exact ⟨sl1,k1 _ _ (inb a o e) e1⟩
noncomputable def FnX (P:Heap→Prop) (c:Cx) (n:Nat) (f:Value) (ds:List D) (d:D):Prop:=
 ∀ (A:Around) (E:Value→Shared→Prop) (s:Shared) (own:List Addr) (vs:List Value) (Q:Value→Shared→Prop),AOk c n A s.heap→Ext c.H s.heap→OwnOk own s.heap→(∀ a ∈ own,c.H.get? a = none)→1 ≤ s.toks→AllBare s.gens→P s.heap→254 ∉ own→(∀ a ∈ frs A,a ∈ own) →
  RdAll c.w.params own s.heap vs ds→(∀ v s',KX (frs A) s s'→s.toks ≤ s'.toks→Rd c.w.params own s'.heap v d→Q v s')→wpAny (model c.prog c.w) A (call f vs) Q E s
noncomputable def ExX (P:Heap→Prop) (c:Cx) (n:Nat) (env:Env) (ex:List (Str × Value)) (st:List Stmt) (lo:List (Str × D)) (ow:List (Str × OwnD)) (d:D):Prop:=
 ∀ (A:Around) (E:Value→Shared→Prop) (b:Shared) (co:List Addr) (s:Shared),SO c n A env b co lo ow ex s→AllBare b.gens→P b.heap→254 ∉ co→(∀ a ∈ frs A,a = env.locals ∨ a ∈ co)→(∃ l,A.frames = some (env :: l)∧env.frame = some env.locals)→wpAny (model c.prog c.w) A (execs st env) (fun fl s' => ∃ v,fl = .ret v∧Rd c.w.params co s'.heap v d∧KX (frs A) b s') E s
theorem ExX.of {P:Heap→Prop} (hP:∀ h,P h→TF h) {st:List Stmt} {d:D} (x:Ex c n env ex st lo ow (.ret d)):ExX P c n env ex st lo ow d:=fun A E b co s S hG hp hno _ _ =>
 wpAny_mono (x A E b co s S) (fun fl s' h => by
  left;rcases h with ⟨v,z0_,r,k⟩;right;subst z0_
  exact ⟨v,rfl,r,KX.of k (hP _ hp) hG⟩) fun _ _ z => z
theorem ExX.cons {P:Heap→Prop} {st:Stmt} {rest:List Stmt} {d:D} (x:Ex1 c n env ex st lo ow (.next lo' ow')) (y:ExX P c n env ex rest lo' ow' d):ExX P c n env ex (st :: rest) lo ow d:=fun A E b co s S hG hP hno hfr hA =>
 wpAny_execs_cons (wpAny_mono (x A E b co s S) (fun fl s' h => by
  obtain ⟨rfl,h⟩:=h
  exact y A E b co s' h hG hP hno hfr hA) fun _ _ z => z)
theorem ExX.pre {P:Heap→Prop} {st:List Stmt} {d:D} (x:ExX P c n env ex st lo' ow' d) (h1:Sub lo' lo) (h2:SubO ow' ow):ExX P c n env ex st lo ow d:=fun A E b co s S => x A E b co s (S.weak h1 h2)
theorem Sto.no254T (S:Sto c n A env b co own ad lo ow ex s) (hP:TF b.heap) (hno:254 ∉ co):254 ∉ own:=fun h => (S.new 254 h).elim hno fun z => by
 obtain ⟨vs,q⟩:=hP
 rw [z] at q; cases q
theorem ExX.unpackG {tgs:List PySem.Expr} {k:Nat} {tp pos:Pos} {e:PySem.Expr} {ds:List D} {rest:List Stmt} {d:D} (hcH:c.H.get? 254 = none) (y:EVG c n env lo e (.tup ds)) (t:Tgs c n env ex tgs ds lo ow lo') (z:ExX TF c n env ex rest lo' ow d) (hn:autoParam ((assignEach tgs env).length = ds.length) byRfl) (hstar:autoParam ((assignEach tgs env).findIdx? (·.1) = none) byRfl)
  (hs:autoParam (swapsWithSole [.Tuple tgs k tp] e pos.line env = pure false) byRfl) (hw:autoParam (swappedStores [.Tuple tgs k tp] e env = pure none) byRfl):ExX PF c n env ex (.Assign [.Tuple tgs k tp] e pos :: rest) lo ow d:=fun A E b co s ⟨own,ad,S⟩ hG hP hno hfr hA =>
 wpAny_execs_cons (Assign_Tuple (y A E s own _ S.sit (S.bare hG) (S.pf hP) (S.no254 hP hno) fun v s₁ kk ht r => by
  left;rcases S.kx (KX.of_kg kk (S.pf hP).tf) ht (S.pf hP).tf (S.no254 hP hno) hcH hfr with ⟨b₁,S1,kb⟩;right
  refine Tg.tuple t hn hstar A E b₁ co own ad s₁ v _ S1 r fun s' own' ad' S' => ?_
  refine wpAny_mono (z A E b₁ co s' ⟨own',ad',S'⟩ kb.gens kb.tab hno hfr hA) (fun fl s2 h => ?_) fun _ _ z => z
  left;rcases h with ⟨v,z0_,r,k⟩;right;subst z0_
  exact ⟨v,rfl,r,kb.trans k⟩) hs hw)
end
end
section
section
variable {c:Cx} {n:Nat} {A:Around} {env:Env} {b:Shared} {co own:List Addr} {ad:Str→List Addr} {lo lo':List (Str × D)} {ow ow':List (Str × OwnD)} {ex:List (Str × Value)} {s s':Shared} {o:Out} {tg:PySem.Expr}
noncomputable def EVX (P:Heap→Prop) (c:Cx) (n:Nat) (env:Env) (lo:List (Str × D)) (e:PySem.Expr) (d:D):Prop:=
 ∀ (A:Around) (E:Value→Shared→Prop) (s:Shared) (own:List Addr) (Q:Value→Shared→Prop),Sit c n A env own lo s→AllBare s.gens→P s.heap→254 ∉ own→(∀ a ∈ frs A,a ∈ own) →
  (∀ v s',KX (frs A) s s'→s.toks ≤ s'.toks→Rd c.w.params own s'.heap v d→Q v s')→wpAny (model c.prog c.w) A (eval e env) Q E s
theorem KX.pre {fr:List Addr} {a b d:Shared} (x:Keeps a b) (y:KX fr b d):KX fr a d:=⟨fun q o n m e => y.keep q o n m (Keeps.ext x q o e),(Heap.UpToSlots.of_keeps (Keeps.ext x)).trans y.slot,y.tab,by
 left;rcases x with ⟨h,t,z0_,_⟩;right;subst z0_
 exact y.os,y.gens⟩
theorem EVX.call {P:Heap→Prop} (hPe:∀ {h h'},P h→Ext h h'→P h') {x:Str} {p pos:Pos} {f:Value} {es:List PySem.Expr} {ds:List D} {d:D} (g:GlobIs c env x f) (hk:KeepF c f) (a:EVs c n env lo es ds) (F:FnX P c n f ds d) (hp:autoParam (Plain es env pos) byPl2) (hd:autoParam ((x == ("__debug__":Str)) = false) byDec) :
  EVX P c n env lo (.Call (.Name x p) es [] pos) d:=fun A E s own Q S hG hP hno hfr h =>
 PyProof.Rows.Call_ (glob_eval g S hd (callWith_ev hk a hp S fun vs s' k r => F A E s' own vs Q (S.mono k).ao (S.mono k).ext (S.mono k).ok (S.mono k).base (S.mono k).tok (k.bare hG) (hPe hP k.ext) hno hfr r fun v s'' k' t' r' => h v s'' (k'.pre k.1) (Nat.le_trans k.2 t') r'))
theorem Sto.frIn (S:Sto c n A env b co own ad lo ow ex s) (hfr:∀ a ∈ frs A,a = env.locals ∨ a ∈ co):∀ a ∈ frs A,a ∈ own:=fun a ha => (hfr a ha).elim (fun z => z ▸ S.loc.2.1) (S.coIn a)
theorem Sto.tf (S:Sto c n A env b co own ad lo ow ex s) (h:TF b.heap):TF s.heap:=h.ext (Keeps.ext S.keep)
noncomputable def NextX (c:Cx) (n:Nat) (A:Around) (env:Env) (b:Shared) (co:List Addr) (lo:List (Str × D)) (ow:List (Str × OwnD)) (ex:List (Str × Value)) (s:Shared):Prop:=∃ b₁,SO c n A env b₁ co lo ow ex s∧KX (frs A) b b₁
noncomputable def ExN (c:Cx) (n:Nat) (env:Env) (ex:List (Str × Value)) (st:List Stmt) (lo:List (Str × D)) (ow:List (Str × OwnD)) (lo':List (Str × D)) (ow':List (Str × OwnD)):Prop:=
 ∀ (A:Around) (E:Value→Shared→Prop) (b:Shared) (co:List Addr) (s:Shared),SO c n A env b co lo ow ex s→AllBare b.gens→TF b.heap→254 ∉ co→(∀ a ∈ frs A,a = env.locals ∨ a ∈ co)→wpAny (model c.prog c.w) A (execs st env) (fun fl s' => fl = .next∧NextX c n A env b co lo' ow' ex s') E s
theorem ExN.cons {st:Stmt} {rest:List Stmt} {lo2:List (Str × D)} {ow2:List (Str × OwnD)} (x:Ex1 c n env ex st lo ow (.next lo' ow')) (y:ExN c n env ex rest lo' ow' lo2 ow2):ExN c n env ex (st :: rest) lo ow lo2 ow2:=fun A E b co s S hG hP hno hfr =>
 wpAny_execs_cons (wpAny_mono (x A E b co s S) (fun fl s' h => by
  obtain ⟨rfl,h⟩:=h
  exact y A E b co s' h hG hP hno hfr) fun _ _ z => z)
theorem ExN.post {st:List Stmt} {lo2:List (Str × D)} {ow2:List (Str × OwnD)} (x:ExN c n env ex st lo ow lo' ow') (h1:Sub lo2 lo') (h2:SubO ow2 ow'):ExN c n env ex st lo ow lo2 ow2:=fun A E b co s S hG hP hno hfr =>
 wpAny_mono (x A E b co s S hG hP hno hfr) (fun fl s' h => by
  left;rcases h with ⟨z0_,b₁,S',k⟩;right;subst z0_
  exact ⟨rfl,b₁,S'.weak h1 h2,k⟩) fun _ _ z => z
theorem ExN.appendX {x:Str} {p ap pos pos':Pos} {e:PySem.Expr} {d:D} {ds:List D} {pl:Sem Bool} (hcH:c.H.get? 254 = none) (y:EVX TF c n env lo e d) (hx:ow.lookup x = some (.lst ds)) (hl:ds.length ≤ lim) (hd:autoParam ((x == ("__debug__":Str)) = false) byDec) (hn:autoParam ((x == ("__classdict__":Str)) = false) byDec) (hi:autoParam (interactive env = false) byRfl)
  (he:autoParam (eval (.Call (.Attribute (.Name x p) "append" ap) [e] [] pos) env = (do
   let ov ← eval (.Name x p) env
   standAt ap.atName
   let (f,first) ← holding [ov] (getMethod ov "append" pl)
   callWith pos f first (backTo pos (starEach [e] env)) (backToKw pos (keywordEach [] env)))) byRfl) (hse:autoParam (starEach [e] env = (false,eval e env) :: starEach [] env) byRfl) :
  ExN c n env ex [.Expr (.Call (.Attribute (.Name x p) "append" ap) [e] [] pos) pos'] lo ow lo ((x,.lst (ds ++ [d])) :: ow):=fun A E b co s ⟨own,ad,S⟩ hG hP hno hfr => by
 refine wpAny_execs_cons (wpAny_Expr ?_ hi rfl)
 left;rcases S.owns x _ hx with ⟨a,n1,o1,l1⟩;right
 refine methodCall_KW (wpAny_Name (nameIs_load S.sit.ek n1 hn ?_) hd) he
 left;rcases own_list o1 with ⟨e1,vs,k,e2,r⟩;right
 refine Calls.getMethod_list_append e2 rfl rfl ?_
 refine callWith_of (P:=fun _ => True) (by rw [hse]; rfl) (fun h' _ => ⟨.machine,.inr (.inl rfl),Looks.of_pure rfl⟩) ?_
 rw [hse]
 refine evalArgs_plain ?_
 show wpAny (model c.prog c.w) A (spliced (backTo pos ((false,eval e env) :: starEach [] env))) _ E s
 rw [hse.symm]
 refine wpAny_items_cons (y A E s own _ S.sit (S.bare hG) (S.tf hP) (S.no254T hP hno) (S.frIn hfr) fun u s₁ k1 t1 rd => wpAny_items_nil ⟨trivial,?_⟩) hse
 left;rcases S.kx k1 t1 (S.tf hP) (S.no254T hP hno) hcH hfr with ⟨b₁,S1,kb⟩;right
 left;rcases S1.owns x _ hx with ⟨a',n2,o2,l2⟩;right
 have ha:a' = a:=by
  have:=nameIs_unique n2 (nameIs_slots k1.slot n1)
  injection this
 subst ha
 left;rcases own_list o2 with ⟨e1',vs1,kk,e3,r3⟩;right
 have hlen:=r3.length
 have hvs:vs1 = vs∧kk = k:=by
  have hq:∀ q ∈ ad x,s₁.heap.get? q = s.heap.get? q:=fun q hq => by
   rw [e1] at hq
   simp at hq; subst hq
   have hnf:q ∉ frs A:=fun hm => (hfr q hm).elim (l1 q (by rw [e1]; simp)).2.2 (l1 q (by rw [e1]; simp)).2.1
   have hn2:q ≠ 254:=fun z => (S.no254T hP hno) (z ▸ (l1 q (by rw [e1]; simp)).1)
   rw [k1.keep q _ hn2 hnf e2,e2]
  have:=hq a' (by rw [e1]; simp)
  rw [e3,e2] at this
  injection this with this
  have t2:=congrArg Obj.data this
  injection t2 with t3 t4
  exact ⟨by simpa using congrArg Array.toList t3,t4⟩
 refine append_at e3 (fun h' sb ho => ?_) (by have:=lim_line; simp; omega)
 refine wpAny_execs_nil ⟨rfl,b₁,⟨own,ad,S1.mut hx (q:=a') (by rw [e1]; simp) (Nat.le_refl _) sb ho (fun vs z => by cases z) (fun z => not_tuple z.1) fun a2 n3 o3 => ?_⟩,kb⟩
 left;rcases own_list o3 with ⟨e5,vs3,k3,e4,r4⟩;right
 rw [e1] at e5
 cases e5
 refine ⟨e1,vs1 ++ [u],kk + 1,?_,?_⟩
 ·rw [ho]; simp
 ·have:=r3.append (.cons rd .nil)
  exact this.keep S1.sit.ok (keep_of (l1 a' (by rw [e1]; simp)).1 sb)
theorem ExX.retCmp {P:Heap→Prop} (hP0:∀ h,P h→TF h) (hPe:∀ {h h'},P h→Ext h h'→P h') (hcH:c.H.get? 254 = none) {l r:PySem.Expr} {op:CmpOp} {pos pos2:Pos} {rest:List Stmt} {d1 d2:D} {t:Bool} (x:EVX P c n env lo l d1) (y:EV c n env lo r d2) (e:cmpD op d1 d2 = some t) (hm:autoParam (behindInMarks op r = false) byRfl) :
  ExX P c n env ex (.Return (some (.Compare l [op] [r] pos)) pos2 :: rest) lo ow (.bool t):=fun A E b co s ⟨own,ad,S⟩ hG hp hno hfr hA => by
 have hPs:P s.heap:=hPe hp (Keeps.ext S.keep)
 have hT:=hP0 _ hPs
 have hno':=S.no254T (hP0 _ hp) hno
 refine wpAny_execs_cons (wpAny_Return_some (wpAny_Compare1 (x A E s own _ S.sit (S.bare hG) hPs hno' (S.frIn hfr) fun v s₁ k1 t1 r1 => ?_) hm))
 left;rcases S.kx k1 t1 hT hno' hcH hfr with ⟨b₁,S1,kb⟩;right
 refine y A E s₁ own _ S1.sit fun u s₂ k2 ru => ?_
 exact cmpD_sound e (r1.ext k2.ext) ru (S1.mono k2).sit.ao.line ⟨_,rfl,.bool t,(kb.trans (KX.of (Keeps.trans' S1.keep k2.1) kb.tab kb.gens))⟩
end
end
section
section
variable {c:Cx} {n:Nat} {A:Around} {env:Env} {b:Shared} {co own:List Addr} {ad:Str→List Addr} {lo lo':List (Str × D)} {ow ow':List (Str × OwnD)} {ex:List (Str × Value)} {s s':Shared} {o:Out} {tg:PySem.Expr}
noncomputable def ITX (c:Cx) (n:Nat) (env:Env) (lo:List (Str × D)) (tg e:PySem.Expr) (ds:List D):Prop:=
 ∀ (A:Around) (E:Value→Shared→Prop) (s:Shared) (own:List Addr) (Q:Value→Shared→Prop),Sit c n A env own lo s→TF s.heap →
  (∀ I wr fp St s',K2 s s'→Iter c A tg I wr fp [] [] ds St→St 0 s'.heap→(∀ a ∈ wr,s.heap.get? a = none)→(∀ a ∈ fp,a ∉ own)→254 ∉ fp→Q (.ref I) s') →
  wpAny (model c.prog c.w) A (eval e env) (fun x s₁ => wpAny (model c.prog c.w) A (pyIter x) Q E s₁) E s
theorem range_goX {E:Value→Shared→Prop} {Q:Value→Shared→Prop} {s s₁:Shared} {lo2:List (Str × D)} {z:Int} {r:Addr} {t u v:Tok} (S:Sit c n A env own lo2 s) (hT:TF s.heap) (k:K2 s s₁) (hr:IsRange s₁.heap r 0 z 1 t u v) (hz:-1000 ≤ z∧z ≤ 100000)
  (h:∀ I wr fp St s',K2 s s'→Iter c A tg I wr fp [] [] (rangeD 0 (z - 0).toNat) St→St 0 s'.heap→(∀ a ∈ wr,s.heap.get? a = none)→(∀ a ∈ fp,a ∉ own)→254 ∉ fp→Q (.ref I) s') :
  wpAny (model c.prog c.w) A (pyIter (.ref r)) Q E s₁:=by
 refine wpAny_pyIter_range hr (small_one (by omega) (by omega) (by omega) (by omega)) ?_
 have hsz:Builtin.Range.rangeSize 0 z 1 = ((z - 0).toNat:Int):=by rw [rangeSize_one]; split <;> omega
 refine h _ [_] [_] _ _ (k.push _) (Iter.range S.ao.handled) ?_ (fun q hq => ?_) (fun q hq => ?_) ?_
 ·have e1:((0:Int) + ((0:Nat):Int) * 1) = 0:=by simp
  have e2:(((z - 0).toNat:Int) - ((0:Nat):Int)) = Builtin.Range.rangeSize 0 z 1:=by rw [hsz]; simp
  show IsRangeIter _ _ ((0:Int) + ((0:Nat):Int) * 1) (((z - 0).toNat:Int) - ((0:Nat):Int)) 1
  rw [e1,e2]
  exact Heap.get?_push_size _ rfl
 ·simp at hq; subst hq; exact none_of_ext k.ext (none_size _)
 ·simp at hq; subst hq; exact (S.mono k).size
 ·intro hm
  simp only [List.mem_singleton] at hm
  obtain ⟨vs,q⟩:=hT.ext k.ext
  exact absurd (Heap.lt_size q) (by rw [hm]; exact Nat.lt_irrefl _)
theorem ITX.range1 {x:Str} {p pos:Pos} {e:PySem.Expr} {z:Int} (g:GlobIs c env x (.type "range")) (y:EV c n env lo e (.int z)) (hz:-1000 ≤ z∧z ≤ 100000) (hp:autoParam (Plain [e] env pos) byPl) (he:autoParam (starEach [e] env = (false,eval e env) :: starEach [] env) byRfl) (hd:autoParam ((x == ("__debug__":Str)) = false) byDec) :
  ITX c n env lo tg (.Call (.Name x p) [e] [] pos) (rangeD 0 z.toNat):=fun A E s own Q S hT h =>
 PyProof.Rows.Call_ (glob_eval g S hd (callWith_ev KeepF.type (EVs.cons y EVs.nil he) hp S fun vs s₁ k r => by
  cases r with
  | cons r rn =>
   cases rn; cases r
   refine call_range_1 ?_
   have hz':(z - 0).toNat = z.toNat:=by simp
   exact range_goX S hT (k.trans ⟨keeps_push _ _ _,Nat.le_succ_of_le (Nat.le_succ _)⟩) (IsRange.new ..) hz (by rw [hz']; exact h)))
noncomputable def StepX (c:Cx) (n:Nat) (env:Env) (ex:List (Str × Value)) (tg:PySem.Expr) (d:D) (body:List Stmt) (lo:List (Str × D)) (ow:List (Str × OwnD)) (lo':List (Str × D)) (ow':List (Str × OwnD)):Prop:=
 ∃ lo1,Tg c n env ex tg d lo ow lo1∧ExN c n env ex body lo1 ow lo' ow'
theorem ExX.loop {iter:PySem.Expr} {body rest:List Stmt} {pos:Pos} {ds:List D} {r':D} (hcH:c.H.get? 254 = none) (it:ITX c n env lo tg iter ds) (L:Nat→List (Str × D)) (W:Nat→List (Str × OwnD))
  (start:Sub (L 0) lo) (startO:SubO (W 0) ow) (step:∀ i d,i < ds.length→ds[i]? = some d→StepX c n env ex tg d body (L i) (W i) (L (i + 1)) (W (i + 1)))
  (z:ExX TF c n env ex rest (L ds.length) (W ds.length) r') (hs:autoParam (∀ x,foldedSetIterable iter env x = pure x) byIR):ExX TF c n env ex (.For tg iter body [] pos :: rest) lo ow r':=fun A E b co s ⟨own,ad,S⟩ hG hP hno hfr hA => by
 refine wpAny_execs_cons (wpAny_For (it A E s own _ S.sit (S.tf hP) fun I wr fp St s₁ k X st hwn hfo h254 => ?_) hs)
 have S₁:=(S.mono k).weak start.at startO.at
 have hwb:∀ a ∈ wr,c.H.get? a = none∧b.heap.get? a = none:=fun a ha => ⟨none_of_ext S.sit.ext (hwn a ha),none_of_ext (Keeps.ext S.keep) (hwn a ha)⟩
 refine codeAny_forLoop_any (fun m s => ∃ i b' own ad,i ≤ ds.length∧m = ds.length - i∧Sto c n A env b' co own ad (L i) (W i) ex s∧KX (frs A) b b'∧(∀ a ∈ wr,b'.heap.get? a = none)∧St i s.heap∧(∀ a ∈ fp,a ∉ own)) (fun m s hI => ?_) ds.length
  ⟨0,b,own,ad,Nat.zero_le _,rfl,S₁,⟨fun _ _ _ _ e => e,.refl _,hP,rfl,hG⟩,fun a ha => (hwb a ha).2,st,hfo⟩
 left;rcases hI with ⟨i,b',own,ad,hi,z0_,S,kb,hwb',st,hfo⟩;right;subst z0_
 have hw:=X.rec_ i _ st
 by_cases hlast:i = ds.length
 ·subst hlast
  refine X.done s _ _ st fun h' tk htk kp => ?_
  have S':=S.wr hw kp (fun a ha => ⟨hfo a (X.sub a ha),(hwb a ha).1,hwb' a ha⟩) htk
  refine wpAny_execs_nil ?_
  refine wpAny_mono (z A E b' co _ ⟨own,ad,S'⟩ kb.gens kb.tab hno hfr hA) (fun fl s2 h => ?_) fun _ _ z => z
  left;rcases h with ⟨v,z0_,r,k⟩;right;subst z0_
  exact ⟨v,rfl,r,kb.trans k⟩
 ·have hi':i < ds.length:=by omega
  obtain ⟨d0,hd⟩:∃ d,ds[i]? = some d:=⟨ds[i],by simp [hi']⟩
  refine wpAny_mono (X.next i s (notedBy (model c.prog c.w) A env fun e s' => cameBackBy (model c.prog c.w) A env E e s') (notedBy (model c.prog c.w) A env fun e s' => cameBackBy (model c.prog c.w) A env E e s') own
   (fun v s₂ => wpAny (model c.prog c.w) A (PySem.assign tg env v) (fun _ s₂ => wpAny (model c.prog c.w) A (execs body env) (fun f s₃ => f = .next∧∃ m,m < ds.length - i∧∃ i b' own ad,i ≤ ds.length∧m = ds.length - i∧Sto c n A env b' co own ad (L i) (W i) ex s₃∧KX (frs A) b b'∧(∀ a ∈ wr,b'.heap.get? a = none)∧St i s₃.heap∧(∀ a ∈ fp,a ∉ own))
    (notedBy (model c.prog c.w) A env fun e s' => cameBackBy (model c.prog c.w) A env E e s') s₂) (notedBy (model c.prog c.w) A env fun e s' => cameBackBy (model c.prog c.w) A env E e s') s₂)
   hi' st S.sit.ok.held .nil fun v h' tk htk st' kp hv => ?_) (fun rr s₁ h1 => ?_) fun _ _ z => z
  ·have S':=S.wr hw kp (fun a ha => ⟨hfo a (X.sub a ha),(hwb a ha).1,hwb' a ha⟩) htk
   left;rcases S'.rebase with ⟨b₁,S₁,k1,k2,k3⟩;right
   left;rcases step i d0 hi' hd with ⟨lo1,tg1,bd⟩;right
   have inb:∀ a o,b'.heap.get? a = some o→a ∉ own ∨ a ∈ co:=fun a o e => by
    by_cases z:a ∈ own
    ·rcases S'.new a z with y | y
     ·exact .inr y
     ·rw [y] at e; cases e
    ·exact .inl z
   have eb:∀ a o,b'.heap.get? a = some o→b₁.heap.get? a = some o:=fun a o e => k1 a o (inb a o e) (Keeps.ext S'.keep a o e)
   have kb1:KX (frs A) b' b₁:=by
    left;rcases S'.keep with ⟨t1,t2,t3,t4⟩;right
    left;rcases S₁.keep with ⟨u1,u2,u3,u4⟩;right
    have g1:b'.gens = b₁.gens:=by
     have a1:=congrArg Shared.gens t3
     have a2:=congrArg Shared.gens u3
     exact a1.symm.trans a2
    have o1:b₁.os = b'.os:=by
     have a1:=congrArg Shared.os t3
     have a2:=congrArg Shared.os u3
     exact a2.symm.trans a1
    exact ⟨fun a o _ _ e => eb a o e,.of_keeps eb,kb.tab.ext eb,o1,g1 ▸ kb.gens⟩
   refine tg1 A _ b₁ co own ad _ v _ S₁ (hv d0 hd) fun s₂ own₂ ad₂ S₂ => ?_
   refine wpAny_mono (bd A _ b₁ co s₂ ⟨own₂,ad₂,S₂⟩ kb1.gens kb1.tab hno hfr) (fun f s₃ h3 => ?_) fun _ _ z => z
   left;rcases h3 with ⟨z0_,b₂,⟨own₃,ad₃,S₃⟩,kb2⟩;right;subst z0_
   have fpk:∀ a ∈ fp,∀ o,h'.get? a = some o→b₂.heap.get? a = some o:=fun a ha o e => kb2.keep a o (fun z => h254 (z ▸ ha)) (fun hm => hfo a ha ((hfr a hm).elim (fun z => z ▸ S.loc.2.1) (S.coIn a))) (k1 a o (.inl (hfo a ha)) e)
   have hw2:∀ a ∈ wr,a ∉ own₃:=fun a ha hm => by
    obtain ⟨o,e⟩:=X.obj _ _ st' a (X.sub a ha)
    rcases S₃.new a hm with y | y
    ·exact hfo a (X.sub a ha) (S.coIn a y)
    ·rw [fpk a (X.sub a ha) o e] at y; cases y
   refine ⟨rfl,ds.length - (i + 1),by omega,i + 1,{ b₂ with heap:=hideAll b₂.heap wr },own₃,ad₃,hi',rfl,{ S₃ with
    new:=fun a ha => (S₃.new a ha).imp id fun z => none_of_ext (fun a o e => of_hideAll _ e) z
    keep:=by
     left;rcases S₃.keep with ⟨h',tk,e,k⟩;right
     exact ⟨h',tk,e,fun a o q => k _ _ (of_hideAll _ q)⟩ },?_,fun a ha => hideAll_none _ ha,?_,?_⟩
   ·have kk:=kb1.trans kb2
    refine kb.trans ⟨fun a o q1 q2 e => hideAll_get _ (kk.keep a o q1 q2 e) (fun hm => by rw [hwb' a hm] at e; cases e),fun a o e hn => ?_,?_,kk.os,kk.gens⟩
    ·obtain ⟨sl,e2⟩:=kk.slot a o e hn
     exact ⟨sl,hideAll_get _ e2 (fun hm => by rw [hwb' a hm] at e; cases e)⟩
    ·obtain ⟨vs,e2⟩:=kk.tab
     exact ⟨vs,hideAll_get _ e2 fun hm => h254 (X.sub _ hm)⟩
   ·exact X.frame _ _ _ st' fun a ha o e => Keeps.ext S₃.keep _ _ (fpk a ha o e)
   ·intro a ha hm
    obtain ⟨o,e⟩:=X.obj _ _ st' a ha
    rcases S₃.new a hm with y | y
    ·exact hfo a ha (S.coIn a y)
    ·rw [fpk a ha o e] at y; cases y
  ·left;rcases h1 with ⟨v,z0_,hv⟩;right;subst z0_
   refine wpAny_mono hv (fun _ s₂ h2 => wpAny_mono h2 (fun _ s₃ h3 => wpAny_mono h3 (fun f s₄ h4 => ?_) fun _ _ z => z) fun _ _ z => z) fun _ _ z => z
   obtain ⟨rfl,h4⟩:=h4
   exact h4
variable {name qual:Str} {params:Arguments} {body:List Stmt} {scope:Scope} {dV kV doc pm cdv ct oc:Value} {an od:Option Addr} {osl:Array (Option Value)} {f:Addr}
theorem FnX.def {P:Heap→Prop} {ds:List D} {N:List Str} {ds0:List D} {d:D} (ho:c.K.lookup f = some ⟨oc,od,.func (fnOf name qual params body scope dV kV doc pm an cdv ct),osl⟩) (hcd:codeIn c.K cdv qual = true)
  (hb:∀ (s:Shared) (own:List Addr) (vs:List Value),Ext c.H s.heap→RdAll c.w.params own s.heap vs ds→∃ B:List (Str × Value),BindsTo s (fnOf name qual params body scope dV kV doc pm an cdv ct) ⟨vs,([]:List (Str × Bool)).map fun p => (p.1,.bool p.2)⟩ B∧B.map (·.1) = N∧RdAll c.w.params own s.heap (B.map (·.2)) ds0)
  (hN:N.Nodup) (hk:N.all (fun y => scope.names.lookup y == some .local || scope.names.lookup y == some .cell) = true)
  (hbody:∀ L,ExX P c n (envOfC qual scope L f cdv) [] body (N.zip ds0) [] d)
  (hco:autoParam (scope.isCoroutine = false) byRfl) (hgen:autoParam (scope.isGenerator = false) byRfl) (hkind:autoParam (scope.kind = .function) byRfl):FnX P c (n + 1) (.ref f) ds d:=fun A E s own vs Q ao ext ok base tok hG hP hno hfr r h => by
 left;rcases hb s own vs ext r with ⟨B,hbind,z0_,rB⟩;right;subst z0_
 have hk':∀ m,∀ x ∈ B,scope.names.lookup x.1 = some .local ∨ (scope.names.lookup x.1 = some .cell∧((cellsFrom m scope.names []).lookup x.1).isSome = true):=kindsX (binds:=B) (by
  rw [List.all_eq_true] at hk ⊢
  exact fun x hx => hk x.1 (List.mem_map_of_mem hx))
 have X:c.K.In s.heap:=c.X.keeps ext
 refine wpAny_call (codeAny_with_toks (Nat.le_refl s.toks) (codeAny_call_function (by have:=ao.depth; omega) (X _ _ ho) rfl hco hgen rfl (codeRec_of X hcd) (hbind _ _ _ _ ?_)))
 refine wpAny_with_toks (Nat.le_refl s.toks) (wpAny_newFunctionEnv_cells hkind (hk' _) fun env he s' x htk => ?_)
 subst he
 refine ⟨(c.T.nolimit.keeps ext).keeps x.toInCall.keep,codeAny_func ?_⟩
 have S:=entry_sto (n:=n) (qual:=qual) (f:=f) (cdv:=cdv) ao ext ok base tok htk hkind hN (hk' _) (fun y d e => zip_lookup rB e) (ex0:=[]) (fun y v e => by simp at e) x
 have hfr':∀ (env:Env),env.frame = some env.locals→frs (A.deeper env) = env.locals :: frs A:=fun env hf => by
  left;rcases ao.frames with ⟨l,h1,_⟩;right
  unfold frs
  rw [Around.frames_deeper h1,h1]
  show List.filterMap _ (env :: l) = env.locals :: List.filterMap _ l
  rw [List.filterMap_cons,hf]
 have hf2:=hfr' (envOfC qual scope s.heap.objs.size f cdv) rfl
 refine wpAny_mono (hbody _ _ _ s own s' S hG hP hno (fun a ha => by
  have ha':a ∈ frs (A.deeper (envOfC qual scope s.heap.objs.size f cdv)):=ha
  rw [hf2] at ha'
  rcases List.mem_cons.mp ha' with z | z
  ·exact .inl z
  ·exact .inr (hfr a z)) (let ⟨l,h1,_⟩:=ao.frames; ⟨l,Around.frames_deeper h1,rfl⟩)) (fun fl s'' ho hts => ?_) fun _ _ z => z
 left;rcases ho with ⟨v,z0_,rv,kk⟩;right;subst z0_
 refine h v s'' ⟨fun a o q1 q2 e => kk.keep a o q1 (fun hm => ?_) e,kk.slot,kk.tab,kk.os,kk.gens⟩ hts rv
 have hm':a ∈ frs (A.deeper (envOfC qual scope s.heap.objs.size f cdv)):=hm
 rw [hf2] at hm'
 rcases List.mem_cons.mp hm' with z | z
 ·exact absurd (Heap.lt_size e) (by rw [z]; exact Nat.lt_irrefl _)
 ·exact q2 z
end
end
section
theorem funFrames_re {h base base':Heap}:∀ {l:List Env},h.FunFrames base l→(∀ a ∈ l.filterMap (·.frame),base'.get? a = none)→h.FunFrames base' l
 | [],_,_ => trivial
 | env :: r,⟨k,⟨L,o,hf,hn,ho,hd⟩,hr⟩,hb => by
  rw [List.filterMap_cons,hf] at hb
  exact ⟨k,⟨L,o,hf,hb L (.head _),ho,hd⟩,funFrames_re hr fun a ha => hb a (.tail _ ha)⟩
structure RaiseAt (A:Around) (s s':Shared) (e:Addr):Prop where
 fly:∃ t l,A.frames = some l∧Heap.FlyingW (hideAll s.heap (frs A)) l e (.type "ValueError") (.ref t) s'.heap
 slot:s.heap.UpToSlots s'.heap
 gens:s'.gens = s.gens
 os:s'.os = s.os
section
variable {c:Cx} {n:Nat} {A:Around} {env:Env} {b:Shared} {co own:List Addr} {ad:Str→List Addr} {lo lo':List (Str × D)} {ow ow':List (Str × OwnD)} {ex:List (Str × Value)} {s s':Shared} {o:Out} {tg:PySem.Expr}
noncomputable def ExM (c:Cx) (n:Nat) (env:Env) (ex:List (Str × Value)) (st:List Stmt) (lo:List (Str × D)) (ow:List (Str × OwnD)):Prop:=
 ∀ (A:Around) (E:Value→Shared→Prop) (b:Shared) (co:List Addr) (s:Shared) (Q:Flow→Shared→Prop),SO c n A env b co lo ow ex s →
  (∀ s1 e args h',AOk c n A s1.heap→Keeps b s1→Heap.MadeExcOf s1.heap h' e (.type "ValueError") args→E (.ref e) { s1 with heap:=h' })→wpAny (model c.prog c.w) A (execs st env) Q E s
theorem ExM.consX {x:Str} {p pos:Pos} {e:PySem.Expr} {v:Value} {rest:List Stmt} (y:EX c n env lo e v) (hk:env.kindOf x = some .local) (z:ExM c n env ((x,v) :: ex) rest lo ow) (hlo:autoParam (lo.lookup x = none) byRfl) (how:autoParam (ow.lookup x = none) byRfl) (hex:autoParam (ex.lookup x = none) byRfl) (hs:autoParam (swapsWith e (some (.Name x p)) pos.line env = pure false) byRfl) :
  ExM c n env ex (.Assign [.Name x p] e pos :: rest) lo ow:=fun A E b co s Q ⟨own,ad,S⟩ h =>
 wpAny_execs_cons (wpAny_Assign_Name (y A E s own _ S.sit fun s₁ k => (S.mono k).storeX hk hlo how hex fun s' _ S' => z A E b co s' _ ⟨own,ad,S'⟩ h) hs)
theorem ExM.ite {test:PySem.Expr} {body orelse rest:List Stmt} {pos:Pos} (x:TV c n env (lo ++ frozen ow) test true) (y:ExM c n env ex body lo ow):ExM c n env ex (.If test body orelse pos :: rest) lo ow:=fun A E b co s Q ⟨own,ad,S⟩ h =>
 wpAny_execs_cons (wpAny_If (x A E s _ _ S.thawed fun s₁ k => y A E b co s₁ _ ⟨own,ad,S.mono k⟩ h))
theorem ExM.raise {x:Str} {np cpos pos:Pos} {e₀:PySem.Expr} {rest:List Stmt} {d:D} (g:GlobIs c env x (.type "ValueError")) (y:EV c n env (lo ++ frozen ow) e₀ d) (hd:autoParam ((x == ("__debug__":Str)) = false) byDec) (he:autoParam (starEach [e₀] env = (false,eval e₀ env) :: starEach [] env) byRfl) :
  ExM c n env ex (.Raise (some (.Call (.Name x np) [e₀] [] cpos)) none pos :: rest) lo ow:=fun A E b co s Q ⟨own,ad,S⟩ h =>
 wpAny_execs_cons (Raise_madeB PySem.F.excCall_ValueError PySem.F.excRaise_ValueError S.sit.ao.handled (glob_eval g S.sit hd ⟨rfl,wpAny_items_cons (y A E s _ _ S.thawed fun v s1 k1 r1 => wpAny_items_nil ⟨by have e:sizeLine = 16777216:=rfl; simp; omega,fun h' e hm => h s1 e _ h' (S.mono k1).sit.ao (Keeps.trans' S.keep k1.1) hm.of⟩) he⟩) he (by rfl))
theorem ExM.found {x y:Str} {p1 p2 ap pos ipos:Pos} {body orelse rest:List Stmt} {pat:Addr} {code:Array Nat} {q:Nat} {bad:Nat→Bool} {t:Str} {pl:Sem Bool} (Sk:Seek code q bad) (P:PatAt c.H pat code) (hd0:∃ o,c.H.get? pat = some o∧o.dict = none) (hx:ex.lookup x = some (.ref pat)) (hy:lo.lookup y = some (.str t)) (hl:t.length ≤ lim) (hb:Bad bad t = true) (z:ExM c n env ex body lo ow)
  (hd:autoParam ((x == ("__debug__":Str)) = false) byDec) (hcd:autoParam ((x == ("__classdict__":Str)) = false) byDec) (hd2:autoParam ((y == ("__debug__":Str)) = false) byDec) (hcd2:autoParam ((y == ("__classdict__":Str)) = false) byDec)
  (he:autoParam (eval (.Call (.Attribute (.Name x p1) "search" ap) [.Name y p2] [] pos) env = (do
   let ov ← eval (.Name x p1) env
   standAt ap.atName
   let (f,first) ← holding [ov] (getMethod ov "search" pl)
   callWith pos f first (backTo pos (starEach [.Name y p2] env)) (backToKw pos (keywordEach [] env)))) byRfl) (hse:autoParam (starEach [.Name y p2] env = (false,eval (.Name y p2) env) :: starEach [] env) byRfl) :
  ExM c n env ex (.If (.Call (.Attribute (.Name x p1) "search" ap) [.Name y p2] [] pos) body orelse ipos :: rest) lo ow:=fun A E b co s Q ⟨own,ad,S⟩ h =>
 wpAny_execs_cons (wpAny_If (search_test S Sk P hd0 hx hy hl (fun s' k => by
  rw [hb]
  exact z A E b co s' _ ⟨own,ad,S.mono k⟩ h) hd hcd hd2 hcd2 he hse))
noncomputable def FnR (c:Cx) (n:Nat) (f:Value) (ds:List D) (kw:List (Str × Bool)):Prop:=
 ∀ (A:Around) (E:Value→Shared→Prop) (s:Shared) (own:List Addr) (vs:List Value) (Q:Value→Shared→Prop),AOk c n A s.heap→Ext c.H s.heap→OwnOk own s.heap→(∀ a ∈ own,c.H.get? a = none)→1 ≤ s.toks →
  RdAll c.w.params own s.heap vs ds→(∀ e s',RaiseAt A s s' e→s.toks ≤ s'.toks→E (.ref e) s')→wpAny (model c.prog c.w) A (call f vs (kw.map fun p => (p.1,.bool p.2))) Q E s
theorem frs_deep {l:List Env} {L:Addr} (h1:A.frames = some l) (hf:env.frame = some L):frs (A.deeper env) = L :: frs A:=by
 unfold frs
 rw [Around.frames_deeper h1,h1]
 show List.filterMap _ (env :: l) = L :: List.filterMap _ l
 rw [List.filterMap_cons,hf]
variable {name qual:Str} {params:Arguments} {body:List Stmt} {scope:Scope} {dV kV doc pm cdv ct oc:Value} {an od:Option Addr} {osl:Array (Option Value)} {f:Addr}
theorem FnR.def {ds:List D} {kw:List (Str × Bool)} {N:List Str} {ds0:List D} (ho:c.K.lookup f = some ⟨oc,od,.func (fnOf name qual params body scope dV kV doc pm an cdv ct),osl⟩) (hcd:codeIn c.K cdv qual = true)
  (hb:∀ (s:Shared) (own:List Addr) (vs:List Value),Ext c.H s.heap→RdAll c.w.params own s.heap vs ds→∃ B:List (Str × Value),BindsTo s (fnOf name qual params body scope dV kV doc pm an cdv ct) ⟨vs,kw.map fun p => (p.1,.bool p.2)⟩ B∧B.map (·.1) = N∧RdAll c.w.params own s.heap (B.map (·.2)) ds0)
  (hN:N.Nodup) (hk:N.all (fun y => scope.names.lookup y == some .local || scope.names.lookup y == some .cell) = true)
  (hbody:∀ L,ExM c n (envOfC qual scope L f cdv) [] body (N.zip ds0) [])
  (hco:autoParam (scope.isCoroutine = false) byRfl) (hgen:autoParam (scope.isGenerator = false) byRfl) (hkind:autoParam (scope.kind = .function) byRfl):FnR c (n + 1) (.ref f) ds kw:=fun A E s own vs Q ao ext ok base tok r h => by
 left;rcases hb s own vs ext r with ⟨B,hbind,z0_,rB⟩;right;subst z0_
 have hk':∀ m,∀ x ∈ B,scope.names.lookup x.1 = some .local ∨ (scope.names.lookup x.1 = some .cell∧((cellsFrom m scope.names []).lookup x.1).isSome = true):=kindsX (binds:=B) (by
  rw [List.all_eq_true] at hk ⊢
  exact fun x hx => hk x.1 (List.mem_map_of_mem hx))
 have X:c.K.In s.heap:=c.X.keeps ext
 refine wpAny_call (codeAny_with_toks (Nat.le_refl s.toks) (codeAny_call_function (by have:=ao.depth; omega) (X _ _ ho) rfl hco hgen rfl (codeRec_of X hcd) (hbind _ _ _ _ ?_)))
 refine wpAny_with_toks (Nat.le_refl s.toks) (wpAny_newFunctionEnv_cells hkind (hk' _) fun env he s' x htk => ?_)
 subst he
 refine ⟨(c.T.nolimit.keeps ext).keeps x.toInCall.keep,codeAny_func ?_⟩
 have S:=entry_sto (n:=n) (qual:=qual) (f:=f) (cdv:=cdv) ao ext ok base tok htk hkind hN (hk' _) (fun y d e => zip_lookup rB e) (ex0:=[]) (fun y v e => by simp at e) x
 refine hbody _ _ _ s own s' _ S fun s1 e args h' ao1 k1 hm => ?_
 left;rcases ao.frames with ⟨l,hl,hfl⟩;right
 left;rcases ao1.frames with ⟨l1,hl1,hfl1⟩;right
 have hfd:(A.deeper (envOfC qual scope s.heap.objs.size f cdv)).frames = some (envOfC qual scope s.heap.objs.size f cdv :: l):=Around.frames_deeper hl
 have e1:l1 = envOfC qual scope s.heap.objs.size f cdv :: l:=Option.some.inj (hl1.symm.trans hfd)
 subst e1
 have hnone:(hideAll s.heap (frs A)).get? s.heap.objs.size = none:=none_of_ext (fun a o e => of_hideAll _ e) (none_size _)
 refine wpAny_leaves_madeW (base:=hideAll s.heap (frs A)) hfd rfl (fun a o e => Keeps.ext k1 _ _ (of_hideAll _ e)) (funFrames_re hfl1 fun a ha => ?_) hm fun h'' t x1 x2 x3 x4 hts => ?_
 ·have hfr:frs A = l.filterMap (·.frame):=by unfold frs; rw [hl]; rfl
  rw [List.filterMap_cons] at ha
  rcases List.mem_cons.mp ha with z | z
  ·rw [z]; exact hnone
  ·exact hideAll_none _ (by rw [hfr]; exact z)
 ·left;rcases k1 with ⟨hh,tt,es,ee⟩;right
  subst es
  exact h e _ ⟨⟨t,l,hl,x1⟩,((Heap.UpToSlots.of_keeps ee).trans (Heap.UpToSlots.of_keeps hm.keeps)).trans x4,rfl,rfl⟩ hts
end
theorem g_VE {c:Cx} (h:Is c) {env:Env} (hk:autoParam (env.kindOf "ValueError" = some .globalImplicit) byRfl):GlobIs c env "ValueError" (.type "ValueError"):=GlobIs.built (by rw [h]; rfl) (by rfl) (by decide) hk
theorem f_convert_bad {c:Cx} (h:Is c) {n:Nat} {kvs:List (Str × D)} (x:Str) (hl:x.length ≤ lim) (hb:Bad badV x = true):FnR c (n + 1) (.ref 83) [.inst 182 kvs,.str x] [("name",false)]:=by
 refine FnR.def (ho:=by rw [h]; rfl) (hcd:=by rw [h]; rfl) (N:=["self", "value", "name"]) (ds0:=[.inst 182 kvs,.str x,.bool false]) (b3k fun _ _ => rfl) (by decide) (by rfl) ?_
 intro L
 refine ExM.ite (TV.typeIs (g_type h) (g_str h) (EV.name rfl) rfl (.inl ⟨rfl,rfl⟩)) ?_
 refine ExM.consX (v:=.ref 53) ?_ rfl ?_
 ·have:Value.ref 53 = if false then Value.ref 48 else .ref 53:=rfl
  rw [this]
  exact EX.ite (TV.value (EV.name rfl) rfl) (EX.glob (g_nre h)) (EX.glob (g_vre h))
 ·exact ExM.found seek_val (pat_val h) ⟨_,c.X 53 _ (by rw [h]; rfl),rfl⟩ rfl rfl hl hb (ExM.raise (g_VE h) EV.str)
end
section
section
variable {c:Cx} {n:Nat} {A:Around} {env:Env} {b:Shared} {co own:List Addr} {ad:Str→List Addr} {lo lo':List (Str × D)} {ow ow':List (Str × OwnD)} {ex:List (Str × Value)} {s s':Shared} {o:Out} {tg:PySem.Expr}
noncomputable def ExP (c:Cx) (n:Nat) (env:Env) (ex:List (Str × Value)) (st:List Stmt) (lo:List (Str × D)) (ow:List (Str × OwnD)):Prop:=
 ∀ (A:Around) (E:Value→Shared→Prop) (b:Shared) (co:List Addr) (s:Shared) (Q:Flow→Shared→Prop),SO c n A env b co lo ow ex s →
  (∀ s1 e s',AOk c n A s1.heap→Keeps b s1→RaiseAt A s1 s' e→E (.ref e) s')→wpAny (model c.prog c.w) A (execs st env) Q E s
theorem ExP.cons {st:Stmt} {rest:List Stmt} (x:Ex1 c n env ex st lo ow (.next lo' ow')) (y:ExP c n env ex rest lo' ow'):ExP c n env ex (st :: rest) lo ow:=fun A E b co s Q S h =>
 wpAny_execs_cons (wpAny_mono (x A E b co s S) (fun fl s' hq => by
  obtain ⟨rfl,hq⟩:=hq
  exact y A E b co s' _ hq h) fun _ _ z => z)
theorem ExP.ite {test:PySem.Expr} {body orelse rest:List Stmt} {pos:Pos} (x:TV c n env (lo ++ frozen ow) test true) (y:ExP c n env ex body lo ow):ExP c n env ex (.If test body orelse pos :: rest) lo ow:=fun A E b co s Q ⟨own,ad,S⟩ h =>
 wpAny_execs_cons (wpAny_If (x A E s _ _ S.thawed fun s₁ k => y A E b co s₁ _ ⟨own,ad,S.mono k⟩ h))
theorem ExP.assignMeth {x:Str} {xp spos:Pos} {o e₁:PySem.Expr} {m kn:Str} {apos pos kp:Pos} {kb:Bool} {ki:Nat} {kpos:Pos} {C f:Addr} {kvs:List (Str × D)} {d₁:D} {pl:Sem Bool} {rest:List Stmt} (y:EV c n env lo o (.inst C kvs)) (a:EV c n env lo e₁ d₁) (k:MethOk c C m f) (e:kvs.lookup m = Option.none) (hk:KeepF c (.ref f))
  (F:FnR c n (.ref f) [.inst C kvs,d₁] [(kn,kb)])
  (he:autoParam (eval (.Call (.Attribute o m apos) [e₁] [⟨some kn,.Constant (.bool kb) ki kp,kpos⟩] pos) env = (do
   let ov ← eval o env
   standAt apos.atName
   let (f,first) ← holding [ov] (getMethod ov m pl)
   callWith pos f first (backTo pos (starEach [e₁] env)) (backToKw pos (keywordEach [⟨some kn,.Constant (.bool kb) ki kp,kpos⟩] env)))) byRfl) (hp:autoParam (starEach [e₁] env = [(false,eval e₁ env)]) byRfl)
  (hs:autoParam (swapsWith (.Call (.Attribute o m apos) [e₁] [⟨some kn,.Constant (.bool kb) ki kp,kpos⟩] pos) (some (.Name x xp)) spos.line env = pure false) byRfl) :
  ExP c n env ex (.Assign [.Name x xp] (.Call (.Attribute o m apos) [e₁] [⟨some kn,.Constant (.bool kb) ki kp,kpos⟩] pos) spos :: rest) lo ow:=fun A E b co s Q ⟨own,ad,S⟩ h =>
 wpAny_execs_cons (wpAny_Assign_Name (methodCall_KW (y A E s own _ S.sit fun v s₁ k₁ rv => meth_get k e (S.mono k₁).sit.K rv (by
  have S1:=S.mono k₁
  refine callWith_of (by rw [hp]; rfl) (fun h' X => hk _ h' X) (evalArgs_kw2 rfl ?_ hp)
  refine wpAny_items_cons (a A E s₁ own _ S1.sit fun u s₂ k₂ ru => wpAny_items_nil ?_) hp
  have S2:=S1.mono k₂
  refine wpAny_evalAll_cons (wpAny_bind (wpAny_Constant_bool (wpAny_bind (wpAny_standAt (wpAny_pure (wpAny_evalAll_nil ⟨S2.sit.K,?_⟩))))))
  exact F A E s₂ own [v,u] _ S2.sit.ao S2.sit.ext S2.sit.ok S2.sit.base S2.sit.tok (.cons (rv.ext k₂.ext) (.cons ru .nil)) fun e' s' q ht => h s₂ e' s' S2.sit.ao S2.keep q)) he) hs)
noncomputable def AddBad (c:Cx) (n:Nat) (fA C:Addr) (ds:List D) (args:List D):Prop:=
 ∀ (A:Around) (s:Shared) (own:List Addr) (vs:List Value) (x dx l:Addr) (ws:List Value) (k m:Nat) (t:Tok) (R:Result→Shared→Prop),AOk c n A s.heap→Ext c.H s.heap→OwnOk own s.heap→(∀ a ∈ own,c.H.get? a = none)→1 ≤ s.toks →
  RdAll c.w.params own s.heap vs args →
  s.heap.get? x = some (instObj C dx)→s.heap.get? dx = some (dictOf (headersEs c.w.params t l) m)→s.heap.get? l = some (listOf ws.toArray k)→RdAll c.w.params own s.heap ws ds →
  (∀ e s',RaiseAt A s s' e→s.toks ≤ s'.toks→R (.error (.ref e)) s') →
  codeAny (model c.prog c.w) A (.call (.ref fA) ⟨.ref x :: vs,[]⟩) R s
variable {name qual:Str} {params:Arguments} {body:List Stmt} {scope:Scope} {dV kV doc pm cdv ct oc:Value} {an od:Option Addr} {osl:Array (Option Value)} {f:Addr}
theorem AddBad.def {C:Addr} {ds:List D} {a1 a2:D} {N1 N2 N3:Str} (ho:c.K.lookup f = some ⟨oc,od,.func (fnOf name qual params body scope dV kV doc pm an cdv ct),osl⟩) (hcd:codeIn c.K cdv qual = true)
  (hp:∀ (St:Setting) (v0 v1 v2:Value),peekA c.K St (bindArgs (fnOf name qual params body scope dV kV doc pm an cdv ct) ⟨[v0,v1,v2],[]⟩) = some (dictOf [] 0,fun q => (forIn ([]:List (Str × Value)) PUnit.unit (fun x _ => (nsSet q x.1 x.2 >>= fun _ => pure (ForInStep.yield PUnit.unit))) >>= fun _ => pure (([(("self":Str),v0),(N1,v1),(N2,v2)]:List (Str × Value)) ++ [(N3,Value.ref q)]))))
  (hN:(["self",N1,N2,N3]:List Str).Nodup) (hk:(["self",N1,N2,N3]:List Str).all (fun y => scope.names.lookup y == some .local || scope.names.lookup y == some .cell) = true)
  (hbody:∀ L x,ExP c n (envOfC qual scope L f cdv) [("self",.ref x)] body [("self",.inst C [("_headers",.lst ds)]),(N1,a1),(N2,a2),(N3,.dct [])] [])
  (hco:autoParam (scope.isCoroutine = false) byRfl) (hgen:autoParam (scope.isGenerator = false) byRfl) (hkind:autoParam (scope.kind = .function) byRfl):AddBad c (n + 1) f C ds [a1,a2]:=fun A s own vs x dx l ws k m t R ao ext ok base tok r hx hdx hl rw_ h => by
 cases r with
 | @cons v1 _ _ _ r1 r => cases r with
  | @cons v2 _ _ _ r2 r =>
   cases r
   have X:c.K.In s.heap:=c.X.keeps ext
   refine codeAny_with_toks (Nat.le_refl s.toks) (codeAny_call_function (by have:=ao.depth; omega) (X _ _ ho) rfl hco hgen rfl (codeRec_of X hcd) ?_)
   refine peekA_wp (K:=c.K) (M:=model c.prog c.w) X _ _ (hp _ _ _ _) ?_
   have hD:(s.heap.push (dictOf [] 0)).get? s.heap.objs.size = some (dictOf [] 0):=Heap.get?_push_size _ rfl
   rw [List.forIn_nil]
   refine wpAny_bind (wpAny_pure (wpAny_pure ?_))
   have e1:Ext s.heap (s.heap.push (dictOf [] 0)):=ext_push _ _
   have k1:K2 s { s with heap:=s.heap.push (dictOf [] 0) }:=⟨keeps_push _ _ _,Nat.le_refl _⟩
   have hnew:∀ own:List Addr,OwnOk own s.heap→s.heap.objs.size ∉ own:=fun own ok z => ok.held.new z
   let own0:List Addr:=own.filter fun q => !(q == x || q == dx || q == l)
   have sub0:∀ q ∈ own0,q ∈ own:=fun q hq => (List.mem_filter.mp hq).1
   have notIn:∀ q,(q = x ∨ q = dx ∨ q = l)→q ∉ own0:=fun q hq hm => by
    have:=(List.mem_filter.mp hm).2
    rcases hq with rfl | rfl | rfl <;> simp at this
   generalize hh1:s.heap.push (dictOf [] 0) = h1 at hD e1 k1
   have ok0:OwnOk own0 h1:=fun q hq => ok.ext e1 q (sub0 q hq)
   have rself:Rd c.w.params own0 h1 (.ref x) (.inst C [("_headers",.lst ds)]):=by
    refine .inst (n:=m) (notIn _ (.inl rfl)) (notIn _ (.inr (.inl rfl))) (e1 _ _ hx) (e1 _ _ hdx) (.cons (.lst (notIn _ (.inr (.inr rfl))) (e1 _ _ hl) rfl rfl ((rw_.sub sub0).ext e1)) .nil)
   have nosys:s.heap.objs.size ≠ sysModules:=fun z => by
    left;rcases c.sysm with ⟨a,o,ha,hlt⟩;right
    exact absurd (Heap.lt_size (ext _ _ ha)) (by rw [z]; exact Nat.not_lt.mpr (Nat.le_of_lt hlt))
   have rdict:Rd c.w.params own0 h1 (.ref s.heap.objs.size) (.dct []):=.dct ⟨fun z => hnew own ok (sub0 _ z),nosys⟩ hD .nil
   have hB':(([("self",Value.ref x),(N1,v1),(N2,v2),(N3,Value.ref s.heap.objs.size)]:List (Str × Value)).map (·.1)).Nodup:=hN
   have hk':∀ m,∀ y ∈ ([("self",Value.ref x),(N1,v1),(N2,v2),(N3,Value.ref s.heap.objs.size)]:List (Str × Value)),scope.names.lookup y.1 = some .local ∨ (scope.names.lookup y.1 = some .cell∧((cellsFrom m scope.names []).lookup y.1).isSome = true):=kindsX (binds:=[("self",Value.ref x),(N1,v1),(N2,v2),(N3,Value.ref s.heap.objs.size)]) (by
    rw [List.all_eq_true] at hk ⊢
    intro y hy
    have:y.1 ∈ (["self",N1,N2,N3]:List Str):=by
     have:=List.mem_map_of_mem (f:=(·.1)) hy
     exact this
    exact hk y.1 this)
   refine wpAny_with_toks (Nat.le_refl s.toks) (wpAny_newFunctionEnv_cells (s:={ s with heap:=h1 }) hkind (hk' _) fun env he s' xx htk => ?_)
   subst he
   have ext1:Ext c.H h1:=Ext.trans ext e1
   refine ⟨(c.T.nolimit.keeps ext1).keeps xx.toInCall.keep,codeAny_func ?_⟩
   obtain ⟨own',ad,S⟩:=entry_sto (n:=n) (qual:=qual) (f:=f) (cdv:=cdv) (s:={ s with heap:=h1 }) (ao.ext e1) ext1 ok0 (fun q hq => base q (sub0 q hq)) tok htk hkind hB' (hk' _) (lo0:=[("self",.inst C [("_headers",.lst ds)]),(N1,a1),(N2,a2),(N3,.dct [])]) (fun y d e => by
     have z:=zip_lookup (P:=c.w.params) (own:=own0) (h:=h1) (B:=[("self",Value.ref x),(N1,v1),(N2,v2),(N3,Value.ref s.heap.objs.size)]) (ds:=[.inst C [("_headers",.lst ds)],a1,a2,.dct []]) (.cons rself (.cons ((r1.sub sub0).ext e1) (.cons ((r2.sub sub0).ext e1) (.cons rdict .nil)))) e
     exact z) (ex0:=[("self",.ref x)]) (fun y v e => by
     rw [List.lookup_cons] at e
     by_cases z:(y == ("self":Str)) = true
     ·rw [z] at e; cases e
      have:y = "self" := by simpa using z
      subst this; exact .head _
     ·have z':(y == ("self":Str)) = false:=by simpa using z
      rw [z'] at e; simp at e) xx
   refine hbody _ x _ _ _ own0 s' _ ⟨own',ad,S⟩ fun s1 e s2 ao1 kp ra => ?_
   left;rcases ra with ⟨⟨tt,l1,hl1,hfly⟩,hslot,hgens,hos⟩;right
   left;rcases ao.frames with ⟨l0,hl0,hfl0⟩;right
   have hfd:(A.deeper (envOfC qual scope h1.objs.size f cdv)).frames = some (envOfC qual scope h1.objs.size f cdv :: l0):=Around.frames_deeper hl0
   have e2:l1 = envOfC qual scope h1.objs.size f cdv :: l0:=Option.some.inj (hl1.symm.trans hfd)
   subst e2
   have hf2:=frs_deep (A:=A) (env:=envOfC qual scope h1.objs.size f cdv) (L:=h1.objs.size) hl0 rfl
   refine wpAny_leaves_onW hfd rfl hfly fun h'' x1 x2 hts => ?_
   have k0:Keeps s s1:=Keeps.trans' k1.1 kp
   refine h e _ ⟨⟨tt,l0,hl0,flyingW_base (fun q o hq => hideAll_get _ (Keeps.ext k0 _ _ (of_hideAll _ hq)) fun hm => ?_) x1⟩,((Heap.UpToSlots.of_keeps (Keeps.ext k0)).trans hslot).trans x2,?_,?_⟩ hts
   ·have hm':q ∈ frs (A.deeper (envOfC qual scope h1.objs.size f cdv)):=hm
    rw [hf2] at hm'
    rcases List.mem_cons.mp hm' with z | z
    ·have:=e1 _ _ (of_hideAll _ hq)
     exact absurd (Heap.lt_size this) (by rw [z]; exact Nat.lt_irrefl _)
    ·rw [hideAll_none _ z] at hq; cases hq
   ·left;rcases k0 with ⟨_,_,es,_⟩;right
    show s2.gens = _
    rw [hgens,es]
   ·left;rcases k0 with ⟨_,_,es,_⟩;right
    show s2.os = _
    rw [hos,es]
end
theorem f_add_bad {c:Cx} (h:Is c) {n:Nat} (ds:List D) (nm v:List Nat) (h4:v.length ≤ 8000) (b2:Bad badV (S v) = true) :
  AddBad c (n + 2) 179 182 ds [.str (S nm),.str (S v)]:=by
 refine AddBad.def (ho:=by rw [h]; rfl) (hcd:=by rw [h]; rfl) (N1 := "_name") (N2 := "_value") (N3 := "_params") ?_ (by decide) (by rfl) ?_
 ·intro St v0 v1 v2
  rw [h]
  rfl
 ·intro L x
  refine ExP.cons (Ex1.fresh (EVF.list .nil) (.inl rfl)) ?_
  refine ExP.ite (TV.cmp (EV.name (d:=.str (S v)) rfl) EV.none rfl) ?_
  exact ExP.assignMeth (EV.name rfl) (EV.name (d:=.str (S v)) rfl) (m_convert h) rfl (KeepF.of (by rw [h]; rfl)) (f_convert_bad h (S v) (by rw [S_len]; unfold lim; omega) b2)
end
section
section
variable {c:Cx} {n:Nat} {A:Around} {env:Env} {b:Shared} {co own:List Addr} {ad:Str→List Addr} {lo lo':List (Str × D)} {ow ow':List (Str × OwnD)} {ex:List (Str × Value)} {s s':Shared} {o:Out} {tg:PySem.Expr}
theorem FnX.of_ok {P:Heap→Prop} (hP:∀ h,P h→TF h) {f:Value} {ds:List D} {d:D} (F:FnOk c n f ds [] d):FnX P c n f ds d:=fun A E s own vs Q ao ext ok base tok hG hp hno hfr r h =>
 F A E s own vs Q ao ext ok base tok r fun v s' k r' => h v s' (KX.of k.1 (hP _ hp) hG) k.2 r'
theorem glob_evalA {E:Value→Shared→Prop} {x:Str} {p:Pos} {v:Value} {Q:Value→Shared→Prop} (g:GlobIs c env x v) (ek:EnvOk env) (ext:Ext c.H s.heap) (hd:(x == ("__debug__":Str)) = false) (h:Q v s) :
  wpAny (model c.prog c.w) A (eval (.Name x p) env) Q E s:=by
 refine Name_function_global ek.kind g.kind ?_ hd
 have hg:s.heap.Ns env.globals c.mg:=ek.gl ▸ c.T.g.keeps ext
 have hb:s.heap.Ns env.builtins c.mb:=ek.bl ▸ c.T.b.keeps ext
 rcases g.at_ with a | ⟨a,b⟩
 ·exact loadGlobal_global hg a h
 ·exact loadGlobal_builtin hg a hb b h
theorem copyA {E:Value→Shared→Prop} {C:Addr} {v:Value} {p1 p2 p3 pos:Pos} {Q:Value→Shared→Prop} (ek:EnvOk env) (n1:NameIs env s.heap "self" v) (X:c.K.In s.heap) (rv:Rd c.w.params own s.heap v (.inst C [("_headers",.lst [])])) (ok:OwnOk own s.heap) (ka:AttrOk c C "_headers")
  (ha:eval (.Attribute (.Name "self" p1) "_headers" p2) env = (do
   let ov ← eval (.Name "self" p1) env
   standAt p2.atName
   let r ← holding [ov] (getAttr ov "_headers" true)
   letTemporaryGo (.Name "self" p1) ov r
   pure r))
  (hs:∀ u v,subscripted (.Slice none none none p3) false u v = operate [u,v] (getItem u v) ∨ subscripted (.Slice none none none p3) false u v = operate [v,u] (getItem u v))
  (h:∀ v s',K2 s s'→Rd c.w.params own s'.heap v (.lst [])→Q v s'):wpAny (model c.prog c.w) A (eval (.Subscript (.Attribute (.Name "self" p1) "_headers" p2) (.Slice none none none p3) pos) env) Q E s:=by
 refine PyProof.Rows.Subscript_ ?_
 rw [ha]
 refine wpAny_bind (wpAny_Name (nameIs_load ek n1 (by decide) ?_) (by decide))
 refine wpAny_bind (wpAny_standAt (wpAny_bind (wpAny_holding (attr_eval (d:=.lst []) ka rfl X rv fun u hu => ?_))))
 refine wpAny_bind (wpAny_letTemporaryGo (wpAny_pure ?_))
 have k1:K2 s { s with toks:=s.toks + 1 }:=⟨keeps_toks _ _,Nat.le_succ _⟩
 refine wpAny_Slice (wpAny_pure (wpAny_pure (wpAny_pure ?_)))
 have kp:K2 { s with toks:=s.toks + 1 } { s with toks:=s.toks + 1,heap:=s.heap.push { cls:=.type "slice",data:=.fields #[.none,.none,.none] } }:=(K2.refl _).push _
 have e:sliceD (.lst []) none none none = some (.lst []):=rfl
 unfold PyProof.Rows.subscriptTail
 refine wpAny_bind (getitem_road (Rd.ext kp.ext hu) (sliceD_road e) ?_)
 have fin:wpAny (model c.prog c.w) A (getItem u (.ref s.heap.objs.size)) (fun r s' => wpAny (model c.prog c.w) A (letTemporaryGo (.Attribute (.Name "self" p1) "_headers" p2) u r >>= fun _ => pure r) Q E s') E { s with toks:=s.toks + 1,heap:=s.heap.push { cls:=.type "slice",data:=.fields #[.none,.none,.none] } }:=by
  refine with2 (P:=fun v s' => Rd c.w.params own s'.heap v (.lst [])) (sliceD_sound (a:=.none) (lo:=none) (hi:=none) e (Rd.ext kp.ext hu) (ok.ext kp.ext) ⟨_,Heap.get?_push_size _ rfl,rfl,rfl⟩ rfl rfl rfl fun v s' q r' => ⟨q,r'⟩) fun v s' q r' => ?_
  exact wpAny_bind (wpAny_letTemporaryGo (wpAny_pure (h v s' ((k1.trans kp).trans q) r')))
 rcases hs u (.ref s.heap.objs.size) with q | q <;> rw [q] <;> exact wpAny_bind (wpAny_operating fin)
variable {name qual:Str} {params:Arguments} {scope:Scope} {dV kV doc pm cdv ct oc:Value} {an od:Option Addr} {osl:Array (Option Value)} {f:Addr}
theorem mark_def {E:Value→Shared→Prop} {C:Addr} {m:Option Value} {v:Value} {p1 p2 p3 p4 p5:Pos} {Q:Value→Shared→Prop} (ho:c.K.lookup f = some ⟨oc,od,.func (fnOf name qual params [.Return (some (.Subscript (.Attribute (.Name "self" p1) "_headers" p2) (.Slice none none none p3) p4)) p5] scope dV kV doc pm an cdv ct),osl⟩) (hcd:codeIn c.K cdv qual = true)
  (hb:∀ v1,bindArgs (fnOf name qual params [.Return (some (.Subscript (.Attribute (.Name "self" p1) "_headers" p2) (.Slice none none none p3) p4)) p5] scope dV kV doc pm an cdv ct) ⟨[v1],[]⟩ = pure [(("self":Str),v1)])
  (hk:(["self"]:List Str).all (fun y => scope.names.lookup y == some .local || scope.names.lookup y == some .cell) = true)
  (ka:AttrOk c C "_headers")
  (ha:∀ L,eval (.Attribute (.Name "self" p1) "_headers" p2) (envOfC qual scope L f cdv) = (do
   let ov ← eval (.Name "self" p1) (envOfC qual scope L f cdv)
   standAt p2.atName
   let r ← holding [ov] (getAttr ov "_headers" true)
   letTemporaryGo (.Name "self" p1) ov r
   pure r))
  (hs:∀ u v,subscripted (.Slice none none none p3) false u v = operate [u,v] (getItem u v) ∨ subscripted (.Slice none none none p3) false u v = operate [v,u] (getItem u v))
  (ao:AOk c (n + 1) A s.heap) (ext:Ext c.H s.heap) (ok:OwnOk own s.heap) (base:∀ a ∈ own,c.H.get? a = none) (tok:1 ≤ s.toks) (r:Rd c.w.params own s.heap v (.inst C [("_headers",.lst [])]))
  (hq:∀ v' s',K2 s s'→Rd c.w.params own s'.heap v' (.lst [])→Q v' s')
  (hco:autoParam (scope.isCoroutine = false) byRfl) (hgen:autoParam (scope.isGenerator = false) byRfl) (hkind:autoParam (scope.kind = .function) byRfl):wpAny (model c.prog c.w) (A.mark m) (call (.ref f) [v]) Q E s:=by
 left;rcases b1 (c:=c) hb s own [v] ext (.cons r .nil) with ⟨B,hbind,hN1,rB⟩;right
 have hN:(B.map (·.1)).Nodup:=by rw [hN1]; simp
 have hk':∀ m,∀ x ∈ B,scope.names.lookup x.1 = some .local ∨ (scope.names.lookup x.1 = some .cell∧((cellsFrom m scope.names []).lookup x.1).isSome = true):=kindsX (binds:=B) (by
  rw [List.all_eq_true] at hk ⊢
  exact fun x hx => hk x.1 (hN1 ▸ List.mem_map_of_mem hx))
 have X:c.K.In s.heap:=c.X.keeps ext
 refine wpAny_call (codeAny_with_toks (Nat.le_refl s.toks) (codeAny_call_function (by have:=ao.depth; show A.depth < _; omega) (X _ _ ho) rfl hco hgen rfl (codeRec_of X hcd) (hbind _ _ _ _ ?_)))
 refine wpAny_with_toks (Nat.le_refl s.toks) (wpAny_newFunctionEnv_cells hkind (hk' _) fun env he s' x htk => ?_)
 subst he
 refine ⟨(c.T.nolimit.keeps ext).keeps x.toInCall.keep,codeAny_func ?_⟩
 left;rcases entry_sto (n:=n) (qual:=qual) (f:=f) (cdv:=cdv) ao ext ok base tok htk hkind hN (hk' _) (lo0:=(B.map (·.1)).zip [.inst C [("_headers",.lst [])]]) (fun y d e => zip_lookup rB e) (ex0:=[]) (fun y v e => by simp at e) x with ⟨own',ad,S⟩;right
 rw [hN1] at S
 left;rcases S.sit.names "self" _ rfl with ⟨v1,n1,r1⟩;right
 refine wpAny_execs_cons (wpAny_Return_some (copyA S.sit.ek n1 S.sit.K r1 S.sit.ok ka (ha _) hs fun v2 s2 k2 r2 hts => ?_))
 exact hq v2 s2 ⟨Keeps.trans' S.keep k2.1,hts⟩ (r2.sub S.coIn)
theorem f_items_mark (h:Is c) {E:Value→Shared→Prop} {m:Option Value} {v:Value} {Q:Value→Shared→Prop} (ao:AOk c (n + 1) A s.heap) (ext:Ext c.H s.heap) (ok:OwnOk own s.heap) (base:∀ a ∈ own,c.H.get? a = none) (tok:1 ≤ s.toks) (r:Rd c.w.params own s.heap v (hdrsD []))
  (hq:∀ v' s',K2 s s'→Rd c.w.params own s'.heap v' (.lst [])→Q v' s'):wpAny (model c.prog c.w) (A.mark m) (call (.ref 146) [v]) Q E s:=
 mark_def (C:=182) (ho:=by rw [h]; rfl) (hcd:=by rw [h]; rfl) (fun _ => rfl) (by rfl) (a_headers h) (fun L => by rfl) (by intro _ _; first | exact .inl rfl | exact .inr rfl) ao ext ok base tok r hq
end
end
section
section
variable {c:Cx} {n:Nat} {A:Around} {env:Env} {b:Shared} {co own:List Addr} {ad:Str→List Addr} {lo lo':List (Str × D)} {ow ow':List (Str × OwnD)} {ex:List (Str × Value)} {s s':Shared} {o:Out} {tg:PySem.Expr}
theorem m_items {c:Cx} (h:Is c):MethOk c 182 "items" 146:=⟨by rw [h]; rfl,by rw [h]; rfl,by rw [h]; rfl⟩
set_option maxHeartbeats 1000000 in
theorem ExX.tryBad (h:Is c) (hcH:c.H.get? 254 = none) {x:Str} {p ap pos pos' p2 ap2 pos2 tpos spos hpos np tps kp:Pos} {tk kk:Nat} {es:List PySem.Expr} {args:List D} {txt:Str} {rest:List Stmt} {pl pl2:Sem Bool} (hx:ow.lookup x = some (.hdr 182 [])) (a:EVs c (n + 1) env (lo ++ frozen ow) es args) (F:AddBad c (n + 1) 179 182 [] args)
  (hVE:autoParam (env.kindOf "ValueError" = some .globalImplicit) byRfl)
  (hd:autoParam ((x == ("__debug__":Str)) = false) byDec) (hcd:autoParam ((x == ("__classdict__":Str)) = false) byDec) (hi:autoParam (interactive env = false) byRfl)
  (he:autoParam (eval (.Call (.Attribute (.Name x p) "add_header" ap) es [] pos) env = (do
   let ov ← eval (.Name x p) env
   standAt ap.atName
   let (f,first) ← holding [ov] (getMethod ov "add_header" pl)
   callWith pos f first (backTo pos (starEach es env)) (backToKw pos (keywordEach [] env)))) byRfl) (hp:autoParam (Plain es env pos) byPl2)
  (he2:autoParam (eval (.Call (.Attribute (.Name x p2) "items" ap2) [] [] pos2) env = (do
   let ov ← eval (.Name x p2) env
   standAt ap2.atName
   let (f,first) ← holding [ov] (getMethod ov "items" pl2)
   callWith pos2 f first (backTo pos2 (starEach [] env)) (backToKw pos2 (keywordEach [] env)))) byRfl)
  (hs1:autoParam (starEach [.Constant (.str txt) kk kp,.Call (.Attribute (.Name x p2) "items" ap2) [] [] pos2] env = (false,eval (.Constant (.str txt) kk kp) env) :: starEach [.Call (.Attribute (.Name x p2) "items" ap2) [] [] pos2] env) byRfl)
  (hs2:autoParam (starEach [.Call (.Attribute (.Name x p2) "items" ap2) [] [] pos2] env = (false,eval (.Call (.Attribute (.Name x p2) "items" ap2) [] [] pos2) env) :: starEach [] env) byRfl) :
  ExX TF c (n + 1) env ex (.Try [.Expr (.Call (.Attribute (.Name x p) "add_header" ap) es [] pos) pos'] [.ExceptHandler (some (.Name "ValueError" np)) none [.Return (some (.Tuple [.Constant (.str txt) kk kp,.Call (.Attribute (.Name x p2) "items" ap2) [] [] pos2] tk tps)) spos] hpos] [] [] tpos :: rest) lo ow (.tup [.str txt,.lst []]):=fun A E b co s ⟨own,ad,S⟩ hG hP hno hfr ⟨outer,hA1,hA2⟩ => by
 refine wpAny_execs_cons (wpAny_Try_except (wpAny_execs_cons (wpAny_Expr ?_ hi rfl)))
 left;rcases S.owns x _ hx with ⟨q,n1,o1,l1⟩;right
 have rself:=o1.froze thaw_sub fun z hz => thaw_not (ad:=ad) hx hz
 left;rcases o1 with ⟨dx,l,ws,j,m,t,e1,hne,e2,e3,e4,rw_⟩;right
 refine methodCall_KW (wpAny_Name (nameIs_load S.sit.ek n1 hcd ?_) hd) he
 refine meth_get (m_add h) (by rw [List.lookup_cons]; rfl) S.sit.K rself ?_
 refine callWith_ev (first:=[.ref q]) (KeepF.of (by rw [h]; rfl)) a hp S.thawed fun us s₁ k1 ru => ?_
 have S1:=S.mono k1
 have T1:=S1.thawed
 have rw1:=rw_.ext k1.ext
 refine wpAny_call (F A s₁ _ us q dx l ws j m t _ T1.ao T1.ext T1.ok T1.base T1.tok ru (k1.ext _ _ e2) (k1.ext _ _ e3) (k1.ext _ _ e4) (rw1.sub thaw_sub) fun e s2 ra ht => ?_)
 left;rcases ra with ⟨⟨tt,l0,hl0,hfly⟩,hslot,hgens,hos⟩;right
 have el:l0 = env :: outer:=Option.some.inj (hl0.symm.trans hA1)
 subst el
 show wpAny _ A (noteFrame (.ref e) env) _ _ s2
 refine wpAny_looks_onW hA1 hA2 hfly fun h₄ hheld₄ hsm₄ => ?_
 refine wpAny_landsW hheld₄ fun h₅ hheld hsm₅ => ?_
 left;rcases hheld.there with ⟨ob,hob,hobc⟩;right
 have hff:=fr_facts (fr:=[]) S1.sit.ao
 have ext5:Ext c.H h₅:=fun a o e => hheld.1 a o (hideAll_get _ (S1.sit.ext a o e) fun hm => by rw [(hff a hm).1] at e; cases e)
 refine wpAny_handleBy_builtin (X := "ValueError") (T := "ValueError") (b:=true) PySem.F.isExc_ValueError PySem.F.notTuple_ValueError (by rw [isSubtype_type]; kernel_rfl) (glob_evalA (g_VE h hVE) S.sit.ek ext5 (by decide) ⟨rfl,⟨ob,hob,hobc⟩,?_⟩)
 refine lands_againW hheld fun h₆ hfl₆ hsm₆ => ?_
 have hTs:=S1.tf hP
 have h254:254 ∉ frs A:=fun hm => by
  left;rcases hff 254 hm with ⟨_,o,ho,hn⟩;right
  obtain ⟨vs,hv⟩:=hTs
  rw [hv] at ho; cases ho
  exact hn vs rfl
 have K6:KX (frs A) s₁ { s2 with heap:=h₆ }:=⟨fun a o _ hm e => hfl₆.1 a o (hideAll_get _ e hm),((hslot.trans hsm₄).trans hsm₅).trans hsm₆,(let ⟨vs,hv⟩:=hTs; ⟨vs,hfl₆.1 _ _ (hideAll_get _ hv h254)⟩),hos,(by
  show AllBare s2.gens
  rw [hgens]
  exact S1.bare hG)⟩
 left;rcases S1.kx (s':={ s2 with heap:=h₆ }) K6 ht hTs (S1.no254T hP hno) hcH hfr with ⟨b₁,S6,kb⟩;right
 refine wpAny_execs_cons (wpAny_Return_some (wpAny_Tuple (wpAny_items_cons (wpAny_Constant_str ?_) hs1)))
 have S7:=S6.mono (s':={ s2 with heap:=h₆,toks:=s2.toks + 1 }) ⟨keeps_toks _ _,Nat.le_succ _⟩
 left;rcases S7.owns x _ hx with ⟨q',n7,o7,l7⟩;right
 have rself7:=o7.froze thaw_sub fun z hz => thaw_not (ad:=ad) hx hz
 have T7:=S7.thawed
 refine wpAny_items_cons (methodCall_KW (wpAny_Name (nameIs_load S7.sit.ek n7 hcd ?_) hd) he2) hs2
 refine meth_get (m_items h) (by rw [List.lookup_cons]; rfl) S7.sit.K rself7 ?_
 refine callWith_of (P:=c.K.In) rfl (fun h' X => (KeepF.of (by rw [h]; rfl):KeepF c (.ref 146)) _ h' X) (PyProof.Rows.evalArgs_none ⟨S7.sit.K,?_⟩)
 refine f_items_mark h T7.ao T7.ext T7.ok T7.base T7.tok rself7 fun v' s8 k8 r8 => wpAny_items_nil ⟨by have e:sizeLine = 16777216:=rfl; simp; omega,?_⟩
 refine ⟨_,rfl,Rd.sub S7.co_thaw (rd_newTup (.cons (.str _ _) (.cons r8 .nil))),kb.trans (KX.of (Keeps.trans' S7.keep (Keeps.trans' k8.1 (keeps_push _ _ _))) kb.tab kb.gens)⟩
end
end
section
section
variable {c:Cx} {n:Nat} {A:Around} {env:Env} {lo lo':List (Str × D)} {ow ow':List (Str × OwnD)} {ex:List (Str × Value)}
theorem Ex1.tryOk {body:List Stmt} {h0:ExceptHandler} {hs:List ExceptHandler} {pos:Pos} (x:Ex c n env ex body lo ow (.next lo' ow')):Ex1 c n env ex (.Try body (h0 :: hs) [] [] pos) lo ow (.next lo' ow'):=fun A E b co s S =>
 wpAny_Try_except (wpAny_mono (x A _ b co s S) (fun fl s' h => by
  obtain ⟨rfl,h⟩:=h
  exact wpAny_execs_nil ⟨rfl,h⟩) fun _ _ z => z)
theorem Ex1.newTable (h:Is c) {x:Str} {p pos p2 pos2:Pos} (hst:canStore env x) (hlo:autoParam (lo.lookup x = none) byRfl) (how:autoParam (ow.lookup x = none) byRfl) (hex:autoParam (ex.lookup x = none) byRfl) (hk:autoParam (env.kindOf "Headers" = some .globalImplicit) byRfl) (hp:autoParam (Plain [] env pos) byPl3) (hs:autoParam (swapsWith (.Call (.Name "Headers" p) [] [] pos) (some (.Name x p2)) pos2.line env = pure false) byRfl) :
  Ex1 c (n + 2) env ex (.Assign [.Name x p2] (.Call (.Name "Headers" p) [] [] pos) pos2) lo ow (.next lo ((x,.hdr 182 []) :: ow)):=
 Ex1.newHdr (g_Headers h hk) (KeepF.of (by rw [h]; rfl)) (by rw [h]; rfl) (by rw [h]; rfl) (by rw [h]; rfl) (f_hinit h) hst hlo how hex hp (by decide) hs
end
theorem f_tried_ok {c:Cx} (h:Is c) {n:Nat} (nm v:List Nat) (h1:nm.length ≤ 100) (h4:v.length ≤ 8000) (b1':Bad badN (S nm) = false) (b2':Bad badV (S v) = false) :
  FnOk c (n + 3) (.ref 323) [.str (S nm),.str (S v)] [] (.tup [.str "laid",.lst [pairD (nm,v)]]):=by
 refine FnOk.def (ho:=by rw [h]; rfl) (hcd:=by rw [h]; rfl) (N:=["name", "text"]) (ds0:=[.str (S nm),.str (S v)]) (b2 fun _ _ => rfl) (by decide) (by rfl) ?_ (.inl rfl)
 intro L
 refine Ex.cons (Ex1.newTable h (.inl rfl)) ?_
 have hval:valT (some v) [] = v:=by simp [valT,joinL]
 have F:=f_add h (n:=n) [] nm (some v) [] (by decide) h1 (by simp) (by simpa using h4) b1' b2' (by simp)
 rw [hval] at F
 refine Ex.cons (Ex1.tryOk (Ex.cons (Ex1.addHdr rfl (EVs.cons (EV.name rfl) (EVs.cons (EV.name rfl) .nil)) (m_add h) (KeepF.of (by rw [h]; rfl)) F (by unfold lim; simp)) Ex.nil)) ?_
 exact Ex.cons_ret (Ex1.ret (EV.tuple (EVs.cons EV.str (EVs.cons (EV.meth (kvs:=[("_headers",.lst [pairD (nm,v)])]) (EV.name rfl) .nil (m_items h) rfl (KeepF.of (by rw [h]; rfl)) (f_items h [(nm,v)] (by simp))) .nil))))
theorem f_tried_bad {c:Cx} (h:Is c) (g:GCx c) {n:Nat} (nm v:List Nat) (h4:v.length ≤ 8000) (b2':Bad badV (S v) = true) :
  FnX TF c (n + 3) (.ref 323) [.str (S nm),.str (S v)] (.tup [.str "refused",.lst []]):=by
 refine FnX.def (ho:=by rw [h]; rfl) (hcd:=by rw [h]; rfl) (N:=["name", "text"]) (ds0:=[.str (S nm),.str (S v)]) (b2 fun _ _ => rfl) (by decide) (by rfl) ?_
 intro L
 refine ExX.cons (Ex1.newTable h (.inl rfl)) ?_
 exact ExX.tryBad h g.h254 rfl (EVs.cons (EV.name rfl) (EVs.cons (EV.name rfl) .nil)) (f_add_bad h [] nm v h4 b2')
end
section
section
variable {c:Cx} {n:Nat} {A:Around} {env:Env} {b:Shared} {co own:List Addr} {ad:Str→List Addr} {lo lo':List (Str × D)} {ow ow':List (Str × OwnD)} {ex:List (Str × Value)} {s s':Shared} {o:Out} {tg:PySem.Expr}
theorem in_thaw {a:Addr} (h:a ∈ own) (hn:∀ x w,ow.lookup x = some w→a ∉ ad x):a ∈ thaw own ad ow:=List.mem_filter.mpr ⟨h,by
 rw [Bool.not_eq_true',List.any_eq_false]
 intro p hp
 cases e:ow.lookup p.1 with
 | none =>
  exfalso
  have:(ow.lookup p.1).isSome = true:=by
   clear e hn
   induction ow with
   | nil => cases hp
   | cons q r ih =>
    rw [List.lookup_cons]
    by_cases z:(p.1 == q.1) = true
    ·rw [z]; rfl
    ·have z':(p.1 == q.1) = false:=by simpa using z
     rw [z']
     rcases List.mem_cons.mp hp with rfl | hp
     ·simp at z
     ·exact ih hp
  rw [e] at this; cases this
 | some w => simpa using hn _ _ e⟩
theorem Sto.freezeAll (S:Sto c n A env b co own ad lo ow ex s):Sto c n A env b co (thaw own ad ow) ad (lo ++ frozen ow) [] ex s where
 sit:=S.thawed
 coIn:=S.co_thaw
 new:=fun a h => S.new a (thaw_sub a h)
 keep:=S.keep
 loc:=⟨S.loc.1,in_thaw S.loc.2.1 fun x w e hm => by
  left;rcases S.owns x w e with ⟨_,_,_,l1⟩;right
  exact (l1 _ hm).2.2 rfl,S.loc.2.2⟩
 cell:=fun x a h1 h2 h3 => by
  left;rcases S.cell x a h1 h2 h3 with ⟨⟨v,o,ho,hd⟩,k1,k2⟩;right
  refine ⟨⟨v,o,ho,hd⟩,in_thaw k1 fun y w e hm => ?_,k2⟩
  left;rcases S.owns y w e with ⟨a',_,o1,l1⟩;right
  left;rcases o1.objs a hm with ⟨o',ho',hn⟩;right
  rw [ho] at ho'; cases ho'
  exact hn v hd
 cells:=S.cells
 exact:=S.exact
 owns:=fun x w e => by simp at e
 apart:=fun x y w w' q e => by simp at e
theorem ExX.freeze {P:Heap→Prop} {st:List Stmt} {d:D} (x:ExX P c n env ex st (lo ++ frozen ow) [] d):ExX P c n env ex st lo ow d:=fun A E b co s ⟨own,ad,S⟩ => x A E b co s ⟨_,ad,S.freezeAll⟩
theorem Ex.freeze {st:List Stmt} (x:Ex c n env ex st (lo ++ frozen ow) [] o):Ex c n env ex st lo ow o:=fun A E b co s ⟨own,ad,S⟩ => x A E b co s ⟨_,ad,S.freezeAll⟩
end
theorem sgn_mem (r q k:Nat):sgn r q k ∈ signsL:=by
 unfold sgn
 have:(r / q / 8 ^ k + k) % 8 < 8:=Nat.mod_lt _ (by decide)
 generalize (r / q / 8 ^ k + k) % 8 = i at this
 have:∀ i < 8,signsL.getD i 0 ∈ signsL:=by decide
 exact this _ ‹_›
end
section
noncomputable def hdr (r:Nat):List Nat × List Nat:=(nameT r,valT (ownT r) (parT r))
noncomputable def foldsN (rs:List Nat):List (List (List Nat)):=rs.map fun r => folded (headT (hdr r)) (r / 4194304 % 256)
noncomputable def pageL (rs:List Nat) (ns:List Int):List (List Nat):=pageTo (drawnN ns) (foldsN rs) rs rs.length
noncomputable def writtenL (hs:List (List Nat × List Nat)):List Nat:=joinL [13,10] (hs.map headT ++ [[],[]])
noncomputable def sepL (k:Nat):List Nat:=[[13,10],[13],[10]].getD (k % 3) []
noncomputable def textL (k:Nat) (f:List (List Nat)):List Nat:=joinL (sepL k) f
noncomputable def toldV (k r:Nat) (f:List (List Nat)):List Nat:=(textL k f).drop ((nameT r).length + 1)
noncomputable def toldT (k r:Nat) (f:List (List Nat)):D:=if Bad badV (S (toldV k r f)) then .tup [.str "refused",.lst []] else .tup [.str "laid",.lst [pairD (nameT r,toldV k r f)]]
noncomputable def toldL (rs:List Nat):Nat→List D
 | 0 => []
 | k + 1 => toldL rs k ++ [toldT k (rs.getD k 0) ((foldsN rs).getD k [])]
noncomputable def toldD (rs:List Nat) (ps:List (List Nat × List Nat)) (stop:D):D:=
 .tup [.str (S (writtenL (rs.map hdr))),stop,.lst (ps.map pairD),.str (S (writtenL ps)),.lst (askL.map fun q => .lst (strsD (pickH q ps))),.lst (toldL rs rs.length)]
theorem signs_badV:∀ x ∈ signsL,badV x = false:=by decide
theorem bad_signs {l:List Nat} (h:∀ x ∈ l,x ∈ signsL):Bad badV (S l) = false:=by
 unfold Bad
 rw [List.any_eq_false]
 intro x hx
 rw [signs_badV x (h x hx)]
 decide
theorem nameT_mem (r:Nat):nameT r ∈ namesL:=by
 unfold nameT
 have:r % 4 < 4:=Nat.mod_lt _ (by decide)
 generalize r % 4 = i at this
 have:∀ i < 4,namesL.getD i [] ∈ namesL:=by decide
 exact this _ ‹_›
theorem names_ok:∀ l ∈ namesL,l.length ≤ 3∧Bad badN (S l) = false:=by decide
theorem parT_shape (r:Nat):(parT r).map (·.1) ∈ shapes:=by
 unfold parT shapes
 split
 ·simp
 ·split
  ·simp
  ·split <;> simp
theorem textT_signs (r:Nat):(∀ x ∈ textT r,x ∈ signsL)∧(textT r).length = 2:=by
 unfold textT
 refine ⟨fun x hx => ?_,rfl⟩
 simp only [List.mem_cons,List.mem_nil_iff,or_false] at hx
 rcases hx with rfl | rfl <;> exact sgn_mem _ _ _
theorem parT_ok (r:Nat):∀ p ∈ parT r,(∀ x ∈ p.2.getD [],x ∈ signsL)∧(p.2.getD []).length ≤ 2:=by
 obtain ⟨t1,t2⟩:=textT_signs r
 intro p hp
 unfold parT at hp
 split at hp
 ·simp at hp; subst hp; exact ⟨t1,by simp [t2]⟩
 ·split at hp
  ·simp at hp
   rcases hp with rfl | rfl
   ·exact ⟨t1,by simp [t2]⟩
   ·exact ⟨fun x hx => by simp at hx,by simp⟩
  ·split at hp
   ·simp at hp
    rcases hp with rfl | rfl
    ·exact ⟨fun x hx => by simp at hx,by simp⟩
    ·exact ⟨t1,by simp [t2]⟩
   ·simp at hp
theorem ownT_ok (r:Nat):(∀ x ∈ (ownT r).getD [],x ∈ signsL)∧((ownT r).getD []).length ≤ 4:=by
 unfold ownT
 split
 ·simp
 ·refine ⟨fun x hx => ?_,by simp⟩
  simp only [Option.getD_some,List.mem_cons,List.mem_nil_iff,or_false] at hx
  rcases hx with rfl | rfl | rfl | rfl <;> exact sgn_mem _ _ _
theorem addRow {c:Cx} (h:Is c) {n:Nat} (ds:List D) (r:Nat):AddOk c (n + 2) 179 182 ds [.str (S (nameT r)),optD (ownT r)] (parD (parT r)) (pairD (hdr r)):=by
 obtain ⟨q1,q2⟩:=names_ok _ (nameT_mem r)
 obtain ⟨o1,o2⟩:=ownT_ok r
 exact f_add h ds (nameT r) (ownT r) (parT r) (parT_shape r) (by omega) (fun p hp => by have:=(parT_ok r p hp).2; omega) (by omega) q2 (bad_signs o1) fun p hp => bad_signs (parT_ok r p hp).1
theorem parT_le (r:Nat):(parT r).length ≤ 2:=by
 have h:=parT_shape r
 have:∀ k ∈ shapes,k.length ≤ 2:=by decide
 have:=this _ h
 simpa using this
theorem valT_len (r:Nat):(hdr r).2.length ≤ 60:=by
 show (joinL [59,32] ((ownT r).toList ++ (parT r).map partA)).length ≤ 60
 have h1:=parT_le r
 obtain ⟨_,o2⟩:=ownT_ok r
 have q:=joinL_le (m:=18) [59,32] ((ownT r).toList ++ (parT r).map partA) fun p hp => by
  rcases List.mem_append.mp hp with z | z
  ·cases hq:ownT r with
   | none => rw [hq] at z; simp at z
   | some x => rw [hq] at z o2; simp at z; subst z; simp at o2; omega
  ·left;rcases List.mem_map.mp z with ⟨a,ha,z0_⟩;right;subst z0_
   have hs:=(parT_ok r a ha).2
   have hk:a.1.length ≤ 3:=by
    have h5:∀ k ∈ shapes,∀ x ∈ k,x.length ≤ 3:=by decide
    exact h5 _ (parT_shape r) _ (List.mem_map_of_mem ha)
   obtain ⟨key,v⟩:=a
   unfold partA
   cases v with
   | none => have:=rep1_len key; show (repL 95 [45] key).length ≤ 18; simp at hk; omega
   | some v =>
    have:=rep1_len key
    have he:=esc_len v
    simp at hs hk
    show (fmtT (repL 95 [45] key) v).length ≤ 18
    unfold fmtT
    split
    ·omega
    ·simp; omega
 have h2:((ownT r).toList ++ (parT r).map partA).length ≤ 3:=by
  rw [List.length_append,List.length_map]
  have:(ownT r).toList.length ≤ 1:=by cases ownT r <;> simp
  omega
 have h3:=Nat.mul_le_mul_right (18 + [59,32].length) h2
 have h4:3 * (18 + ([59,32]:List Nat).length) = 60:=rfl
 omega
theorem headT_len (r:Nat):(headT (hdr r)).length ≤ 70∧(nameT r).length + 2 ≤ (headT (hdr r)).length:=by
 have h1:=valT_len r
 obtain ⟨q1,_⟩:=names_ok _ (nameT_mem r)
 have:(hdr r).1 = nameT r:=rfl
 unfold headT
 simp only [List.length_append,List.length_cons,List.length_nil,this]
 omega
end
section
section
variable {c:Cx} {n:Nat} {A:Around} {env:Env} {b:Shared} {co own:List Addr} {ad:Str→List Addr} {lo lo':List (Str × D)} {ow ow':List (Str × OwnD)} {ex:List (Str × Value)} {s s':Shared} {o:Out} {tg:PySem.Expr} {E:Value→Shared→Prop}
structure BindOk (c:Cx) (C:Addr) (name:Str) (f:Addr):Prop where
 plain:plainGet c.K C name = true
 dict:hasDictIn c.K C = true
 at_:findIn c.K (.ref C) name = some (some (.ref f))
 get:specialIn c.K (.ref f) "__get__" = some (some (.builtin "function.__get__"))
 takes:takesIn c.K (.ref f) = some false
 copied:copiedNames.contains name = false
 ty:typeIn c.K (.ref f) = some (.type "function")
 fnin:fnIn c.K f = true
theorem findObj_fn {K:Frag} {C f:Addr} {od:Obj} {name:Str} (hh:hasDictIn K C = true) (ha:findIn K (.ref C) name = some (some (.ref f))) (hg:specialIn K (.ref f) "__get__" = some (some (.builtin "function.__get__"))) (ht:takesIn K (.ref f) = some false) (hc:copiedNames.contains name = false) (hl:lookIn name od = some none) :
  findObj K C (some od) name = some (.bind (.builtin "function.__get__") (.ref f)):=by
 left;rcases any_some hh with ⟨cd,hcd,hd⟩;right
 unfold findObj
 rw [hcd,Option.bind_some,ha,Option.bind_some]
 have ho:PySem.W.ownOf cd (some od) name = some none:=by unfold PySem.W.ownOf; rw [if_pos hd]; exact hl
 dsimp only
 rw [hg,Option.bind_some]
 dsimp only
 rw [ht,Option.bind_some]
 dsimp only
 rw [ho,Option.bind_some]
 dsimp only
 rw [hc]
 rfl
theorem bound_eval {C f:Addr} {kvs:List (Str × D)} {name:Str} {q:Addr} {Q:Value→Shared→Prop} (o:BindOk c C name f) (X:c.K.In s.heap) (r:Rd c.w.params own s.heap (.ref q) (.inst C kvs)) {hn:kvs.lookup name = none}
  (h:∀ m,m = s.heap.objs.size→Q (.ref m) { s with heap:=s.heap.push (methodObj (.ref f) (.ref q)),toks:=s.toks + 1 }):wpAny (model c.prog c.w) A (getAttr (.ref q) name true) Q E s:=by
 left;rcases rd_inst r with ⟨a,dx,es,k,e,I,rk⟩;right
 cases e
 refine get_bind X I (plainGet_of o.plain).1 (findObj_fn o.dict o.at_ o.get o.takes o.copied ?_) (plainGet_of o.plain).2 (wpAny_call (fn_get (s:={ s with toks:=s.toks + 1 }) X o.ty ?_))
 ·rw [lookIn_dict,rk.getL_none hn]
 ·exact handed_on rfl (h _ rfl)
theorem callKw_runP {P:Heap→Prop} {pos:Pos} {f:Value} {first:List Value} {t1 t2:Sem Value} {x:Sem Value} {Q:Value→Shared→Prop} (hk:∀ (M:Model) (h:Heap),P h→∃ k,(k = Keeper.frame ∨ k = Keeper.machine ∨ k = Keeper.boundFrame)∧Looks M h (keeperOf f) k)
  (h:wpAny (model c.prog c.w) A (spliced [(false,t1),(false,t2)]) (fun vs s₁ => wpAny (model c.prog c.w) A x (fun v s₂ => ∃ a es m,v = .ref a∧s₂.heap.get? a = some (dictOf es m)∧a ≠ s₁.heap.objs.size∧s₂.heap.get? s₁.heap.objs.size = some (dictOf [] 0)∧(a == sysModules) = false∧(∀ e ∈ es,∃ k t,e.key = .str k t)∧(∀ i e,es[i]? = some e→∀ e' ∈ es.take i,∀ k t,e.key = .str k t→e'.key.isStr k = false)∧es.length ≤ 1000 ∧
   ∀ h' m',Heap.SameBut s₁.heap.objs.size s₂.heap h'→h'.get? s₁.heap.objs.size = some (dictOf es m')→P h'∧wpAny (model c.prog c.w) A (call f (first ++ vs) (kwOf es)) Q E { s₂ with heap:=h' }) E { s₁ with heap:=s₁.heap.push (dictOf [] 0) }) E s) :
  wpAny (model c.prog c.w) A (callWith pos f first [(false,t1),(false,t2)] [(none,do let v ← x; standAt pos; pure v)]) Q E s:=by
 unfold callWith
 refine wpAny_bind (wpAny_holding ?_)
 unfold evalArgs
 refine wpAny_bind (wpAny_mono h (fun vs s₁ h₁ => ?_) fun _ _ z => z)
 refine wpAny_bind (wpAny_pure ?_)
 dsimp only
 refine wpAny_holding ?_
 rw [if_neg (by simp)] at ⊢
 refine wpAny_bind (merged_run (wpAny_mono h₁ (fun v s₂ h₂ => ?_) fun _ _ z => z))
 left;rcases h₂ with ⟨a,es,m,z0_,h1,h2,h3,h4,h5,h6,h7,h8⟩;right;subst z0_
 refine ⟨a,es,m,rfl,h1,h2,h3,h4,h5,h6,h7,fun h' m' sb hd => ?_⟩
 obtain ⟨X,hc⟩:=h8 h' m' sb hd
 refine wpAny_bind (wpAny_pure ?_)
 refine wpAny_bind (wpAny_holding (keysIn_run hd h5 (wpAny_pure ?_)))
 refine wpAny_bind (wpAny_standAt ?_)
 dsimp only
 left;rcases hk (model c.prog c.w) _ X with ⟨k,hk',L⟩;right
 refine wpAny_bind (L.here ?_)
 have tail:∀ {t:Sem Value} {s:Shared},wpAny (model c.prog c.w) A t Q E s→wpAny (model c.prog c.w) A (t >>= fun r => holding [r] point >>= fun _ => pure r) Q E s:=
  fun ht => wpAny_bind (wpAny_mono ht (fun r s₂ hr => wpAny_bind (wpAny_holding (wpAny_point (wpAny_pure hr)))) fun _ _ x => x)
 have marked (mk:Value):wpAny (model c.prog c.w) A (callMarked mk f (first ++ vs) (kwOf es)) Q E { s₂ with heap:=h' }:=by unfold callMarked; exact Calls.wpAny_keep hc
 have hst:(([(false,t1),(false,t2)].any fun x => x.fst) || ([((none:Option Str),(do let v ← x; standAt pos; pure v:Sem Value))].any fun x => x.fst.isNone)) = true:=by simp
 rw [hst]
 rcases hk' with rfl | rfl | rfl <;> dsimp only <;> first | exact tail (marked _) | exact tail (wpAny_operating hc)
theorem Ex1.addHdrKw2 {x:Str} {p ap pos pos' kpos:Pos} {e1 e2 e3:PySem.Expr} {C fA:Addr} {ds:List D} {a1 a2:D} {kw:List (Str × D)} {d:D} {t1 t2:Sem Value} (hx:ow.lookup x = some (.hdr C ds)) (y1:EV c n env (lo ++ frozen ow) e1 a1) (y2:EV c n env (lo ++ frozen ow) e2 a2) (y3:EV c n env (lo ++ frozen ow) e3 (.dct kw)) (hkw:(kw.map (·.1)).Nodup) (hkl:kw.length ≤ 1000) (k:BindOk c C "add_header" fA) (F:AddOk c n fA C ds [a1,a2] kw d) (hl:ds.length ≤ lim)
  (hd:autoParam ((x == ("__debug__":Str)) = false) byDec) (hcd:autoParam ((x == ("__classdict__":Str)) = false) byDec) (hi:autoParam (interactive env = false) byRfl)
  (he:autoParam (eval (.Call (.Attribute (.Name x p) "add_header" ap) [e1,e2] [⟨none,e3,kpos⟩] pos) env = (do
   let ov ← eval (.Name x p) env
   standAt ap.atName
   let (f,first) ← holding [ov] (do pure (← getAttr ov "add_header" true,[]))
   callWith pos f first (backTo pos (starEach [e1,e2] env)) (backToKw pos (keywordEach [⟨none,e3,kpos⟩] env)))) byRfl)
  (hse1:autoParam (starEach [e1,e2] env = (false,eval e1 env) :: starEach [e2] env) byRfl) (hse2:autoParam (starEach [e2] env = (false,eval e2 env) :: starEach [] env) byRfl)
  (harg:autoParam (backTo pos (starEach [e1,e2] env) = [(false,t1),(false,t2)]) byRfl) (hkwd:autoParam (backToKw pos (keywordEach [⟨none,e3,kpos⟩] env) = [(none,do let v ← eval e3 env; standAt pos; pure v)]) byRfl) :
  Ex1 c n env ex (.Expr (.Call (.Attribute (.Name x p) "add_header" ap) [e1,e2] [⟨none,e3,kpos⟩] pos) pos') lo ow (.next lo ((x,.hdr C (ds ++ [d])) :: ow)):=fun A E b co s ⟨own,ad,S⟩ => by
 refine wpAny_Expr ?_ hi rfl
 left;rcases S.owns x _ hx with ⟨q,n1,o1,l1⟩;right
 have rself:=o1.froze thaw_sub fun z hz => thaw_not (ad:=ad) hx hz
 left;rcases o1 with ⟨dx,l,ws,j,m,t,e1',hne,e2',e3',e4',rw_⟩;right
 rw [he]
 refine wpAny_bind (wpAny_Name (nameIs_load S.sit.ek n1 hcd ?_) hd)
 refine wpAny_bind (wpAny_standAt (wpAny_bind (wpAny_holding (wpAny_bind (bound_eval (hn:=by rw [List.lookup_cons]; rfl) k S.sit.K rself fun qa hqa => ?_)))))
 cases hqa
 refine wpAny_pure ?_
 have k0:K2 s { s with heap:=s.heap.push (methodObj (.ref fA) (.ref q)),toks:=s.toks + 1 }:=⟨⟨_,_,rfl,ext_push _ _⟩,Nat.le_succ _⟩
 have hm0:(s.heap.push (methodObj (.ref fA) (.ref q))).get? s.heap.objs.size = some (methodObj (.ref fA) (.ref q)):=Heap.get?_push_size _ rfl
 generalize hs0:({ s with heap:=s.heap.push (methodObj (.ref fA) (.ref q)),toks:=s.toks + 1 }:Shared) = s0 at k0
 have hm1:s0.heap.get? s.heap.objs.size = some (methodObj (.ref fA) (.ref q)):=by subst hs0; exact hm0
 generalize s.heap.objs.size = mq at hm1
 clear hm0 hs0
 have S:=S.mono k0
 have n1:=n1.ext k0.ext
 have e2':=k0.ext _ _ e2'
 have e3':=k0.ext _ _ e3'
 have e4':=k0.ext _ _ e4'
 have rw_:=rw_.ext k0.ext
 clear k0
 dsimp only
 rw [harg,hkwd]
 refine callKw_runP (P:=MethP c.K mq fA (.ref q)) (fun M h' X => keeps_M (K:=c.K) k.fnin h' X) ?_
 rw [← harg]
 refine EVs.cons y1 (EVs.cons y2 .nil hse2) hse1 A E s0 _ pos _ S.thawed fun us s₁ k1 ru => ?_
 have S1:=S.mono k1
 have T1:=S1.thawed
 have hD:(s₁.heap.push (dictOf [] 0)).get? s₁.heap.objs.size = some (dictOf [] 0):=Heap.get?_push_size _ rfl
 have hDt:¬ ((dictOf [] 0).cls = .type "tuple"∧∃ vs n,(dictOf [] 0).data = .seq vs n):=fun z => by left;rcases z with ⟨_,vs,m,z⟩;right; cases z
 have T2:=T1.opened (dictOf [] 0) hD hDt
 refine y3 A E _ _ _ T2 fun v s₂ k2 rv => ?_
 have T3:=T2.mono k2
 left;rcases rv.dct_inv with ⟨a,m2,es,z0_,na,ea,xa⟩;right;subst z0_
 left;rcases kwOf_keys xa with ⟨q1,q2,q3,q4⟩;right
 have hlen:es.length = kw.length:=xa.length
 refine ⟨a,es,m2,rfl,ea,fun z => na.1 (z ▸ .head _),k2.ext _ _ hD,by simpa using na.2,q3,rdKv_pw xa hkw,by omega,fun h' m' sb hd' => ?_⟩
 have ex1:Ext s₁.heap h':=fun z o hz => (sb.2 z (ne_of_get hz)).trans (k2.ext _ _ (ext_push _ _ _ _ hz))
 have k3:K2 s₁ { s₂ with heap:=h' }:=by
  left;rcases k2 with ⟨⟨h2,tk,z0_,_⟩,ht⟩;right;subst z0_
  exact ⟨⟨h',tk,rfl,ex1⟩,ht⟩
 have S3:=S1.mono k3
 have T4:=S3.thawed
 refine ⟨⟨ex1 _ _ (k1.ext _ _ hm1),S3.sit.K⟩,?_⟩
 have kp:=keep_of (own:=s₁.heap.objs.size :: thaw own ad ow) (.head _) sb
 have q2':=(q2.keep T3.ok kp).sub (own':=thaw own ad ow) fun z hz => .tail _ hz
 have rw1:=(rw_.ext k1.ext).ext ex1
 refine wpAny_call (method_call (ex1 _ _ (k1.ext _ _ hm1)) ?_)
 refine F A { s₂ with heap:=h' } _ us (kwOf es) q dx l ws j m t _ T4.ao T4.ext T4.ok T4.base T4.tok (ru.ext ex1) q2' q1 (ex1 _ _ (k1.ext _ _ e2')) (ex1 _ _ (k1.ext _ _ e3')) (ex1 _ _ (k1.ext _ _ e4')) (rw1.sub thaw_sub) (by rw [rw_.length]; exact hl) fun s5 v h5 k5 rv sb5 ho => ?_
 have S5:=S3.mono k5
 exact ⟨rfl,own,ad,S5.added hx e1' hne (k5.ext _ _ (ex1 _ _ (k1.ext _ _ e2'))) (k5.ext _ _ (ex1 _ _ (k1.ext _ _ e3'))) (k5.ext _ _ (ex1 _ _ (k1.ext _ _ e4'))) (rw1.ext k5.ext) (((n1.ext k1.ext).ext ex1).ext k5.ext) rv sb5 ho⟩
end
theorem b_add {c:Cx} (h:Is c):BindOk c 182 "add_header" 179:=⟨by rw [h]; rfl,by rw [h]; rfl,by rw [h]; rfl,by rw [h]; rfl,by rw [h]; rfl,by decide +kernel,by rw [h]; rfl,by rw [h]; rfl⟩
end
section
theorem m_getall {c:Cx} (h:Is c):MethOk c 182 "get_all" 121:=⟨by rw [h]; rfl,by rw [h]; rfl,by rw [h]; rfl⟩
theorem g_folded {c:Cx} (h:Is c) {env:Env} (hk:autoParam (env.kindOf "_law_folded" = some .globalImplicit) byRfl):GlobIs c env "_law_folded" (.ref 285):=GlobIs.glob (by rw [h]; rfl) hk
theorem g_read {c:Cx} (h:Is c) {env:Env} (hk:autoParam (env.kindOf "_law_read" = some .globalImplicit) byRfl):GlobIs c env "_law_read" (.ref 304):=GlobIs.glob (by rw [h]; rfl) hk
theorem g_page {c:Cx} (h:Is c) {env:Env} (hk:autoParam (env.kindOf "_law_page" = some .globalImplicit) byRfl):GlobIs c env "_law_page" (.ref 297):=GlobIs.glob (by rw [h]; rfl) hk
theorem g_tried {c:Cx} (h:Is c) {env:Env} (hk:autoParam (env.kindOf "_law_tried" = some .globalImplicit) byRfl):GlobIs c env "_law_tried" (.ref 323):=GlobIs.glob (by rw [h]; rfl) hk
noncomputable def fsF (rs:List Nat):D→Option D
 | .int k => some (.lst (strsD ((foldsN rs).getD k.toNat [])))
 | _ => none
theorem fsF_map (rs:List Nat):(rangeD 0 rs.length).filterMap (fsF rs) = (foldsN rs).map fun f => .lst (strsD f):=by
 have hl:(foldsN rs).length = rs.length:=by simp [foldsN]
 rw [hl.symm]
 unfold rangeD
 rw [List.filterMap_map]
 have e:(fsF rs ∘ fun (i:Nat) => D.int (0 + (i:Int))) = fun (k:Nat) => some (D.lst (strsD ((foldsN rs).getD k []))):=by
  funext k
  show some (D.lst (strsD ((foldsN rs).getD (0 + (k:Int)).toNat []))) = _
  rw [Int.zero_add,Int.toNat_natCast]
 rw [e]
 generalize foldsN rs = fs
 apply List.ext_getElem?
 intro j
 have h2:(List.range fs.length).filterMap (fun (k:Nat) => some (D.lst (strsD (fs.getD k [])))) = (List.range fs.length).map fun (k:Nat) => D.lst (strsD (fs.getD k [])):=by simp
 (rewrite [h2]; rw [List.getElem?_map,List.getElem?_map] at ⊢)
 by_cases hj:j < fs.length
 ·rw [List.getElem?_range hj,List.getElem?_eq_getElem hj] at ⊢
  simp [List.getD_eq_getElem?_getD,hj]
 ·rw [List.getElem?_eq_none (by simpa using Nat.le_of_not_lt hj),List.getElem?_eq_none (Nat.le_of_not_lt hj)] at ⊢
  rfl
noncomputable def fsA (ps:List (List Nat × List Nat)):D→Option D
 | .str q => some (.lst (strsD (pickH q.cps.toList ps)))
 | _ => none
theorem sep_ds (k:Nat):([.str "\r\n",.str "\r",.str "\n"]:List D)[((k % 3:Nat):Int).toNat]? = some (.str (S (sepL k))):=by
 have e1:(Str.ofString "\r\n") = S [13,10]:=by decide
 have e2:(Str.ofString "\r") = S [13]:=by decide
 have e3:(Str.ofString "\n") = S [10]:=by decide
 rw [e1,e2,e3,Int.toNat_natCast]
 unfold sepL
 have:k % 3 = 0 ∨ k % 3 = 1 ∨ k % 3 = 2:=by omega
 rcases this with q | q | q <;> rw [q] <;> rfl
theorem f_triedT {c:Cx} (h:Is c) (g:GCx c) {n:Nat} (k r:Nat) (f:List (List Nat)) (h4:(toldV k r f).length ≤ 8000):FnX TF c (n + 3) (.ref 323) [.str (S (nameT r)),.str (S (toldV k r f))] (toldT k r f):=by
 unfold toldT
 obtain ⟨q1,q2⟩:=names_ok _ (nameT_mem r)
 cases hb:Bad badV (S (toldV k r f)) with
 | true => exact f_tried_bad h g _ _ h4 hb
 | false => exact FnX.of_ok (fun _ h => h) (f_tried_ok h _ _ (by omega) h4 q2 hb)
theorem ask_ds:([.str "via",.str "aGE",.str "TE"]:List D) = askL.map fun q => .str (S q):=by
 have e1:(Str.ofString "via") = S [118,105,97]:=by decide
 have e2:(Str.ofString "aGE") = S [97,71,69]:=by decide
 have e3:(Str.ofString "TE") = S [84,69]:=by decide
 rw [e1,e2,e3]
 rfl
theorem fsA_map (ps:List (List Nat × List Nat)):(askL.map fun q => D.str (S q)).filterMap (fsA ps) = askL.map fun q => .lst (strsD (pickH q ps)):=by
 rw [List.filterMap_map]
 have e:(fsA ps ∘ fun q => D.str (S q)) = fun q => some (D.lst (strsD (pickH q ps))):=by
  funext q
  rfl
 rw [e]
 simp
theorem toldL_len (rs:List Nat):∀ k,(toldL rs k).length = k
 | 0 => rfl
 | k + 1 => by rw [toldL,List.length_append,toldL_len rs k]; rfl
set_option maxHeartbeats 2000000 in
theorem f_told {c:Cx} (h:Is c) (g:GCx c) {n:Nat} (rs:List Nat) (ns:List Int) (hr:rs.length ≤ 5) (h8:∀ r ∈ rs,r / 1073741824 < 8) (hl:ns.length ≤ 63)
  (hfc:∀ f ∈ foldsN rs,f.length ≤ 100) (hfw:∀ f ∈ foldsN rs,∀ l ∈ f,l.length ≤ 100)
  (hpg:0 < (pageL rs ns).length∧(pageL rs ns).length ≤ 500) (hpw:∀ l ∈ pageL rs ns,l.length ≤ 100)
  (ps:List (List Nat × List Nat)) (stop:D) (hread:readD (pageL rs ns) = .tup [.lst (strsD (ps.map headT)),stop]) (hps:ps.length ≤ 500) (hgood:∀ p ∈ ps,p.1 ∈ namesL∧p.2.length ≤ 7000∧Bad badV (S p.2) = false)
  (hsplit:Txt.split (S (writtenL (rs.map hdr))) "\r\n" = ((rs.map hdr).map headT ++ [[],[]]).map S)
  (hfind:∀ p ∈ ps,Txt.find (S (headT p)) ":" = (p.1.length:Int))
  (htext:∀ k r,rs[k]? = some r→(nameT r).length + 1 ≤ (textL k ((foldsN rs).getD k [])).length∧(textL k ((foldsN rs).getD k [])).length ≤ 1000) :
  FnX PF c (n + 4) (.ref 328) [.lst (rs.map rowD),.lst (ns.map .int)] (toldD rs ps stop):=by
 refine FnX.def (ho:=by rw [h]; rfl) (hcd:=by rw [h]; rfl) (N:=["rows", "script"]) (ds0:=[.lst (rs.map rowD),.lst (ns.map .int)]) (b2 fun _ _ => rfl) (by decide) (by rfl) ?_
 intro L
 have hrl:(rs.map rowD).length ≤ lim:=by rw [List.length_map]; unfold lim; omega
 refine ExX.cons (Ex1.newTable h (.inl rfl)) ?_
 refine ExX.cons (Ex1.loop (IT.list (EV.name rfl)) (fun _ => [("rows",.lst (rs.map rowD)),("script",.lst (ns.map .int))]) (fun j => [("first",.hdr 182 (((rs.take j).map hdr).map pairD))]) rs.length (by simp) (.of rfl) (.of rfl) ?_ (.inl ⟨by simp,rfl⟩)) ?_
 ·intro j d hj hd
  rw [List.getElem?_map] at hd
  left;rcases Option.map_eq_some_iff.mp hd with ⟨r,hrj,z0_⟩;right;subst z0_
  have htk:((rs.take (j + 1)).map hdr).map pairD = ((rs.take j).map hdr).map pairD ++ [pairD (hdr r)]:=by
   rw [List.take_add_one,hrj]; simp
  rw [htk]
  have hkn:((parD (parT r)).map (·.1)).Nodup:=nodup_keys (by
   have:∀ k ∈ shapes,k.Nodup:=by decide
   exact this _ (parT_shape r))
  refine Step.of (Tg.tuple (Tgs.cons (.inl rfl) (Tgs.cons (.inl rfl) (Tgs.cons (.inl rfl) (Tgs.cons (.inl rfl) (Tgs.cons (.inl rfl) Tgs.nil)))))) ?_
  exact Ex.post (Ex.cons (Ex1.addHdrKw2 rfl (EV.name rfl) (EV.name rfl) (EV.name rfl) hkn (by have:=parT_le r; simp [parD]; omega) (b_add h) (addRow h _ r) (by simp [lim]; omega)) Ex.nil) (.of rfl) (.of rfl)
 rw [List.take_length]
 refine ExX.cons (Ex1.assignF (d:=.str (S (writtenL (rs.map hdr)))) (EV.call (g_str h) KeepF.type (EVs.cons (EV.name (d:=hdrsD (rs.map hdr)) rfl) .nil) (f_strhdr h (rs.map hdr) (by simp; omega) (fun p hp => ?_))) rfl (.inl rfl)) ?_
 ·left;rcases List.mem_map.mp hp with ⟨r,_,z0_⟩;right;subst z0_
  have:=valT_len r
  have q:=(names_ok _ (nameT_mem r)).1
  exact ⟨by show (nameT r).length ≤ 100; omega,by omega⟩
 have hwl:(S (writtenL (rs.map hdr))).length ≤ lim:=by
  rw [S_len]
  have q:=joinL_le (m:=70) [13,10] ((rs.map hdr).map headT ++ [[],[]]) fun p hp => by
   rcases List.mem_append.mp hp with z | z
   ·left;rcases List.mem_map.mp z with ⟨a,ha,z0_⟩;right;subst z0_
    left;rcases List.mem_map.mp ha with ⟨r,_,z0_⟩;right;subst z0_
    exact (headT_len r).1
   ·simp at z; subst z; simp
  have h2:((rs.map hdr).map headT ++ [[],[]]).length ≤ 7:=by simp; omega
  have h3:=Nat.mul_le_mul_right (70 + [13,10].length) h2
  have h4:7 * (70 + ([13,10]:List Nat).length) = 504:=rfl
  unfold writtenL lim
  omega
 refine ExX.cons (Ex1.assign (d:=.lst ((((rs.map hdr).map headT ++ [[],[]]).map S).map D.str)) (EV.cast (EV.splitS (EV.name rfl) EV.str ⟨hwl,by decide⟩) (by rw [hsplit])) (.inr ⟨rfl,rfl⟩)) ?_
 have hz5:-1000 ≤ (((rs.map rowD).length:Nat):Int)∧(((rs.map rowD).length:Nat):Int) ≤ 100000:=by simp; omega
 have hzn:(((rs.map rowD).length:Nat):Int).toNat = rs.length:=by simp
 refine ExX.cons (Ex1.assignComp (cap:=[("lines",.lst ((((rs.map hdr).map headT ++ [[],[]]).map S).map D.str)),("rows",.lst (rs.map rowD))]) none (fsF rs) (by rfl) (.of rfl) (IT.range1 (g_range h) (EV.lenL h (EV.name rfl) hrl) hz5) ?_ (by rw [rangeD_len,hzn]; unfold lim; omega) (.inl rfl)) ?_
 ·intro i x hx C ex hx2
  obtain ⟨hi,rfl⟩:=rangeD_at hx
  rw [hzn] at hi
  rw [show (0:Int) + (i:Int) = (i:Int) from by omega] at ⊢
  obtain ⟨r,hri⟩:∃ r,rs[i]? = some r:=⟨rs[i],List.getElem?_eq_getElem hi⟩
  have hline:((((rs.map hdr).map headT ++ [[],[]]).map S).map D.str)[((i:Nat):Int).toNat]? = some (.str (S (headT (hdr r)))):=by
   (rewrite [Int.toNat_natCast]; rewrite [List.getElem?_map,List.getElem?_map,List.getElem?_append_left (by simpa using hi),List.getElem?_map,List.getElem?_map] at ⊢; rw [hri])
   rfl
  have hrow:(rs.map rowD)[((i:Nat):Int).toNat]? = some (rowD r):=by
   (rewrite [Int.toNat_natCast]; rewrite [List.getElem?_map] at ⊢; rw [hri]); rfl
  have hfi:(foldsN rs).getD i [] = folded (headT (hdr r)) (r / 4194304 % 256):=by
   unfold foldsN
   (rewrite [List.getD_eq_getElem?_getD,List.getElem?_map] at ⊢; rw [hri]); rfl
  refine CB.one (f:=.lst (strsD (folded (headT (hdr r)) (r / 4194304 % 256)))) ((.of rfl)) (Tg.name (.inl rfl) (hex:=hx2 _ rfl)) ?_ (EV.call (g_folded h) (KeepF.of (by rw [h]; rfl)) (EVs.cons (EV.itemL (EV.name rfl) (EV.name rfl) (by omega) hline (by simp [lim]; omega)) (EVs.cons (EV.itemT (EV.itemL (EV.name rfl) (EV.name rfl) (by omega) hrow hrl) EV.int (by decide) (d:=.int ((r / 4194304 % 256:Nat):Int)) rfl (by show 5 ≤ 100000; decide)) .nil)) (f_folded h _ _ (by have:=(headT_len r).1; omega)))
  show some (D.lst (strsD ((foldsN rs).getD ((i:Int)).toNat []))) = _
  rw [Int.toNat_natCast,hfi]
 rw [hzn,fsF_map]
 have F:=f_read h g (n:=n) (pageL rs ns) hpg.1 hpg.2 hpw
 rw [hread] at F
 refine ExX.unpackG g.h254 (EVG.call (g_read h) (KeepF.of (by rw [h]; rfl)) (EVs.cons (EV.call (g_page h) (KeepF.of (by rw [h]; rfl)) (EVs.cons (EV.name rfl) (EVs.cons (EV.name rfl) (EVs.cons (EV.name rfl) .nil))) (f_page h (foldsN rs) rs ns hr (by simp [foldsN]) h8 hl hfc (fun f hf l hl => by have:=hfw f hf l hl; omega))) .nil) F) (Tgs.cons (.inl rfl) (Tgs.cons (.inl rfl) Tgs.nil)) ?_
 refine ExX.cons (Ex1.newTable h (.inr ⟨rfl,rfl⟩)) ?_
 refine ExX.cons (Ex1.loop (IT.list (EV.name rfl)) (fun _ => [("rows",.lst (rs.map rowD)),("written",.str (S (writtenL (rs.map hdr)))),("folds",.lst ((foldsN rs).map fun f => .lst (strsD f))),("stop",stop)]) (fun j => [("table",.hdr 182 ((ps.take j).map pairD))]) ps.length (by simp [strsD]) (.of rfl) (.of rfl) ?_ (.inl ⟨by simp [strsD],rfl⟩)) ?_
 ·intro j d hj hd
  unfold strsD at hd
  rw [List.getElem?_map,List.getElem?_map] at hd
  left;rcases Option.map_eq_some_iff.mp hd with ⟨t,ht,z0_⟩;right;subst z0_
  left;rcases Option.map_eq_some_iff.mp ht with ⟨p,hp,z0_⟩;right;subst z0_
  have hmem:=List.mem_of_getElem? hp
  left;rcases hgood p hmem with ⟨g1,g2,g3⟩;right
  obtain ⟨n1,n2⟩:=names_ok _ g1
  have htk:(ps.take (j + 1)).map pairD = (ps.take j).map pairD ++ [pairD p]:=by
   rw [List.take_add_one,hp]; simp
  rw [htk]
  have hlh:(headT p).length = p.1.length + 2 + p.2.length:=by unfold headT; simp; omega
  have hval:valT (some p.2) [] = p.2:=by simp [valT,joinL]
  have F:=f_add h (n:=n + 1) ((ps.take j).map pairD) p.1 (some p.2) [] (by decide) (by omega) (by simp) (by simp; omega) n2 (by simpa using g3) (by simp)
  rw [hval] at F
  have c1:Txt.slice (S (headT p)) none (some (p.1.length:Int)) = S p.1:=by
   rw [slice_to _ _ (by omega)] at ⊢
   unfold headT
   rw [List.append_assoc,List.take_left' rfl]
  have c2:Txt.slice (S (headT p)) (some ((p.1.length:Int) + 2)) none = S p.2:=by
   have e:((p.1.length:Int) + 2) = ((p.1.length + 2:Nat):Int):=by omega
   (rewrite [e]; rw [slice_from _ _ (by omega)] at ⊢)
   unfold headT
   congr 1
   rw [List.drop_left' (by simp)] at ⊢
  have hsl:(S (headT p)).length ≤ lim:=by rw [S_len]; unfold lim; omega
  refine Step.of (Tg.name (.inl rfl)) ?_
  refine Ex.cons (Ex1.assign (d:=.int (p.1.length:Int)) (EV.cast (EV.find (EV.name rfl) EV.str) (by rw [hfind p hmem])) (.inl rfl)) ?_
  exact Ex.post (Ex.cons (Ex1.addHdr rfl (EVs.cons (EV.cast (EV.cut (EV.name rfl) PV.none (PV.some (EV.name rfl)) hsl) (congrArg D.str c1)) (EVs.cons (EV.cast (EV.cut (EV.name rfl) (PV.some (EV.bin (EV.name rfl) EV.int rfl)) PV.none hsl) (congrArg D.str c2)) .nil)) (m_add h) (KeepF.of (by rw [h]; rfl)) F (by simp [lim]; omega)) Ex.nil) (.of rfl) (.of rfl)
 rw [List.take_length]
 refine ExX.freeze (ExX.pre (lo':=[("rows",.lst (rs.map rowD)),("written",.str (S (writtenL (rs.map hdr)))),("folds",.lst ((foldsN rs).map fun f => .lst (strsD f))),("stop",stop),("table",hdrsD ps)]) (ow':=[]) ?_ (.of rfl) trivial)
 refine ExX.cons (Ex1.assignComp (cap:=[("table",hdrsD ps)]) none (fsA ps) (by rfl) (.of rfl) (IT.tuple (EV.cast (EV.tuple (EVs.cons EV.str (EVs.cons EV.str (EVs.cons EV.str .nil)))) (congrArg D.tup ask_ds))) ?_ (by decide) (.inl rfl)) ?_
 ·intro i x hx C ex hx2
  rw [List.getElem?_map] at hx
  left;rcases Option.map_eq_some_iff.mp hx with ⟨q,hq,z0_⟩;right;subst z0_
  have hqm:=List.mem_of_getElem? hq
  exact CB.one (f:=.lst (strsD (pickH q ps))) ((.of rfl)) (Tg.name (.inl rfl) (hex:=hx2 _ rfl)) (rfl) (EV.meth (kvs:=[("_headers",.lst (ps.map pairD))]) (EV.name rfl) (EVs.cons (EV.name rfl) .nil) (m_getall h) rfl (KeepF.of (by rw [h]; rfl)) (f_getall h ps q hqm hps fun p hp => (hgood p hp).1))
 rw [fsA_map]
 refine ExX.cons (Ex1.fresh (EVF.list .nil) (.inl rfl)) ?_
 refine ExX.loop g.h254 (ITX.range1 (g_range h) (EV.lenL h (EV.name rfl) hrl) hz5) (fun _ => [("rows",.lst (rs.map rowD)),("written",.str (S (writtenL (rs.map hdr)))),("folds",.lst ((foldsN rs).map fun f => .lst (strsD f))),("stop",stop),("table",hdrsD ps),("found",.lst (askL.map fun q => .lst (strsD (pickH q ps))))]) (fun k => [("tried",.lst (toldL rs k))]) (.of rfl) (.of rfl) ?_ ?_
 ·intro i x hi hx
  obtain ⟨_,rfl⟩:=rangeD_at hx
  rw [rangeD_len,hzn] at hi
  rw [show (0:Int) + (i:Int) = (i:Int) from by omega] at ⊢
  obtain ⟨r,hri⟩:∃ r,rs[i]? = some r:=⟨rs[i],List.getElem?_eq_getElem hi⟩
  have hrow:(rs.map rowD)[((i:Nat):Int).toNat]? = some (rowD r):=by
   (rewrite [Int.toNat_natCast]; rewrite [List.getElem?_map] at ⊢; rw [hri]); rfl
  have hfl:(foldsN rs).length = rs.length:=by simp [foldsN]
  have hfi:(foldsN rs)[i]? = some ((foldsN rs).getD i []):=by
   rw [List.getD_eq_getElem?_getD,List.getElem?_eq_getElem (by omega)] at ⊢; rfl
  have hfold:((foldsN rs).map fun f => D.lst (strsD f))[((i:Nat):Int).toNat]? = some (.lst (strsD ((foldsN rs).getD i []))):=by
   (rewrite [Int.toNat_natCast]; rewrite [List.getElem?_map] at ⊢; rw [hfi]); rfl
  have hf1:=hfc _ (List.mem_of_getElem? hfi)
  have hf2:=hfw _ (List.mem_of_getElem? hfi)
  obtain ⟨t1,t2⟩:=htext i r hri
  have hgr:rs.getD i 0 = r:=by (rewrite [List.getD_eq_getElem?_getD] at ⊢; rw [hri]); rfl
  show StepX c (n + 3) _ _ _ _ _ _ [("tried",.lst (toldL rs i))] _ [("tried",.lst (toldL rs (i + 1)))]
  rw [toldL,hgr]
  generalize hF:(foldsN rs).getD i [] = f at hfold hf1 hf2 t1 t2
  have F:=f_triedT h g (n:=n) i r f (by unfold toldV; rw [List.length_drop]; omega)
  obtain ⟨q1,_⟩:=names_ok _ (nameT_mem r)
  have hcut:Txt.slice (S (textL i f)) (some (((nameT r).length:Int) + 1)) none = S (toldV i r f):=by
   have e:(((nameT r).length:Int) + 1) = (((nameT r).length + 1:Nat):Int):=by omega
   rw [e,slice_from _ _ t1]
   rfl
  have hti:=toldL_len rs i
  refine ⟨_,Tg.name (.inl rfl),ExN.post (ExN.cons (Ex1.assign (d:=.str (S (textL i f))) (EV.join (sep:=sepL i) (ps:=f) rfl (EV.itemL (ds:=[.str "\r\n",.str "\r",.str "\n"]) (EV.list (EVs.cons EV.str (EVs.cons EV.str (EVs.cons EV.str .nil)))) (EV.fmodN (j:=3) (EV.name rfl) EV.int (by decide)) (by omega) (sep_ds i) (by decide)) (EV.itemL (EV.name rfl) (EV.name rfl) (by omega) hfold (by rw [List.length_map]; unfold lim; omega)) ?_ (by omega) (fun p hp => by have:=hf2 p hp; omega)) (.inl rfl))
   (ExN.appendX g.h254 (EVX.call TF.ext (g_tried h) (KeepF.of (by rw [h]; rfl)) (EVs.cons (EV.itemT (EV.itemL (EV.name rfl) (EV.name rfl) (by omega) hrow hrl) EV.int (by decide) (d:=.str (S (nameT r))) rfl (by show 5 ≤ 100000; decide)) (EVs.cons (EV.cast (EV.cut (EV.name rfl) (PV.some (EV.bin (EV.lenS h (EV.itemT (EV.itemL (EV.name rfl) (EV.name rfl) (by omega) hrow hrl) EV.int (by decide) (d:=.str (S (nameT r))) rfl (by show 5 ≤ 100000; decide)) (by rw [S_len]; unfold lim; omega)) EV.int rfl)) PV.none (by rw [S_len]; unfold lim; omega)) (congrArg D.str hcut)) .nil)) F) rfl (by rw [hti]; unfold lim; omega))) (.of rfl) (.of rfl)⟩
  unfold sepL
  have:∀ m < 3,(([[13,10],[13],[10]]:List (List Nat)).getD m []).length ≤ 1000:=by decide
  exact this _ (Nat.mod_lt _ (by decide))
 ·rw [rangeD_len,hzn]
  refine ExX.of (fun _ h => h) (Ex.cons_ret (Ex1.ret (EV.tuple (EVs.cons (EV.name rfl) (EVs.cons (EV.name rfl) (EVs.cons (EV.meth (kvs:=[("_headers",.lst (ps.map pairD))]) (EV.name rfl) .nil (m_items h) rfl (KeepF.of (by rw [h]; rfl)) (f_items h ps (by omega))) (EVs.cons (EV.call (g_str h) KeepF.type (EVs.cons (EV.name (d:=hdrsD ps) rfl) .nil) (f_strhdr h ps hps (fun p hp => ?_))) (EVs.cons (EV.name rfl) (EVs.cons (EV.name rfl) .nil)))))))))
  left;rcases hgood p hp with ⟨g1,g2,g3⟩;right
  have:=(names_ok _ g1).1
  exact ⟨by omega,by omega⟩
end
section
section
variable {c:Cx} {n:Nat} {A:Around} {env:Env} {b:Shared} {co own:List Addr} {ad:Str→List Addr} {lo lo':List (Str × D)} {ow ow':List (Str × OwnD)} {ex:List (Str × Value)} {s s':Shared} {o:Out} {tg:PySem.Expr}
theorem Sto.dropCo {a:Addr} (S:Sto c n A env b (a :: co) own ad lo ow ex s) (hb:b.heap.get? a = none):Sto c n A env b co own ad lo ow ex s:={ S with
 coIn:=fun q h => S.coIn q (.tail _ h)
 new:=fun q h => (S.new q h).elim (fun z => by
  rcases List.mem_cons.mp z with rfl | z
  ·exact .inr hb
  ·exact .inl z) .inr
 loc:=⟨S.loc.1,S.loc.2.1,fun h => S.loc.2.2 (.tail _ h)⟩
 cell:=fun x a h1 h2 h3 => by
  left;rcases S.cell x a h1 h2 h3 with ⟨k1,k2,k3⟩;right
  exact ⟨k1,k2,fun h => k3 (.tail _ h)⟩
 owns:=fun x w e => by
  left;rcases S.owns x w e with ⟨a,n1,o1,l1⟩;right
  exact ⟨a,n1,o1,fun q hq => ⟨(l1 q hq).1,fun h => (l1 q hq).2.1 (.tail _ h),(l1 q hq).2.2⟩⟩ }
theorem Ex1.twoFresh {x y:Str} {p1 p2 p3 p4 tp tp2 pos:Pos} {k k2:Nat} (hkx:canStore env x) (hky:canStore env y) (hxy:x ≠ y)
  (hlx:autoParam (lo.lookup x = none) byRfl) (hly:autoParam (lo.lookup y = none) byRfl) (howx:autoParam (ow.lookup x = none) byRfl) (howy:autoParam (ow.lookup y = none) byRfl) (hexx:autoParam (ex.lookup x = none) byRfl) (hexy:autoParam (ex.lookup y = none) byRfl)
  (hn:autoParam ((assignEach [.Name x p1,.Name y p2] env).length = 2) byRfl) (hstar:autoParam ((assignEach [.Name x p1,.Name y p2] env).findIdx? (·.1) = none) byRfl)
  (he1:autoParam (starEach [.List [] p3,.List [] p4] env = (false,eval (.List [] p3) env) :: starEach [.List [] p4] env) byRfl) (he2:autoParam (starEach [.List [] p4] env = (false,eval (.List [] p4) env) :: starEach [] env) byRfl)
  (hs:autoParam (swapsWithSole [.Tuple [.Name x p1,.Name y p2] k tp] (.Tuple [.List [] p3,.List [] p4] k2 tp2) pos.line env = pure false) byRfl) (hw:autoParam (swappedStores [.Tuple [.Name x p1,.Name y p2] k tp] (.Tuple [.List [] p3,.List [] p4] k2 tp2) env = pure none) byRfl) :
  Ex1 c n env ex (.Assign [.Tuple [.Name x p1,.Name y p2] k tp] (.Tuple [.List [] p3,.List [] p4] k2 tp2) pos) lo ow (.next lo ((y,.lst []) :: (x,.lst []) :: ow)):=fun A E b co s ⟨own,ad,S⟩ => by
 refine Assign_Tuple (wpAny_Tuple (wpAny_items_cons ((EVF.list .nil:EVF c n env lo (.List [] p3) []) A E s own _ S.sit fun a1 vs1 m1 s1 k1 ha1 hb1 r1 => ?_) he1)) hs hw
 have S1:=S.grow k1 ha1 hb1 (fun z => not_tuple z.1)
 refine wpAny_items_cons ((EVF.list .nil:EVF c n env lo (.List [] p4) []) A E s1 (a1 :: own) _ S1.sit fun a2 vs2 m2 s2 k2 ha2 hb2 r2 => ?_) he2
 cases r1
 cases r2
 have S2:=S1.growCo k2 ha2 hb2 (fun z => not_tuple z.1)
 have h12:a1 ≠ a2:=fun z => by subst z; rw [hb1] at ha2; cases ha2
 have hb1':=k2.ext _ _ hb1
 refine wpAny_items_nil ⟨by have e:sizeLine = 16777216:=rfl; simp; omega,?_⟩
 have k3:K2 s2 { s2 with heap:=s2.heap.push { cls:=.type "tuple",data:=.seq ([.ref a1,.ref a2]:List Value).toArray } }:=(K2.refl _).push _
 refine assign_Tuple_tuple S2.sit.ao.handled (t:=s2.heap.objs.size) (items:=([.ref a1,.ref a2]:List Value).toArray) ⟨_,Heap.get?_push_size _ rfl,rfl,_,rfl⟩ (by rw [hn]; rfl) hstar fun h' eb => ?_
 have e:Ext (s2.heap.push { cls:=.type "tuple",data:=.seq ([.ref a1,.ref a2]:List Value).toArray }) h':=fun q o hq => eb q o (ne_of_get hq) hq
 have k4:K2 s2 { s2 with heap:=h' }:=⟨⟨h',s2.toks,rfl,Ext.trans (ext_push _ _) e⟩,Nat.le_refl _⟩
 have S4:=S2.mono k4
 have hb1'':=k4.ext _ _ hb1'
 have hb2'':=k4.ext _ _ hb2
 have hL1:a1 ≠ env.locals:=fun z => by
  subst z
  left;rcases S.loc.1 with ⟨mm,o,_,_,ho,_⟩;right
  rw [ha1] at ho; cases ho
 have hL2:a2 ≠ env.locals:=fun z => by
  subst z
  left;rcases S1.loc.1 with ⟨mm,o,_,_,ho,_⟩;right
  rw [ha2] at ho; cases ho
 have hb2n:b.heap.get? a2 = none:=none_of_ext (Keeps.ext S1.keep) ha2
 left;rcases S4.carry with ⟨bc,Sc,kc,_⟩;right
 show wpAny _ A (assignInOrder ((assignEach [.Name x p1,.Name y p2] env).map (·.2)) [.ref a1,.ref a2]) _ E { s2 with heap:=h' }
 refine assignInOrder_cons (wpAny_assign_Name (Sc.store hkx howx hexx fun s5 _ h5 => ?_))
 have S5:=h5 a1 (.lst []) [a1] rfl ⟨rfl,[],m1,hb1'',.nil⟩ (fun q hq => by
  simp at hq; subst hq
  exact ⟨.tail _ (.head _),fun z => by
   rcases List.mem_cons.mp z with z | z
   ·exact h12 z
   ·exact S.held ha1 (S.coIn _ z),hL1⟩) (fun z w' hz q hq hm => by
  simp at hq; subst hq
  left;rcases S.owns z w' hz with ⟨_,_,_,l1⟩;right
  exact S.held ha1 (l1 _ hm).1) hlx
 left;rcases kc S5 with ⟨S5',mv,cm⟩;right
 have hb25:=cm a2 _ (.head _) hb2''
 have S6:=S5'.dropCo hb2n
 refine assignInOrder_cons (wpAny_assign_Name (S6.store hky (by
  have z:(y == x) = false:=by simpa using Ne.symm hxy
  rw [List.lookup_cons,z]
  exact howy) hexy fun s7 _ h7 => ?_))
 have S7:=h7 a2 (.lst []) [a2] rfl ⟨rfl,[],m2,hb25,.nil⟩ (fun q hq => by
  simp at hq; subst hq
  exact ⟨.head _,fun z => S1.held ha2 (S1.coIn _ z),hL2⟩) (fun z w' hz q hq hm => by
  simp at hq; subst hq
  rw [List.lookup_cons] at hz
  by_cases zx:(z == x) = true
  ·have:z = x:=by simpa using zx
   subst this
   simp at hm
   exact h12 hm.symm
  ·have zx':(z == x) = false:=by simpa using zx
   rw [zx'] at hz
   have hne:z ≠ x:=by simpa using zx'
   simp only [if_neg hne] at hm
   left;rcases S1.owns z w' hz with ⟨_,_,_,l1⟩;right
   exact S1.held ha2 (l1 _ hm).1) hly
 exact wpAny_pure ⟨rfl,_,_,S7⟩
end
end
section
noncomputable def lineOf (r:Nat):List Nat:=lineT (nameT r) (ownT r) (parT r)
theorem g_line {c:Cx} (h:Is c) {env:Env} (hk:autoParam (env.kindOf "_law_line" = some .globalImplicit) byRfl):GlobIs c env "_law_line" (.ref 271):=GlobIs.glob (by rw [h]; rfl) hk
theorem g_taken {c:Cx} (h:Is c) {env:Env} (hk:autoParam (env.kindOf "_law_taken" = some .globalImplicit) byRfl):GlobIs c env "_law_taken" (.ref 316):=GlobIs.glob (by rw [h]; rfl) hk
theorem f_lineR {c:Cx} (h:Is c) {n:Nat} (r:Nat):FnOk c (n + 1) (.ref 271) [.str (S (nameT r)),optD (ownT r),.dct (parD (parT r))] [] (.str (S (lineOf r))):=by
 obtain ⟨q1,_⟩:=names_ok _ (nameT_mem r)
 obtain ⟨_,o2⟩:=ownT_ok r
 refine f_line h _ _ _ ?_ (by omega) (by have:=parT_le r; omega) (fun p hp => ⟨?_,by have:=(parT_ok r p hp).2; omega⟩) (by omega)
 ·have:∀ k ∈ shapes,k.Nodup:=by decide
  exact this _ (parT_shape r)
 ·have h5:∀ k ∈ shapes,∀ x ∈ k,x.length ≤ 10:=by decide
  exact h5 _ (parT_shape r) _ (List.mem_map_of_mem hp)
noncomputable def dueV (r:Nat):List Nat:=(headT (hdr r)).drop ((nameT r).length + 1)
noncomputable def dueT (r:Nat) (f:List (List Nat)):D:=if decide (f.length = 1) then .tup [.str "laid",.lst [pairD (nameT r,dueV r)]] else .tup [.str "refused",.lst []]
noncomputable def dueL (rs:List Nat):Nat→List D
 | 0 => []
 | k + 1 => dueL rs k ++ [dueT (rs.getD k 0) ((foldsN rs).getD k [])]
theorem dueL_len (rs:List Nat):∀ k,(dueL rs k).length = k
 | 0 => rfl
 | k + 1 => by rw [dueL,List.length_append,dueL_len rs k]; rfl
noncomputable def alikeL:List (List (List Nat)):=[[[86,105,97],[118,73,65]],[[65,103,101]],[[84,101]]]
noncomputable def pickA (a:List (List Nat)) (ps:List (List Nat × List Nat)):List (List Nat):=(ps.filter fun p => a.contains p.1).map (·.2)
noncomputable def dueD (rs:List Nat) (ps:List (List Nat × List Nat)) (stop:D):D:=
 .tup [.str (S (writtenL (rs.map hdr))),stop,.lst (ps.map pairD),.str (S (writtenL ps)),.lst (alikeL.map fun a => .lst (strsD (pickA a ps))),.lst (dueL rs rs.length)]
noncomputable def fsK (hd:List Nat):D→Option D
 | .str q => if decide (hd.take (q.cps.toList.length + 1) = q.cps.toList ++ [58]) then some (.str q) else none
 | _ => none
theorem known_one (v:List Nat):∀ a ∈ namesL,((namesL.map fun nm => D.str (S nm)).filterMap (fsK (headT (a,v)))) = [.str (S a)]:=by
 intro a ha
 unfold namesL at ha
 simp only [List.mem_cons,List.mem_nil_iff,or_false] at ha
 rcases ha with rfl | rfl | rfl | rfl <;> rfl
noncomputable def fsI (al:List (List Nat)):D→Option D
 | .tup [.str a,.str b] => if al.contains a.cps.toList then some (.str b) else none
 | _ => none
theorem fsI_map (al:List (List Nat)) (ps:List (List Nat × List Nat)):(ps.map pairD).filterMap (fsI al) = strsD (pickA al ps):=by
 unfold pickA strsD
 induction ps with
 | nil => rfl
 | cons p r ih =>
  rw [List.map_cons,List.filterMap_cons,List.filter_cons]
  have e:fsI al (pairD p) = if al.contains p.1 then some (.str (S p.2)) else none:=rfl
  rw [e]
  cases al.contains p.1 with
  | true => exact congrArg (List.cons _) ih
  | false => exact ih
noncomputable def fsP (ps:List (List Nat × List Nat)):D→Option D
 | .lst al => some (.lst ((ps.map pairD).filterMap (fsI (al.filterMap fun d => match d with | .str q => some q.cps.toList | _ => none))))
 | _ => none
theorem in_alike:∀ al ∈ alikeL,∀ a ∈ namesL,cmpD .In (.str (S a)) (.lst (strsD al)) = some (al.contains a):=by decide +kernel
theorem names_ds:([.str "Via",.str "Age",.str "vIA",.str "Te"]:List D) = namesL.map fun nm => .str (S nm):=by
 have e1:(Str.ofString "Via") = S [86,105,97]:=by decide
 have e2:(Str.ofString "Age") = S [65,103,101]:=by decide
 have e3:(Str.ofString "vIA") = S [118,73,65]:=by decide
 have e4:(Str.ofString "Te") = S [84,101]:=by decide
 rw [e1,e2,e3,e4]
 rfl
theorem alike_ds:([.lst [.str "Via",.str "vIA"],.lst [.str "Age"],.lst [.str "Te"]]:List D) = alikeL.map fun al => .lst (strsD al):=by
 have e1:(Str.ofString "Via") = S [86,105,97]:=by decide
 have e2:(Str.ofString "Age") = S [65,103,101]:=by decide
 have e3:(Str.ofString "vIA") = S [118,73,65]:=by decide
 have e4:(Str.ofString "Te") = S [84,101]:=by decide
 rw [e1,e2,e3,e4]
 rfl
theorem fsP_map (ps:List (List Nat × List Nat)):(alikeL.map fun al => D.lst (strsD al)).filterMap (fsP ps) = alikeL.map fun a => .lst (strsD (pickA a ps)):=by
 have e:∀ al:List (List Nat),fsP ps (D.lst (strsD al)) = some (.lst (strsD (pickA al ps))):=fun al => by
  show some (D.lst ((ps.map pairD).filterMap (fsI ((strsD al).filterMap fun d => match d with | .str q => some q.cps.toList | _ => none)))) = _
  have e2:((strsD al).filterMap fun d => match d with | D.str q => some q.cps.toList | _ => none) = al:=by
   unfold strsD
   induction al with
   | nil => rfl
   | cons a r ih => exact congrArg (List.cons a) ih
  rw [e2,fsI_map]
 unfold alikeL
 simp [e]
end
section
theorem unS (al:List (List Nat)):((strsD al).filterMap fun d => match d with | D.str q => some q.cps.toList | _ => none) = al:=by
 unfold strsD
 induction al with
 | nil => rfl
 | cons a r ih => exact congrArg (List.cons a) ih
noncomputable def unopt:D→Option (List Nat)
 | .str x => some x.cps.toList
 | _ => none
noncomputable def fsLine:D→Option D
 | .tup (.str nm :: own :: .dct kvs :: _) => some (.str (S (lineT nm.cps.toList (unopt own) (kvs.map fun p => (p.1.cps.toList,unopt p.2)))))
 | _ => none
theorem unopt_optD (o:Option (List Nat)):unopt (optD o) = o:=by cases o <;> rfl
theorem fsLine_row (r:Nat):fsLine (rowD r) = some (.str (S (lineOf r))):=by
 show some (D.str (S (lineT (nameT r) (unopt (optD (ownT r))) ((parD (parT r)).map fun p => (p.1.cps.toList,unopt p.2))))) = _
 rw [unopt_optD]
 have:((parD (parT r)).map fun p => (p.1.cps.toList,unopt p.2)) = parT r:=by
  unfold parD
  rw [List.map_map]
  generalize parT r = ps
  induction ps with
  | nil => rfl
  | cons p ps ih =>
   rw [List.map_cons,ih]
   show (p.1,unopt (optD p.2)) :: ps = p :: ps
   rw [unopt_optD]
 rw [this]
 rfl
theorem fsLine_map (rs:List Nat):(rs.map rowD).filterMap fsLine = strsD (rs.map lineOf):=by
 unfold strsD
 induction rs with
 | nil => rfl
 | cons r rs ih =>
  rw [List.map_cons,List.filterMap_cons,fsLine_row,ih]
  rfl
set_option maxHeartbeats 2000000 in
theorem f_due {c:Cx} (h:Is c) {n:Nat} (rs:List Nat) (ns:List Int) (hr:rs.length ≤ 5) (h8:∀ r ∈ rs,r / 1073741824 < 8) (hl:ns.length ≤ 63)
  (hline:∀ r,lineOf r = headT (hdr r))
  (hfc:∀ f ∈ foldsN rs,f.length ≤ 100) (hfw:∀ f ∈ foldsN rs,∀ l ∈ f,l.length ≤ 100)
  (hpg:0 < (pageL rs ns).length∧(pageL rs ns).length ≤ 500) (hpw:∀ l ∈ pageL rs ns,l.length ≤ 100)
  (ps:List (List Nat × List Nat)) (stop:D) (htaken:takenD (pageL rs ns) = .tup [.lst (strsD (ps.map headT)),stop]) (hps:ps.length ≤ 500) (hgood:∀ p ∈ ps,p.1 ∈ namesL∧p.2.length ≤ 7000) :
  FnOk c (n + 3) (.ref 333) [.lst (rs.map rowD),.lst (ns.map .int)] [] (dueD rs ps stop):=by
 refine FnOk.def (ho:=by rw [h]; rfl) (hcd:=by rw [h]; rfl) (N:=["rows", "script"]) (ds0:=[.lst (rs.map rowD),.lst (ns.map .int)]) (b2 fun _ _ => rfl) (by decide) (by rfl) ?_ (.inl rfl)
 intro L
 have hrl:(rs.map rowD).length ≤ lim:=by rw [List.length_map]; unfold lim; omega
 have hz5:-1000 ≤ (((rs.map rowD).length:Nat):Int)∧(((rs.map rowD).length:Nat):Int) ≤ 100000:=by simp; omega
 have hzn:(((rs.map rowD).length:Nat):Int).toNat = rs.length:=by simp
 have hlines:rs.map lineOf = (rs.map hdr).map headT:=by
  rw [List.map_map]
  exact List.map_congr_left fun r _ => hline r
 refine Ex.cons (Ex1.assign (d:=.lst (strsD ((rs.map hdr).map headT))) (EV.cast (EV.comp (cap:=[]) none fsLine (by rfl) trivial (IT.list (EV.name rfl)) ?_ hrl) (by rw [fsLine_map,hlines])) (.inr ⟨rfl,rfl⟩)) ?_
 ·intro i x hx C ex hx2
  rw [List.getElem?_map] at hx
  left;rcases Option.map_eq_some_iff.mp hx with ⟨r,hr,z0_⟩;right;subst z0_
  exact CB.one (trivial) (Tg.tuple (Tgs.cons (.inl rfl) (Tgs.cons (.inl rfl) (Tgs.cons (.inl rfl) (Tgs.cons (.inl rfl) (Tgs.cons (.inl rfl) Tgs.nil (hex:=hx2 _ rfl)) (hex:=hx2 _ rfl)) (hex:=hx2 _ rfl)) (hex:=hx2 _ rfl)) (hex:=hx2 _ rfl))) (fsLine_row r) (EV.call (g_line h) (KeepF.of (by rw [h]; rfl)) (EVs.cons (EV.name rfl) (EVs.cons (EV.name rfl) (EVs.cons (EV.name rfl) .nil))) (f_lineR h r))
 refine Ex.cons (Ex1.assignComp (cap:=[("lines",.lst (strsD ((rs.map hdr).map headT))),("rows",.lst (rs.map rowD))]) none (fsF rs) (by rfl) (.of rfl) (IT.range1 (g_range h) (EV.lenL h (EV.name rfl) hrl) hz5) ?_ (by rw [rangeD_len,hzn]; unfold lim; omega) (.inl rfl)) ?_
 ·intro i x hx C ex hx2
  obtain ⟨hi,rfl⟩:=rangeD_at hx
  rw [hzn] at hi
  rw [show (0:Int) + (i:Int) = (i:Int) from by omega] at ⊢
  obtain ⟨r,hri⟩:∃ r,rs[i]? = some r:=⟨rs[i],List.getElem?_eq_getElem hi⟩
  have hlinei:(strsD ((rs.map hdr).map headT))[((i:Nat):Int).toNat]? = some (.str (S (headT (hdr r)))):=by
   unfold strsD
   (rewrite [Int.toNat_natCast]; rewrite [List.getElem?_map,List.getElem?_map,List.getElem?_map] at ⊢; rw [hri])
   rfl
  have hrow:(rs.map rowD)[((i:Nat):Int).toNat]? = some (rowD r):=by
   (rewrite [Int.toNat_natCast]; rewrite [List.getElem?_map] at ⊢; rw [hri]); rfl
  have hfi:(foldsN rs).getD i [] = folded (headT (hdr r)) (r / 4194304 % 256):=by
   unfold foldsN
   (rewrite [List.getD_eq_getElem?_getD,List.getElem?_map] at ⊢; rw [hri]); rfl
  refine CB.one (f:=.lst (strsD (folded (headT (hdr r)) (r / 4194304 % 256)))) ((.of rfl)) (Tg.name (.inl rfl) (hex:=hx2 _ rfl)) ?_ (EV.call (g_folded h) (KeepF.of (by rw [h]; rfl)) (EVs.cons (EV.itemL (EV.name rfl) (EV.name rfl) (by omega) hlinei (by simp [strsD,lim]; omega)) (EVs.cons (EV.itemT (EV.itemL (EV.name rfl) (EV.name rfl) (by omega) hrow hrl) EV.int (by decide) (d:=.int ((r / 4194304 % 256:Nat):Int)) rfl (by show 5 ≤ 100000; decide)) .nil)) (f_folded h _ _ (by have:=(headT_len r).1; omega)))
  show some (D.lst (strsD ((foldsN rs).getD ((i:Int)).toNat []))) = _
  rw [Int.toNat_natCast,hfi]
 rw [hzn,fsF_map]
 have F:=f_taken h (n:=n) (pageL rs ns) hpg.1 hpg.2 hpw
 rw [htaken] at F
 refine Ex.cons (Ex1.unpack (EV.call (g_taken h) (KeepF.of (by rw [h]; rfl)) (EVs.cons (EV.call (g_page h) (KeepF.of (by rw [h]; rfl)) (EVs.cons (EV.name rfl) (EVs.cons (EV.name rfl) (EVs.cons (EV.name rfl) .nil))) (f_page h (foldsN rs) rs ns hr (by simp [foldsN]) h8 hl hfc (fun f hf l hl => by have:=hfw f hf l hl; omega))) .nil) F) (Tgs.cons (.inl rfl) (Tgs.cons (.inl rfl) Tgs.nil))) ?_
 refine Ex.cons (Ex1.twoFresh (.inr ⟨rfl,rfl⟩) (.inl rfl) (by decide)) ?_
 refine Ex.cons (Ex1.loop (IT.list (EV.name rfl)) (fun _ => [("rows",.lst (rs.map rowD)),("lines",.lst (strsD ((rs.map hdr).map headT))),("folds",.lst ((foldsN rs).map fun f => .lst (strsD f))),("stop",stop),("heads",.lst (strsD (ps.map headT)))]) (fun j => [("pairs",.lst ((ps.take j).map pairD)),("tried",.lst [])]) ps.length (by simp [strsD]) (.of rfl) (.of rfl) ?_ (.inl ⟨by simp [strsD],rfl⟩)) ?_
 ·intro j d hj hd
  unfold strsD at hd
  rw [List.getElem?_map,List.getElem?_map] at hd
  left;rcases Option.map_eq_some_iff.mp hd with ⟨t,ht,z0_⟩;right;subst z0_
  left;rcases Option.map_eq_some_iff.mp ht with ⟨p,hp,z0_⟩;right;subst z0_
  obtain ⟨g1,g2⟩:=hgood p (List.mem_of_getElem? hp)
  obtain ⟨n1,_⟩:=names_ok _ g1
  have htk:(ps.take (j + 1)).map pairD = (ps.take j).map pairD ++ [pairD p]:=by
   rw [List.take_add_one,hp]; simp
  rw [htk]
  have hlh:(headT p).length = p.1.length + 2 + p.2.length:=by unfold headT; simp; omega
  have hsl:(S (headT p)).length ≤ lim:=by rw [S_len]; unfold lim; omega
  have c2:Txt.slice (S (headT p)) (some ((p.1.length:Int) + 2)) none = S p.2:=by
   have e:((p.1.length:Int) + 2) = ((p.1.length + 2:Nat):Int):=by omega
   (rewrite [e]; rw [slice_from _ _ (by omega)] at ⊢)
   unfold headT
   congr 1
   rw [List.drop_left' (by simp)] at ⊢
  refine Step.of (Tg.name (.inr ⟨rfl,rfl⟩)) ?_
  refine Ex.cons (Ex1.assign (d:=.str (S p.1)) (EV.itemL (EV.cast (EV.comp (cap:=[("head",.str (S (headT p)))]) none (fsK (headT p)) (by rfl) (.of rfl) (IT.tuple (EV.cast (EV.tuple (EVs.cons EV.str (EVs.cons EV.str (EVs.cons EV.str (EVs.cons EV.str .nil))))) (congrArg D.tup names_ds))) ?_ (by decide)) (congrArg D.lst (known_one p.2 p.1 g1))) (EV.int (i:=0)) (by decide) rfl (by show 1 ≤ 100000; decide)) (.inl rfl)) ?_
  ·intro i x hx C ex hx2
   rw [List.getElem?_map] at hx
   left;rcases Option.map_eq_some_iff.mp hx with ⟨nm,hnm,z0_⟩;right;subst z0_
   obtain ⟨m1,_⟩:=names_ok _ (List.mem_of_getElem? hnm)
   have m2:∀ l ∈ namesL,2 ≤ l.length:=by decide
   have m3:=m2 _ g1
   have hs1:Txt.slice (S (headT p)) none (some ((nm.length:Int) + 1)) = S ((headT p).take (nm.length + 1)):=by
    have e:((nm.length:Int) + 1) = ((nm.length + 1:Nat):Int):=by omega
    (rewrite [e]; rw [slice_to _ _ (by omega)] at ⊢)
   have hcolon:S nm ++ ":" = S (nm ++ [58]):=by
    have e:(Str.ofString ":") = S [58]:=by decide
    rw [e,S_app]
   have hc1:(S nm).length + (Str.ofString ":").length ≤ lim:=by
    have:(Str.ofString ":").length = 1:=by decide
    rw [S_len,this]; unfold lim; omega
   refine CB.two (b:=decide ((headT p).take (nm.length + 1) = nm ++ [58])) ((.of rfl)) (Tg.name (.inl rfl) (hex:=hx2 _ rfl)) (TV.cmp (EV.cast (EV.cut (EV.name rfl) PV.none (PV.some (EV.bin (EV.lenS h (EV.name rfl) (by rw [S_len]; unfold lim; omega)) EV.int rfl)) hsl) (congrArg D.str hs1)) (EV.cast (EV.cat (EV.name rfl) EV.str hc1) (congrArg D.str hcolon)) (cmpEqS _ _)) (fun z => ⟨.str (S nm),?_,EV.name rfl⟩) (fun z => ?_)
   ·show (if decide ((headT p).take (nm.length + 1) = nm ++ [58]) then some (D.str (S nm)) else none) = _
    rw [z]; rfl
   ·show (if decide ((headT p).take (nm.length + 1) = nm ++ [58]) then some (D.str (S nm)) else none) = _
    rw [z]; rfl
  exact Ex.post (Ex.cons (Ex1.append (EV.tuple (EVs.cons (EV.name rfl) (EVs.cons (EV.cast (EV.cut (EV.name rfl) (PV.some (EV.bin (EV.lenS h (EV.name rfl) (by rw [S_len]; unfold lim; omega)) EV.int rfl)) PV.none hsl) (congrArg D.str c2)) .nil))) rfl (by simp [lim]; omega)) Ex.nil) (.of rfl) (.of rfl)
 rw [List.take_length]
 refine Ex.cons (Ex1.loop (IT.range1 (g_range h) (EV.lenL h (EV.name rfl) hrl) hz5) (fun _ => [("rows",.lst (rs.map rowD)),("lines",.lst (strsD ((rs.map hdr).map headT))),("folds",.lst ((foldsN rs).map fun f => .lst (strsD f))),("stop",stop),("heads",.lst (strsD (ps.map headT)))]) (fun k => [("tried",.lst (dueL rs k)),("pairs",.lst (ps.map pairD))]) rs.length (by rw [rangeD_len,hzn]; exact Nat.le_refl _) (.of rfl) (.of rfl) ?_ (.inl ⟨by rw [rangeD_len,hzn],rfl⟩)) ?_
 ·intro i x hi hx
  obtain ⟨_,rfl⟩:=rangeD_at hx
  rw [show (0:Int) + (i:Int) = (i:Int) from by omega] at ⊢
  obtain ⟨r,hri⟩:∃ r,rs[i]? = some r:=⟨rs[i],List.getElem?_eq_getElem hi⟩
  have hrow:(rs.map rowD)[((i:Nat):Int).toNat]? = some (rowD r):=by
   (rewrite [Int.toNat_natCast]; rewrite [List.getElem?_map] at ⊢; rw [hri]); rfl
  have hlinei:(strsD ((rs.map hdr).map headT))[((i:Nat):Int).toNat]? = some (.str (S (headT (hdr r)))):=by
   unfold strsD
   (rewrite [Int.toNat_natCast]; rewrite [List.getElem?_map,List.getElem?_map,List.getElem?_map] at ⊢; rw [hri])
   rfl
  have hfl:(foldsN rs).length = rs.length:=by simp [foldsN]
  have hfi:(foldsN rs)[i]? = some ((foldsN rs).getD i []):=by
   rw [List.getD_eq_getElem?_getD,List.getElem?_eq_getElem (by omega)] at ⊢; rfl
  have hfold:((foldsN rs).map fun f => D.lst (strsD f))[((i:Nat):Int).toNat]? = some (.lst (strsD ((foldsN rs).getD i []))):=by
   (rewrite [Int.toNat_natCast]; rewrite [List.getElem?_map] at ⊢; rw [hfi]); rfl
  have hf1:=hfc _ (List.mem_of_getElem? hfi)
  have hgr:rs.getD i 0 = r:=by (rewrite [List.getD_eq_getElem?_getD] at ⊢; rw [hri]); rfl
  show Step c (n + 2) _ _ _ _ _ _ [("tried",.lst (dueL rs i)),("pairs",_)] (.next _ [("tried",.lst (dueL rs (i + 1))),("pairs",_)])
  rw [dueL,hgr]
  generalize hF:(foldsN rs).getD i [] = f at hfold hf1
  obtain ⟨q1,_⟩:=names_ok _ (nameT_mem r)
  obtain ⟨l1,l2⟩:=headT_len r
  have hcut:Txt.slice (S (headT (hdr r))) (some (((nameT r).length:Int) + 1)) none = S (dueV r):=by
   have e:(((nameT r).length:Int) + 1) = (((nameT r).length + 1:Nat):Int):=by omega
   (rewrite [e]; rw [slice_from _ _ (by omega)] at ⊢)
   rfl
  have hti:=dueL_len rs i
  have hone:cmpD .Eq (.int ((strsD f).length:Int)) (.int 1) = some (decide (f.length = 1)):=by
   have:(strsD f).length = f.length:=by simp [strsD]
   rw [this]
   exact cmpEqN (j:=1)
  refine Step.of (Tg.name (.inl rfl)) (Ex.post (Ex.cons (Ex1.assign (d:=.str (S (dueV r))) (EV.cast (EV.cut (EV.itemL (EV.name rfl) (EV.name rfl) (by omega) hlinei (by simp [strsD,lim]; omega)) (PV.some (EV.bin (EV.lenS h (EV.itemT (EV.itemL (EV.name rfl) (EV.name rfl) (by omega) hrow hrl) EV.int (by decide) (d:=.str (S (nameT r))) rfl (by show 5 ≤ 100000; decide)) (by rw [S_len]; unfold lim; omega)) EV.int rfl)) PV.none (by rw [S_len]; unfold lim; omega)) (congrArg D.str hcut)) (.inl rfl)) (Ex.cons (Ex1.append (EV.ite (t:=decide (f.length = 1)) (TV.cmp (EV.lenL h (EV.itemL (EV.name rfl) (EV.name rfl) (by omega) hfold (by rw [List.length_map]; unfold lim; omega)) (by simp [strsD,lim]; omega)) EV.int hone) (fun _ => EV.tuple (EVs.cons EV.str (EVs.cons (EV.list (EVs.cons (EV.tuple (EVs.cons (EV.itemT (EV.itemL (EV.name rfl) (EV.name rfl) (by omega) hrow hrl) EV.int (by decide) (d:=.str (S (nameT r))) rfl (by show 5 ≤ 100000; decide)) (EVs.cons (EV.name rfl) .nil))) .nil)) .nil))) (fun _ => EV.tuple (EVs.cons EV.str (EVs.cons (EV.list .nil) .nil)))) rfl (by rw [hti]; unfold lim; omega)) Ex.nil)) (.of rfl) (.of rfl))
 with_reducible refine' Ex.freeze (Ex.pre (lo':=[("lines",.lst (strsD ((rs.map hdr).map headT))),("stop",stop),("heads",.lst (strsD (ps.map headT))),("tried",.lst (dueL rs rs.length)),("pairs",.lst (ps.map pairD))]) (ow':=[]) ?_ ?h1 ?h2)
 case h1 => exact .of rfl
 case h2 => trivial
 with_reducible refine' Ex.cons ?s1 ?_
 case' s1 => refine Ex1.assignComp (cap:=[("pairs",.lst (ps.map pairD))]) (some "alike") (fsP ps) (by rfl) (.of rfl) (IT.tuple (EV.cast (EV.tuple (EVs.cons (EV.list (EVs.cons EV.str (EVs.cons EV.str .nil))) (EVs.cons (EV.list (EVs.cons EV.str .nil)) (EVs.cons (EV.list (EVs.cons EV.str .nil)) .nil)))) (congrArg D.tup alike_ds))) ?_ (by decide) (.inl rfl)
 ·intro i x hx C ex hx2
  rw [List.getElem?_map] at hx
  left;rcases Option.map_eq_some_iff.mp hx with ⟨al,hal,z0_⟩;right;subst z0_
  have halm:=List.mem_of_getElem? hal
  refine CB.one (f:=.lst ((ps.map pairD).filterMap (fsI al))) ((.of rfl)) (Tg.name (.inr ⟨rfl,rfl⟩) (hex:=hx2 _ rfl)) ?_ (EV.comp (cap:=[("alike",.lst (strsD al))]) none (fsI al) (by rfl) (.of rfl) (IT.list (EV.name rfl)) ?_ (by rw [List.length_map]; unfold lim; omega))
  ·have e2:=unS al
   show some (D.lst ((ps.map pairD).filterMap (fsI ((strsD al).filterMap fun d => match d with | .str q => some q.cps.toList | _ => none)))) = _
   rw [e2]
  ·intro j y hy C2 ex2 hx3
   rw [List.getElem?_map] at hy
   left;rcases Option.map_eq_some_iff.mp hy with ⟨p,hp,z0_⟩;right;subst z0_
   obtain ⟨g1,_⟩:=hgood p (List.mem_of_getElem? hp)
   refine CB.two (b:=al.contains p.1) ((.of rfl)) (Tg.tuple (Tgs.cons (.inl rfl) (Tgs.cons (.inl rfl) Tgs.nil (hex:=hx3 _ rfl)) (hex:=hx3 _ rfl))) (TV.cmp (EV.name rfl) (EV.name rfl) (in_alike al halm p.1 g1)) (fun z => ⟨.str (S p.2),?_,EV.name rfl⟩) (fun z => ?_)
   ·show (if al.contains p.1 then some (D.str (S p.2)) else none) = _
    rw [z]; rfl
   ·show (if al.contains p.1 then some (D.str (S p.2)) else none) = _
    rw [z]; rfl
 rw [fsP_map]
 have hadd:∀ (hs:List (List Nat × List Nat)),hs.length ≤ 500→binD .Add (.lst (strsD (hs.map headT))) (.lst [.str "",.str ""]) = some (.lst (strsD (hs.map headT ++ [[],[]]))):=fun hs hl => by
  rw [binD_lst (by simp [strsD,lim]; omega)] at ⊢
  unfold strsD
  rw [List.map_append]; rfl
 have hjl:∀ (hs:List (List Nat × List Nat)),(∀ p ∈ hs,p.1.length ≤ 100∧p.2.length ≤ 7000)→∀ p ∈ hs.map headT ++ [[],[]],p.length ≤ 10000:=fun hs hw p hp => by
  rcases List.mem_append.mp hp with z | z
  ·left;rcases List.mem_map.mp z with ⟨q,hq,z0_⟩;right;subst z0_
   obtain ⟨q1,q2⟩:=hw q hq
   simp [headT]; omega
  ·simp at z
   subst z; simp
 refine Ex.cons_ret (Ex1.ret (EV.tuple (EVs.cons (EV.join (sep:=[13,10]) (ps:=(rs.map hdr).map headT ++ [[],[]]) rfl EV.str (EV.bin (EV.name rfl) (EV.list (EVs.cons EV.str (EVs.cons EV.str .nil))) (hadd (rs.map hdr) (by simp; omega))) (by decide) (by simp; omega) (hjl _ ?_)) (EVs.cons (EV.name rfl) (EVs.cons (EV.name rfl) (EVs.cons (EV.join (sep:=[13,10]) (ps:=ps.map headT ++ [[],[]]) rfl EV.str (EV.bin (EV.name rfl) (EV.list (EVs.cons EV.str (EVs.cons EV.str .nil))) (hadd ps hps)) (by decide) (by simp; omega) (hjl _ ?_)) (EVs.cons (EV.name rfl) (EVs.cons (EV.name rfl) .nil))))))))
 ·intro p hp
  left;rcases List.mem_map.mp hp with ⟨r,_,z0_⟩;right;subst z0_
  have:=valT_len r
  have q:=(names_ok _ (nameT_mem r)).1
  exact ⟨by show (nameT r).length ≤ 100; omega,by omega⟩
 ·intro p hp
  obtain ⟨g1,g2⟩:=hgood p hp
  have:=(names_ok _ g1).1
  exact ⟨by omega,g2⟩
end
section
noncomputable def FnX0 (P:Heap→Prop) (c:Cx) (n:Nat) (f:Value) (ds:List D) (d:D):Prop:=
 ∀ (A:Around) (E:Value→Shared→Prop) (s:Shared) (own:List Addr) (vs:List Value) (Q:Value→Shared→Prop),AOk c n A s.heap→Ext c.H s.heap→OwnOk own s.heap→(∀ a ∈ own,c.H.get? a = none)→AllBare s.gens→P s.heap→254 ∉ own→(∀ a ∈ frs A,a ∈ own) →
  RdAll c.w.params own s.heap vs ds→(∀ v s',KX (frs A) s s'→Rd c.w.params own s'.heap v d→Q v s')→wpAny (model c.prog c.w) A (call f vs) Q E s
section
variable {c:Cx} {n:Nat} {name qual:Str} {params:Arguments} {scope:Scope} {dV kV doc pm cdv ct oc:Value} {an od:Option Addr} {osl:Array (Option Value)} {f:Addr} {rest:List Stmt} {x:Str} {p p2 p3 p4 p5:Pos}
theorem FnX0.def {P:Heap→Prop} {g y:Str} {fv:Value} {dy d1:D} {ds:List D} {N:List Str} {ds0:List D} {d:D} (ho:c.K.lookup f = some ⟨oc,od,.func (fnOf name qual params (.Assign [.Name x p] (.Call (.Name g p2) [.Name y p3] [] p4) p5 :: rest) scope dV kV doc pm an cdv ct),osl⟩) (hcd:codeIn c.K cdv qual = true)
  (hb:∀ (s:Shared) (own:List Addr) (vs:List Value),Ext c.H s.heap→RdAll c.w.params own s.heap vs ds→∃ B:List (Str × Value),BindsTo s (fnOf name qual params (.Assign [.Name x p] (.Call (.Name g p2) [.Name y p3] [] p4) p5 :: rest) scope dV kV doc pm an cdv ct) ⟨vs,([]:List (Str × Bool)).map fun p => (p.1,.bool p.2)⟩ B∧B.map (·.1) = N∧RdAll c.w.params own s.heap (B.map (·.2)) ds0)
  (hN:N.Nodup) (hk:N.all (fun y => scope.names.lookup y == some .local || scope.names.lookup y == some .cell) = true) (hx:∀ L,canStore (envOfC qual scope L f cdv) x) (hg:∀ L,GlobIs c (envOfC qual scope L f cdv) g fv) (hkf:KeepF c fv) (hy:(N.zip ds0).lookup y = some dy) (F:FnT c n fv [dy] d1)
  (hbody:∀ L,ExX P c n (envOfC qual scope L f cdv) [] rest ((x,d1) :: N.zip ds0) [] d) (hs:autoParam (∀ L,swapsWith (.Call (.Name g p2) [.Name y p3] [] p4) (some (.Name x p)) p5.line (envOfC qual scope L f cdv) = pure false) byIR)
  (hp:∀ L,Plain [.Name y p3] (envOfC qual scope L f cdv) p4) (hse:autoParam (∀ L,starEach [.Name y p3] (envOfC qual scope L f cdv) = (false,eval (.Name y p3) (envOfC qual scope L f cdv)) :: starEach [] (envOfC qual scope L f cdv)) byIR)
  (hd1:autoParam ((g == ("__debug__":Str)) = false) byDec) (hd2:autoParam ((y == ("__debug__":Str)) = false) byDec) (hd3:autoParam ((y == ("__classdict__":Str)) = false) byDec)
  (hco:autoParam (scope.isCoroutine = false) byRfl) (hgen:autoParam (scope.isGenerator = false) byRfl) (hkind:autoParam (scope.kind = .function) byRfl):FnX0 P c (n + 1) (.ref f) ds d:=fun A E s own vs Q ao ext ok base hG hP hno hfr r h => by
 left;rcases hb s own vs ext r with ⟨B,hbind,z0_,rB⟩;right;subst z0_
 have hk':∀ m,∀ x ∈ B,scope.names.lookup x.1 = some .local ∨ (scope.names.lookup x.1 = some .cell∧((cellsFrom m scope.names []).lookup x.1).isSome = true):=kindsX (binds:=B) (by
  rw [List.all_eq_true] at hk ⊢
  exact fun x hx => hk x.1 (List.mem_map_of_mem hx))
 have X:c.K.In s.heap:=c.X.keeps ext
 refine wpAny_call (codeAny_call_function (by have:=ao.depth; omega) (X _ _ ho) rfl hco hgen rfl (codeRec_of X hcd) (hbind _ _ _ _ ?_))
 refine wpAny_newFunctionEnv_cells hkind (hk' _) fun env he s' q => ?_
 subst he
 refine ⟨(c.T.nolimit.keeps ext).keeps q.toInCall.keep,codeAny_func ?_⟩
 left;rcases entry_sto (s:={ s with toks:=1 }) (s':={ s' with toks:=1 }) (n:=n) (qual:=qual) (f:=f) (cdv:=cdv) ao ext ok base (Nat.le_refl 1) (Nat.le_refl 1) hkind hN (hk' _) (fun y d e => zip_lookup rB e) (ex0:=[]) (fun y v e => by simp at e) (inCall_fake q _) with ⟨own1,ad,S⟩;right
 have hgl:s'.heap.Ns mainGlobals c.mg:=c.T.g.keeps S.sit.ext
 have hbl:s'.heap.Ns builtinsNs c.mb:=c.T.b.keeps S.sit.ext
 left;rcases S.sit.names y dy hy with ⟨u,n1,r1⟩;right
 have call1:∀ (E:Value→Shared→Prop) (Q1:Value→Shared→Prop),(∀ v s2,K2 s' s2→1 ≤ s2.toks→Rd c.w.params own1 s2.heap v d1→Q1 v s2)→wpAny (model c.prog c.w) (A.deeper (envOfC qual scope s.heap.objs.size f cdv)) (callWith p4 fv [] (backTo p4 (starEach [.Name y p3] (envOfC qual scope s.heap.objs.size f cdv))) []) Q1 E s':=fun E Q1 hQ => by
  refine callWith_of (by rw [(hp _).2]; rfl) (fun h' X => hkf _ h' X) ?_
  rw [hse]
  refine evalArgs_plain (spliced_cons (wpAny_Name (nameIs_load S.sit.ek n1 hd3 (spliced_nil ⟨S.sit.K,?_⟩)) hd2))
  exact F _ E s' own1 [u] Q1 S.sit.ao S.sit.ext S.sit.ok S.sit.base (.cons r1 .nil) hQ
 have call2:∀ (E:Value→Shared→Prop) (Q1:Value→Shared→Prop),(∀ v s2,K2 s' s2→1 ≤ s2.toks→Rd c.w.params own1 s2.heap v d1→Q1 v s2)→wpAny (model c.prog c.w) (A.deeper (envOfC qual scope s.heap.objs.size f cdv)) (eval (.Call (.Name g p2) [.Name y p3] [] p4) (envOfC qual scope s.heap.objs.size f cdv)) Q1 E s':=fun E Q1 hQ => by
  refine PyProof.Rows.Call_ (Name_function_global hkind (hg _).kind ?_ hd1)
  rcases (hg s.heap.objs.size).at_ with a | ⟨a,b⟩
  ·exact loadGlobal_global hgl a (call1 E Q1 hQ)
  ·exact loadGlobal_builtin hgl a hbl b (call1 E Q1 hQ)
 show wpAny (model c.prog c.w) (A.deeper (envOfC qual scope s.heap.objs.size f cdv)) (execs (_ :: rest) (envOfC qual scope s.heap.objs.size f cdv)) _ _ s'
 refine wpAny_execs_cons (wpAny_Assign_Name (call2 _ _ fun v s2 k2 t2 rd => ?_) (hs _))
 refine (S.mono (s':=s2) ⟨fake_keeps k2.1,t2⟩).store (v:=v) (hx _) rfl rfl fun s3 h1 _ => ?_
 have S3:=h1 d1 rd
 have hf2:frs (A.deeper (envOfC qual scope s.heap.objs.size f cdv)) = s.heap.objs.size :: frs A:=by
  left;rcases ao.frames with ⟨l,h1,_⟩;right
  unfold frs
  rw [Around.frames_deeper h1,h1]
  rfl
 refine wpAny_mono (hbody _ _ _ _ own s3 ⟨own1,ad,S3⟩ hG hP hno (fun a ha => by
  rw [hf2] at ha
  rcases List.mem_cons.mp ha with z | z
  ·exact .inl z
  ·exact .inr (hfr a z)) (let ⟨l,h1,_⟩:=ao.frames; ⟨l,Around.frames_deeper h1,rfl⟩)) (fun fl s4 ho => ?_) fun _ _ z => z
 left;rcases ho with ⟨v,z0_,rv,kk⟩;right;subst z0_
 refine h v s4 ⟨fun a o q1 q2 e => kk.keep a o q1 (fun hm => ?_) e,kk.slot,kk.tab,kk.os,kk.gens⟩ rv
 rw [hf2] at hm
 rcases List.mem_cons.mp hm with z | z
 ·exact absurd (Heap.lt_size e) (by rw [z]; exact Nat.lt_irrefl _)
 ·exact q2 z
end
end
section
noncomputable def rowsOf (ns:List Int):List Nat:=((ns.take 3) ++ [4636675,3221225472]).map restT
theorem g_headers {c:Cx} (h:Is c) {env:Env} (hk:autoParam (env.kindOf "_law_headers" = some .globalImplicit) byRfl):GlobIs c env "_law_headers" (.ref 264):=GlobIs.glob (by rw [h]; rfl) hk
theorem g_told {c:Cx} (h:Is c) {env:Env} (hk:autoParam (env.kindOf "_law_told" = some .globalImplicit) byRfl):GlobIs c env "_law_told" (.ref 328):=GlobIs.glob (by rw [h]; rfl) hk
theorem g_due {c:Cx} (h:Is c) {env:Env} (hk:autoParam (env.kindOf "_law_due" = some .globalImplicit) byRfl):GlobIs c env "_law_due" (.ref 333):=GlobIs.glob (by rw [h]; rfl) hk
theorem f_law {c:Cx} (h:Is c) (g:GCx c) {n:Nat} (ns:List Int) (hl:ns.length ≤ 63) {d1 d2:D} (T:FnX PF c (n + 4) (.ref 328) [.lst ((rowsOf ns).map rowD),.lst (ns.map .int)] d1) (U:FnOk c (n + 4) (.ref 333) [.lst ((rowsOf ns).map rowD),.lst (ns.map .int)] [] d2) (e:cmpD .Eq d1 d2 = some true) :
  FnX0 PF c (n + 5) (.ref 340) [.lst (ns.map .int)] (.bool true):=by
 have H:=f_headers h (n:=n + 3) ns hl
 have e2:((ns.take 3) ++ [4636675,3221225472]).map (fun x => rowD (restT x)) = (rowsOf ns).map rowD:=by unfold rowsOf; rw [List.map_map]; rfl
 rw [e2] at H
 refine FnX0.def (ho:=by rw [h]; rfl) (hcd:=by rw [h]; rfl) (N:=["script"]) (ds0:=[.lst (ns.map .int)]) (b1 fun _ => rfl) (by decide) (by rfl) (fun _ => .inl rfl) (fun _ => g_headers h) (KeepF.of (by rw [h]; rfl)) (by rfl) H ?_ (hp:=fun _ => ⟨.inr ⟨_,_,rfl,rfl⟩,rfl⟩)
 intro L
 exact ExX.retCmp (fun _ p => p.tf) PF.ext g.h254 (EVX.call PF.ext (g_told h) (KeepF.of (by rw [h]; rfl)) (EVs.cons (EV.name rfl) (EVs.cons (EV.name rfl) .nil)) T) (EV.call (g_due h) (KeepF.of (by rw [h]; rfl)) (EVs.cons (EV.name rfl) (EVs.cons (EV.name rfl) .nil)) U) e
end
section
theorem rep_key:∀ k ∈ shapes,∀ x ∈ k,repL 95 [45] x = keyT x:=by decide
theorem esc_nil (v:List Nat):esc v = [] ↔ v = []:=by
 cases v with
 | nil => simp [esc]
 | cons a r =>
  refine ⟨fun h => ?_,fun h => by cases h⟩
  have e:=esc_snoc [] a
  unfold esc at h
  rw [List.flatMap_cons] at h
  have h2:=List.append_eq_nil_iff.mp h
  have h3:=h2.1
  split at h3 <;> cases h3
theorem part_eq (r:Nat):(parT r).map partT = (parT r).map partA:=by
 refine List.map_congr_left fun p hp => ?_
 have hk:=rep_key _ (parT_shape r) _ (List.mem_map_of_mem (f:=(·.1)) hp)
 obtain ⟨k,v⟩:=p
 have hk:repL 95 [45] k = keyT k:=hk
 unfold partT partA
 cases v with
 | none =>
  show keyT k ++ (if esc [] = [] then [] else _) = repL 95 [45] k
  rw [if_pos ((esc_nil []).mpr rfl),hk]
  exact List.append_nil _
 | some v =>
  show keyT k ++ (if esc v = [] then [] else _) = fmtT (repL 95 [45] k) v
  unfold fmtT
  by_cases hv:v = []
  ·rw [if_pos ((esc_nil v).mpr hv),if_pos hv,hk]; simp
  ·(rewrite [if_neg (fun z => hv ((esc_nil v).mp z))] at ⊢; rw [if_neg hv,hk])
   simp
theorem hline (r:Nat):lineOf r = headT (hdr r):=by
 show nameT r ++ [58,32] ++ joinL [59,32] ((ownT r).toList ++ (parT r).map partT) = nameT r ++ [58,32] ++ joinL [59,32] ((ownT r).toList ++ (parT r).map partA)
 rw [part_eq]
theorem folded_bd (l:List Nat) (bits:Nat):1 ≤ (folded l bits).length∧(folded l bits).length ≤ l.length + 2∧∀ x ∈ folded l bits,x.length ≤ l.length:=by
 left;rcases pieces_bd l [[]] (by decide) with ⟨p1,p2,p3⟩;right
 have p2':(pieces l).length ≤ 1 + l.length:=p2
 have p3':sumLen (pieces l) = 0 + l.length:=p3
 left;rcases fAt_bd bits (pieces l) (pieces l).length (Nat.le_refl _) with ⟨f1,f2,f3⟩;right
 have f3':sumLen (folded l bits) = sumLen ((pieces l).take (pieces l).length):=f3
 rw [List.take_length] at f3'
 refine ⟨f1,?_,fun x hx => ?_⟩
 ·show (fAt bits (pieces l) (pieces l).length).length ≤ _
  omega
 ·have:=mem_sumLen hx
  omega
theorem folds_bd (rs:List Nat):(∀ f ∈ foldsN rs,1 ≤ f.length∧f.length ≤ 100)∧∀ f ∈ foldsN rs,∀ l ∈ f,l.length ≤ 70:=by
 refine ⟨fun f hf => ?_,fun f hf l hl => ?_⟩
 ·left;rcases List.mem_map.mp hf with ⟨r,_,z0_⟩;right;subst z0_
  left;rcases folded_bd (headT (hdr r)) (r / 4194304 % 256) with ⟨b1,b2,b3⟩;right
  have:=(headT_len r).1
  omega
 ·left;rcases List.mem_map.mp hf with ⟨r,_,z0_⟩;right;subst z0_
  left;rcases folded_bd (headT (hdr r)) (r / 4194304 % 256) with ⟨b1,b2,b3⟩;right
  have:=(headT_len r).1
  have:=b3 l hl
  omega
theorem mem_page {d:Nat} {folds:List (List (List Nat))} {rs:List Nat} {l:List Nat}:∀ k,l ∈ pageTo d folds rs k→∃ i j,i < k∧j < (folds.getD i []).length∧l = (leadsL d).getD (drawAt i j (rs.getD i 0)) [] ++ (folds.getD i []).getD j []
 | 0,h => by simp [pageTo] at h
 | k + 1,h => by
  rw [pageTo_succ] at h
  rcases List.mem_append.mp h with z | z
  ·left;rcases mem_page k z with ⟨i,j,h1,h2,h3⟩;right
   exact ⟨i,j,by omega,h2,h3⟩
  ·unfold pageRow at z
   left;rcases List.mem_map.mp z with ⟨j,hj,z0_⟩;right;subst z0_
   exact ⟨k,j,Nat.lt_succ_self k,by simpa using hj,rfl⟩
theorem getD_mem {α:Type} {l:List α} {i:Nat} {d:α} (h:i < l.length):l.getD i d ∈ l:=by
 rw [List.getD_eq_getElem?_getD,List.getElem?_eq_getElem h] at ⊢
 exact List.getElem_mem h
theorem page_bd (rs:List Nat) (ns:List Int) (hr:rs.length ≤ 5) (h0:0 < rs.length):(0 < (pageL rs ns).length∧(pageL rs ns).length ≤ 500)∧∀ l ∈ pageL rs ns,l.length ≤ 100:=by
 obtain ⟨f1,f2⟩:=folds_bd rs
 have hfl:(foldsN rs).length = rs.length:=by simp [foldsN]
 have hd:drawnN ns < 32:=by unfold drawnN; omega
 obtain ⟨z1,z2⟩:=leadsL_small _ hd
 have hlen:=pageTo_len (drawnN ns) (foldsN rs) rs (fun f hf => (f1 f hf).2) rs.length
 refine ⟨⟨?_,?_⟩,fun l hl => ?_⟩
 ·have e:pageL rs ns = pageTo (drawnN ns) (foldsN rs) rs ((rs.length - 1) + 1):=by
   unfold pageL
   congr 1; omega
  rw [e,pageTo_succ,List.length_append]
  have e2:(pageRow (drawnN ns) (rs.length - 1) (rs.getD (rs.length - 1) 0) ((foldsN rs).getD (rs.length - 1) []) ((foldsN rs).getD (rs.length - 1) []).length).length = ((foldsN rs).getD (rs.length - 1) []).length:=by simp [pageRow]
  have:=(f1 _ (getD_mem (l:=foldsN rs) (i:=rs.length - 1) (d:=[]) (by omega))).1
  omega
 ·have:rs.length * 100 ≤ 500:=by omega
  unfold pageL
  omega
 ·left;rcases mem_page _ hl with ⟨i,j,h1,h2,z0_⟩;right;subst z0_
  have a1:((leadsL (drawnN ns)).getD (drawAt i j (rs.getD i 0)) []).length ≤ 10:=by
   by_cases q:drawAt i j (rs.getD i 0) < (leadsL (drawnN ns)).length
   ·exact z2 _ (getD_mem q)
   ·rw [List.getD_eq_getElem?_getD,List.getElem?_eq_none (Nat.le_of_not_lt q)] at ⊢; simp
  have a2:=f2 _ (getD_mem (l:=foldsN rs) (i:=i) (d:=[]) (by omega)) _ (getD_mem (l:=(foldsN rs).getD i []) (i:=j) (d:=[]) h2)
  rw [List.length_append]
  omega
end
section
theorem at_one (l:List Nat) (c i:Nat):StrLaws.At (S l) (S [c]) (S l).length i ↔ l[i]? = some c:=by
 have:=StrLaws.subAt_one (S l) c i
 exact this
theorem find_one {l:List Nat} {c k:Nat} (h:l[k]? = some c) (hn:∀ j,j < k→l[j]? ≠ some c):Txt.find (S l) (S [c]) = (k:Int):=by
 rcases PyProof.Rows.find_whole (S l) (S [c]) with ⟨_,hno⟩ | ⟨i,e,hi,hmin⟩
 ·exact absurd ((at_one l c k).mpr h) (hno k)
 ·have hi':=(at_one l c i).mp hi
  have h1:¬ k < i:=fun z => hmin k z ((at_one l c k).mpr h)
  have h2:¬ i < k:=fun z => hn i z hi'
  have:i = k:=by omega
  rw [e,this]
theorem hfind (p:List Nat × List Nat) (h:p.1 ∈ namesL):Txt.find (S (headT p)) ":" = (p.1.length:Int):=by
 have e:(Str.ofString ":") = S [58]:=by decide
 rw [e]
 have hno:∀ l ∈ namesL,58 ∉ l:=by decide
 have h58:=hno _ h
 refine find_one ?_ fun j hj z => h58 ?_
 ·unfold headT
  (rewrite [List.append_assoc]; rewrite [List.getElem?_append_right (Nat.le_refl _)] at ⊢; rw [Nat.sub_self])
  rfl
 ·unfold headT at z
  rw [List.append_assoc,List.getElem?_append_left hj] at z
  exact List.mem_of_getElem? z
theorem fold_sum (l:List Nat) (bits:Nat):sumLen (folded l bits) = l.length:=by
 left;rcases pieces_bd l [[]] (by decide) with ⟨p1,p2,p3⟩;right
 have p3':sumLen (pieces l) = 0 + l.length:=p3
 left;rcases fAt_bd bits (pieces l) (pieces l).length (Nat.le_refl _) with ⟨f1,f2,f3⟩;right
 have f3':sumLen (folded l bits) = sumLen ((pieces l).take (pieces l).length):=f3
 rw [List.take_length] at f3'
 omega
theorem htext (rs:List Nat) (k r:Nat) (h:rs[k]? = some r):(nameT r).length + 1 ≤ (textL k ((foldsN rs).getD k [])).length∧(textL k ((foldsN rs).getD k [])).length ≤ 1000:=by
 have hf:(foldsN rs).getD k [] = folded (headT (hdr r)) (r / 4194304 % 256):=by
  unfold foldsN
  (rewrite [List.getD_eq_getElem?_getD,List.getElem?_map] at ⊢; rw [h]); rfl
 rw [hf]
 obtain ⟨l1,l2⟩:=headT_len r
 have hs:=fold_sum (headT (hdr r)) (r / 4194304 % 256)
 left;rcases folded_bd (headT (hdr r)) (r / 4194304 % 256) with ⟨b1,b2,b3⟩;right
 generalize folded (headT (hdr r)) (r / 4194304 % 256) = f at hs b1 b2 b3
 have hsep:(sepL k).length ≤ 2:=by
  unfold sepL
  have:∀ m < 3,(([[13,10],[13],[10]]:List (List Nat)).getD m []).length ≤ 2:=by decide
  exact this _ (Nat.mod_lt _ (by decide))
 cases f with
 | nil => simp at b1
 | cons a rest =>
  have hj:(textL k (a :: rest)).length = a.length + rest.length * (sepL k).length + sumLen rest:=joinL_len (sepL k) rest a
  have hs':sumLen (a :: rest) = a.length + sumLen rest:=by simp [sumLen]
  have hr:rest.length ≤ 71:=by simp at b2; omega
  have hm:=Nat.mul_le_mul hr hsep
  rw [hj]
  omega
end
section
noncomputable def greedy (p:Nat→Bool) (w:Nat):List Nat→Nat→List Nat
 | [],_ => []
 | i :: r,f => if (decide (f ≤ i) && p i) then i :: greedy p w r (i + w) else greedy p w r f
noncomputable def atB (x y:Str) (i:Nat):Bool:=decide (i + y.length ≤ x.length) && subAt x y i
set_option tactic.hygienic true in
theorem occ_greedy (s sub:Str) (limit:Nat):∀ (l:List Nat) (st:Array Nat × Nat),st.fst.size + l.length ≤ limit→(forIn l st (StrLaws.occBody s sub s.length limit)).run.fst.toList = st.fst.toList ++ greedy (atB s sub) sub.length l st.snd
 | [],st,_ => by simp [greedy]
 | i :: r,st,h => by
  rw [List.forIn_cons]
  unfold StrLaws.occBody
  have hs:st.fst.size < limit:=by simp at h; omega
  split
  ·rename_i hc
   have e:(decide (st.snd ≤ i) && atB s sub i) = true:=by
    unfold atB
    simp only [Bool.and_eq_true,decide_eq_true_eq]
    exact ⟨hc.1.1.2,hc.1.2,hc.2⟩
   have ih:=occ_greedy s sub limit r (st.fst.push i,i + sub.length) (by simp at h ⊢; omega)
   refine ih.trans ?_
   rw [greedy,if_pos e]
   simp
  ·rename_i hc
   have e:(decide (st.snd ≤ i) && atB s sub i) = false:=by
    cases q:(decide (st.snd ≤ i) && atB s sub i) with
    | false => rfl
    | true =>
     exfalso
     unfold atB at q
     simp only [Bool.and_eq_true,decide_eq_true_eq] at q
     exact hc ⟨⟨⟨hs,q.1⟩,q.2.1⟩,q.2.2⟩
   have ih:=occ_greedy s sub limit r st (by simp at h; omega)
   refine ih.trans ?_
   (rewrite [greedy]; rw [if_neg (by rw [e]; decide)] at ⊢)
theorem greedy_skip (p:Nat→Bool) (w:Nat):∀ (k a f:Nat) (r:List Nat),(∀ i,a ≤ i→i < a + k→(decide (f ≤ i) && p i) = false)→greedy p w (List.range' a k ++ r) f = greedy p w r f
 | 0,a,f,r,_ => rfl
 | k + 1,a,f,r,h => by
  (rewrite [List.range'_succ,List.cons_append,greedy]; rw [if_neg (by rw [h a (Nat.le_refl _) (by omega)] at ⊢; decide)] at ⊢)
  exact greedy_skip p w k (a + 1) f r fun i h1 h2 => h i (by omega) (by omega)
theorem foldl_pre (sep:List Nat):∀ (r:List (List Nat)) (a b:List Nat),r.foldl (fun acc q => acc ++ sep ++ q) (a ++ b) = a ++ r.foldl (fun acc q => acc ++ sep ++ q) b
 | [],_,_ => rfl
 | m :: r,a,b => by
  show r.foldl _ (a ++ b ++ sep ++ m) = a ++ r.foldl _ (b ++ sep ++ m)
  have e:a ++ b ++ sep ++ m = a ++ (b ++ sep ++ m):=by simp
  rw [e,foldl_pre]
theorem joinL_cons2 (sep l m:List Nat) (r:List (List Nat)):joinL sep (l :: m :: r) = l ++ sep ++ joinL sep (m :: r):=by
 show r.foldl _ (l ++ sep ++ m) = l ++ sep ++ r.foldl _ m
 exact foldl_pre sep r (l ++ sep) m
theorem atB_sub (X:List Nat) (i:Nat):atB (S X) (S [13,10]) i = (decide (i + 2 ≤ X.length) && ((X.drop i).take 2 == [13,10])):=by
 unfold atB
 rw [StrLaws.subAt_eq,S_len,S_len]
 rfl
theorem at13 {X:List Nat} {i:Nat} (h:atB (S X) (S [13,10]) i = true):X[i]? = some 13:=by
 rw [atB_sub] at h
 simp only [Bool.and_eq_true,decide_eq_true_eq] at h
 have e:=eq_of_beq h.2
 have:((X.drop i).take 2)[0]? = some 13:=by rw [e]; rfl
 simpa using this
theorem strSub_S (X:List Nat) (a c:Nat):strSub (S X) a c = S ((X.drop a).take (c - a)):=by
 apply Str.ext'
 apply Array.toList_inj.mp
 rw [StrLaws.strSub_toList]
theorem parts_join (X:List Nat):∀ (ls:List (List Nat)) (a:Nat),ls ≠ []→(∀ l ∈ ls,13 ∉ l)→a ≤ X.length→X.drop a = joinL [13,10] ls →
  StrLaws.partsFrom (S X) 2 a (greedy (atB (S X) (S [13,10])) 2 (List.range' a (X.length + 1 - a)) a) = ls.map S
 | [],_,h,_,_,_ => absurd rfl h
 | [l],a,_,h,ha,e => by
  have e:X.drop a = l:=e
  have hno:∀ i,a ≤ i→i < a + (X.length + 1 - a)→(decide (a ≤ i) && atB (S X) (S [13,10]) i) = false:=fun i h1 _ => by
   cases q:atB (S X) (S [13,10]) i with
   | false => simp
   | true =>
    exfalso
    have:=at13 q
    refine h l (.head _) ?_
    rw [e.symm]
    have e2:(X.drop a)[i - a]? = some 13:=by
     rw [List.getElem?_drop] at ⊢
     have:a + (i - a) = i:=by omega
     rw [this]; assumption
    exact List.mem_of_getElem? e2
  have g:=greedy_skip (atB (S X) (S [13,10])) 2 (X.length + 1 - a) a a [] hno
  rw [List.append_nil] at g
  rw [g]
  show [strSub (S X) a (S X).length] = [S l]
  (rewrite [strSub_S,S_len,e]; rw [List.take_of_length_le (by rw [e.symm]; simp)] at ⊢)
 | l :: m :: r,a,_,h,ha,e => by
  rw [joinL_cons2] at e
  have hlen:(X.drop a).length = l.length + 2 + (joinL [13,10] (m :: r)).length:=by rw [e]; simp; omega
  rw [List.length_drop] at hlen
  have hno:∀ i,a ≤ i→i < a + l.length→(decide (a ≤ i) && atB (S X) (S [13,10]) i) = false:=fun i h1 h2 => by
   cases q:atB (S X) (S [13,10]) i with
   | false => simp
   | true =>
    exfalso
    have h13:=at13 q
    refine h l (.head _) ?_
    have e2:(X.drop a)[i - a]? = some 13:=by
     rw [List.getElem?_drop] at ⊢
     have:a + (i - a) = i:=by omega
     rw [this]; exact h13
    rw [e,List.append_assoc,List.getElem?_append_left (by omega)] at e2
    exact List.mem_of_getElem? e2
  have hdc:X.drop (a + l.length) = [13,10] ++ joinL [13,10] (m :: r):=by
   rw [← List.drop_drop,e,List.append_assoc,List.drop_left' rfl]
  have hdc2:X.drop (a + l.length + 2) = joinL [13,10] (m :: r):=by
   rw [← List.drop_drop,hdc]
   rfl
  have hat:atB (S X) (S [13,10]) (a + l.length) = true:=by
   rw [atB_sub,hdc]
   simp
   omega
  have hr:List.range' a (X.length + 1 - a) = List.range' a l.length ++ ((a + l.length) :: (a + l.length + 1) :: List.range' (a + l.length + 2) (X.length + 1 - (a + l.length + 2))):=by
   have e1:X.length + 1 - a = l.length + ((X.length + 1 - (a + l.length + 2)) + 1 + 1):=by omega
   rw [e1,← List.range'_append_1,List.range'_succ,List.range'_succ]
  (rewrite [hr,greedy_skip _ _ _ _ _ _ hno,greedy]; rewrite [if_pos (by rw [hat]; simp)] at ⊢; rewrite [greedy]; rw [if_neg (by simp)] at ⊢)
  show strSub (S X) a (a + l.length) :: StrLaws.partsFrom (S X) 2 (a + l.length + 2) _ = S l :: (m :: r).map S
  (rewrite [parts_join X (m :: r) (a + l.length + 2) (by simp) (fun x hx => h x (.tail _ hx)) (by omega) hdc2] at ⊢; rw [strSub_S])
  congr 2
  have:a + l.length - a = l.length:=by omega
  rw [this,e,List.append_assoc,List.take_left' rfl]
end
section
noncomputable def okL:List Nat:=[86,105,97,65,103,101,118,73,84,58,32,59,61,34,92,45,112,113,114,9,98]
theorem mem_joinL {sep:List Nat} {x:Nat}:∀ (ps:List (List Nat)),x ∈ joinL sep ps→x ∈ sep ∨ ∃ p ∈ ps,x ∈ p
 | [],h => by cases h
 | [p],h => .inr ⟨p,.head _,h⟩
 | p :: m :: r,h => by
  rw [joinL_cons2] at h
  rcases List.mem_append.mp h with z | z
  ·rcases List.mem_append.mp z with z | z
   ·exact .inr ⟨p,.head _,z⟩
   ·exact .inl z
  ·rcases mem_joinL (m :: r) z with z | ⟨q,hq,z⟩
   ·exact .inl z
   ·exact .inr ⟨q,.tail _ hq,z⟩
theorem mem_esc {v:List Nat} {x:Nat} (h:x ∈ esc v):x = 92 ∨ x ∈ v:=by
 unfold esc at h
 left;rcases List.mem_flatMap.mp h with ⟨c,hc,hx⟩;right
 split at hx
 ·simp at hx
  rcases hx with rfl | rfl
  ·exact .inl rfl
  ·exact .inr hc
 ·simp at hx
  subst hx; exact .inr hc
theorem signs_ok:∀ x ∈ signsL,x ∈ okL:=by decide
theorem hdr_ok (r:Nat):∀ x ∈ headT (hdr r),x ∈ okL:=fun x hx => by
 have hnames:∀ l ∈ namesL,∀ x ∈ l,x ∈ okL:=by decide
 have hkeys:∀ k ∈ shapes,∀ y ∈ k,∀ x ∈ repL 95 [45] y,x ∈ okL:=by decide
 unfold headT at hx
 rcases List.mem_append.mp hx with z | z
 ·rcases List.mem_append.mp z with z | z
  ·exact hnames _ (nameT_mem r) x z
  ·have:∀ x ∈ ([58,32]:List Nat),x ∈ okL:=by decide
   exact this x z
 ·have z:x ∈ joinL [59,32] ((ownT r).toList ++ (parT r).map partA):=z
  rcases mem_joinL _ z with z | ⟨p,hp,z⟩
  ·have:∀ x ∈ ([59,32]:List Nat),x ∈ okL:=by decide
   exact this x z
  ·rcases List.mem_append.mp hp with q | q
   ·have ho:=(ownT_ok r).1
    cases hq:ownT r with
    | none => rw [hq] at q; simp at q
    | some v =>
     rw [hq] at q ho
     simp at q
     subst q
     exact signs_ok x (ho x z)
   ·left;rcases List.mem_map.mp q with ⟨⟨k,v⟩,ha,z0_⟩;right;subst z0_
    have hk:=hkeys _ (parT_shape r) _ (List.mem_map_of_mem (f:=(·.1)) ha)
    have hv:=(parT_ok r _ ha).1
    unfold partA at z
    cases v with
    | none => exact hk x z
    | some v =>
     have z:x ∈ fmtT (repL 95 [45] k) v:=z
     unfold fmtT at z
     split at z
     ·exact hk x z
     ·rcases List.mem_append.mp z with z | z
      ·rcases List.mem_append.mp z with z | z
       ·rcases List.mem_append.mp z with z | z
        ·exact hk x z
        ·have:∀ x ∈ ([61,34]:List Nat),x ∈ okL:=by decide
         exact this x z
       ·rcases mem_esc z with rfl | z
        ·decide
        ·exact signs_ok x (hv x z)
      ·simp at z; subst z; decide
set_option tactic.hygienic true in
theorem split_lines (ls:List (List Nat)) (hne:ls ≠ []) (h13:∀ l ∈ ls,13 ∉ l) (h2:2 ≤ (joinL [13,10] ls).length):Txt.split (S (joinL [13,10] ls)) "\r\n" = ls.map S:=by
 have e:(Str.ofString "\r\n") = S [13,10]:=by decide
 rw [e]
 have hp:=parts_join (joinL [13,10] ls) ls 0 hne h13 (Nat.zero_le _) (List.drop_zero ..)
 generalize joinL [13,10] ls = X at h2 hp
 have hocc:occurrences (S X) (S [13,10]) 0 (S X).length ((S X).length + 1) = greedy (atB (S X) (S [13,10])) 2 (List.range' 0 (X.length + 1 - 0)) 0:=by
  (rewrite [StrLaws.occ_eq]; rw [occ_greedy _ _ _ _ _ (by simp)] at ⊢)
  simp
  rfl
 unfold Txt.split
 have hk1:Builtin.Str.strKind (S [13,10]) = 1:=by decide +kernel
 have hk2:1 ≤ Builtin.Str.strKind (S X):=by unfold Builtin.Str.strKind; split <;> (try split) <;> omega
 have hlen:2 ≤ (S X).length:=by rw [S_len]; exact h2
 have hlen2:(S [13,10]).length = 2:=rfl
 have hcond:(decide ((S X).length < (S [13,10]).length) || decide (Builtin.Str.strKind (S X) < Builtin.Str.strKind (S [13,10]))) = false:=by
  (rewrite [hk1,hlen2]; rw [decide_eq_false (by omega),decide_eq_false (by omega)] at ⊢); rfl
 (rewrite [hcond]; rw [if_neg (by decide)] at ⊢)
 rw [hocc]
 rw [hp.symm]
 split
 ·rename_i hE
  have:greedy (atB (S X) (S [13,10])) 2 (List.range' 0 (X.length + 1 - 0)) 0 = []:=by simpa using hE
  rw [this]
  show [S X] = [strSub (S X) 0 (S X).length]
  rw [StrLaws.sub_whole]
 ·rw [StrLaws.partsBetween_eq]
  rfl
theorem hsplit (rs:List Nat) (h:0 < rs.length):Txt.split (S (writtenL (rs.map hdr))) "\r\n" = ((rs.map hdr).map headT ++ [[],[]]).map S:=by
 refine split_lines _ (by simp) (fun l hl z => ?_) ?_
 ·rcases List.mem_append.mp hl with q | q
  ·left;rcases List.mem_map.mp q with ⟨a,ha,z0_⟩;right;subst z0_
   left;rcases List.mem_map.mp ha with ⟨r,_,z0_⟩;right;subst z0_
   exact absurd (hdr_ok r 13 z) (by decide)
  ·simp at q; subst q; cases z
 ·cases rs with
  | nil => simp at h
  | cons r rs =>
   cases rs with
   | nil =>
    show 2 ≤ (joinL [13,10] [headT (hdr r),[],[]]).length
    rw [joinL_cons2]; simp; omega
   | cons r2 rs =>
    show 2 ≤ (joinL [13,10] (headT (hdr r) :: headT (hdr r2) :: ((rs.map hdr).map headT ++ [[],[]]))).length
    rw [joinL_cons2]; simp; omega
end
section
noncomputable def sumW (t:Nat):Nat→List Int→Int
 | _,[] => 0
 | i,c :: r => ((i / t:Nat):Int) * c + sumW t (i + 1) r
theorem sumW_app (t:Nat):∀ (l r:List Int) (i:Nat),sumW t i (l ++ r) = sumW t i l + sumW t (i + l.length) r
 | [],r,i => by simp [sumW]
 | c :: l,r,i => by
  show _ + sumW t (i + 1) (l ++ r) = _ + sumW t (i + 1) l + sumW t (i + (l.length + 1)) r
  rw [sumW_app t l r (i + 1)]
  have:i + 1 + l.length = i + (l.length + 1):=by omega
  rw [this]; omega
theorem sumW_zero (t:Nat):∀ (k i:Nat),sumW t i (List.replicate k 0) = 0
 | 0,_ => rfl
 | k + 1,i => by
  show _ * 0 + sumW t (i + 1) (List.replicate k 0) = 0
  rw [sumW_zero t k]; simp
theorem sumW_set (t:Nat):∀ (l:List Int) (i b:Nat),b < l.length→sumW t i (l.set b (l.getD b 0 + 1)) = sumW t i l + (((i + b) / t:Nat):Int)
 | [],_,_,h => by simp at h
 | c :: l,i,0,_ => by
  show ((i / t:Nat):Int) * (c + 1) + sumW t (i + 1) l = ((i / t:Nat):Int) * c + sumW t (i + 1) l + (((i + 0) / t:Nat):Int)
  simp only [Nat.add_zero,Int.mul_add,Int.mul_one]; omega
 | c :: l,i,b + 1,h => by
  have ih:=sumW_set t l (i + 1) b (by simpa using h)
  show ((i / t:Nat):Int) * c + sumW t (i + 1) (l.set b (l.getD b 0 + 1)) = ((i / t:Nat):Int) * c + sumW t (i + 1) l + (((i + (b + 1)) / t:Nat):Int)
  rw [ih]
  have:i + 1 + b = i + (b + 1):=by omega
  rw [this]; omega
set_option tactic.hygienic true in
theorem sumW_bump (t:Nat) (cnt:List Int) (b:Nat):sumW t 0 (bump cnt b) = sumW t 0 cnt + ((b / t:Nat):Int):=by
 unfold bump
 dsimp only
 split
 ·rename_i h
  (rewrite [sumW_set t _ 0 b (by simp; omega)] at ⊢; rw [sumW_app,sumW_zero,Nat.zero_add]); omega
 ·rename_i h
  (rewrite [sumW_set t _ 0 b (by omega)] at ⊢; rw [Nat.zero_add])
theorem sumW_low (t:Nat):∀ (l:List Int) (i:Nat),i + l.length ≤ t→sumW t i l = 0
 | [],_,_ => rfl
 | c :: l,i,h => by
  show ((i / t:Nat):Int) * c + sumW t (i + 1) l = 0
  simp at h
  rw [sumW_low t l (i + 1) (by omega),Nat.div_eq_of_lt (by omega)] at ⊢; simp
theorem ilZ_sum (t:Nat) (cnt:List Int):∀ m,m ≤ (cnt.drop t).length→ilZ t cnt m = sumW t t ((cnt.drop t).take m)
 | 0,_ => by simp [ilZ,sumW]
 | m + 1,h => by
  have ih:=ilZ_sum t cnt m (by omega)
  have hm:(cnt.drop t)[m]? = some (cnt.getD (t + m) 0):=by
   rw [List.getElem?_drop] at ⊢
   have:t + m < cnt.length:=by rw [List.length_drop] at h; omega
   rw [List.getD_eq_getElem?_getD,List.getElem?_eq_getElem this] at ⊢; rfl
  rw [ilZ,ih,List.take_add_one,hm,sumW_app]
  have hl:((cnt.drop t).take m).length = m:=by rw [List.length_take]; omega
  rw [hl]
  have e1:((t:Int) + (m:Int)).toNat = t + m:=by omega
  have e2:((t:Int) + (m:Int)).fdiv (t:Int) = (((t + m) / t:Nat):Int):=by
   (rewrite [Int.fdiv_eq_ediv_of_nonneg _ (by omega)] at ⊢; rw [Int.natCast_ediv,Int.natCast_add])
  rw [e1,e2]
  show _ = _ + ((((t + m) / t:Nat):Int) * cnt.getD (t + m) 0 + 0)
  omega
theorem indent_sum (t:Nat) (nt b:Int) (cnt:List Int):indentZ t nt cnt b = b + t * (sumW t 0 cnt + nt):=by
 unfold indentZ
 have hl:(((cnt.length:Int) - (t:Int)).toNat) = (cnt.drop t).length:=by rw [List.length_drop]; omega
 rw [hl,ilZ_sum t cnt _ (Nat.le_refl _),List.take_length]
 have e:sumW t 0 cnt = sumW t t (cnt.drop t):=by
  by_cases h:t ≤ cnt.length
  ·have hs:=sumW_app t (cnt.take t) (cnt.drop t) 0
   rw [List.take_append_drop,sumW_low t (cnt.take t) 0 (by rw [List.length_take]; omega),List.length_take,Nat.zero_add] at hs
   rw [hs]
   have:min t cnt.length = t:=by omega
   rw [this]; omega
  ·rw [sumW_low t cnt 0 (by omega),List.drop_eq_nil_of_le (by omega)] at ⊢; rfl
 rw [e]
theorem T1 (t:Nat) (ht:1 ≤ t) (ws:List Nat) (h:∀ x ∈ ws,isWs x = true):((wsOf ws).b:Int) + t * (sumW t 0 (wsOf ws).cnt + (wsOf ws).nt) = colD t 0 ws:=by
 have key:∀ n (ws:List Nat),ws.length = n→(∀ x ∈ ws,isWs x = true)→((wsOf ws).b:Int) + t * (sumW t 0 (wsOf ws).cnt + (wsOf ws).nt) = colD t 0 ws:=by
  intro n
  induction n with
  | zero =>
   intro ws hl _
   have:ws = []:=List.length_eq_zero_iff.mp hl
   subst this
   simp [wsOf,sumW,colD]
  | succ n ih =>
   intro ws hl hw
   obtain ⟨l,ch,rfl⟩:∃ l ch,ws = l ++ [ch]:=⟨ws.dropLast,ws.getLast (by intro z; subst z; simp at hl),(List.dropLast_concat_getLast (by intro z; subst z; simp at hl)).symm⟩
   have hi:=ih l (by simpa using hl) fun x hx => hw x (List.mem_append_left _ hx)
   have hc:=hw ch (by simp)
   rw [wsOf_snoc,colD_append,hi.symm]
   generalize wsOf l = s
   show _ = (if ch = 32 then _ + 1 else (Int.fdiv _ _ + 1) * _)
   by_cases h32:ch = 32
   ·rw [if_pos h32]
    have e:wsStep s ch = ⟨s.n + 1,s.nt,s.cnt,s.b + 1⟩:=by unfold wsStep; rw [if_pos h32]
    rw [e]
    show ((s.b + 1:Nat):Int) + (t:Int) * (sumW t 0 s.cnt + (s.nt:Int)) = _
    omega
   ·rw [if_neg h32]
    have e:wsStep s ch = ⟨s.n + 1,s.nt + 1,bump s.cnt s.b,0⟩:=by unfold wsStep; rw [if_neg h32]
    rw [e]
    show ((0:Nat):Int) + (t:Int) * (sumW t 0 (bump s.cnt s.b) + ((s.nt + 1:Nat):Int)) = _
    (rewrite [sumW_bump]; rewrite [Int.fdiv_eq_ediv_of_nonneg _ (by omega),Int.add_mul_ediv_left _ _ (by omega)] at ⊢; rw [Int.natCast_ediv,Int.mul_comm,Int.ofNat_zero,Int.zero_add])
    have e2:sumW t 0 s.cnt + (s.b:Int) / (t:Int) + ((s.nt + 1:Nat):Int) = (s.b:Int) / (t:Int) + (sumW t 0 s.cnt + (s.nt:Int)) + 1:=by
     generalize (s.b:Int) / (t:Int) = q
     omega
    rw [e2]
 exact key _ ws rfl h
end
section
theorem ldT_ws (l:List Nat):∀ x ∈ ldT l,isWs x = true:=fun x hx => List.all_eq_true.mp (List.all_takeWhile (p:=isWs) (l:=l)) x hx
theorem indW_col (l:List Nat) (j:Nat):indW l j = colD (1 + j) 0 (ldT l):=by
 have h:=T1 (1 + j) (by omega) (ldT l) (ldT_ws l)
 have e:((1 + j:Nat):Int) = 1 + (j:Int):=by omega
 rw [e] at h
 rw [h.symm]
 have h2:=indent_sum (1 + j) (wsL l).nt (wsL l).b (wsL l).cnt
 rw [e] at h2
 exact h2
theorem colD_up (t:Nat) (ht:1 ≤ t):∀ (l:List Nat) (k:Int),0 ≤ k→k + l.length ≤ colD t k l
 | [],k,_ => by simp [colD]
 | ch :: l,k,h => by
  have hd:(k.fdiv t + 1) * t ≥ k + 1:=by
   (rewrite [Int.fdiv_eq_ediv_of_nonneg _ (by omega)] at ⊢; rw [Int.add_mul,Int.one_mul])
   have h1:=Int.emod_add_mul_ediv k t
   have h2:=Int.emod_lt_of_pos k (show (0:Int) < t by omega)
   rw [Int.mul_comm] at h1
   omega
  have hk:(if ch = 32 then k + 1 else (k.fdiv t + 1) * t) ≥ k + 1:=by split <;> omega
  have ih:=colD_up t ht l (if ch = 32 then k + 1 else (k.fdiv t + 1) * t) (by omega)
  show k + ((l.length + 1:Nat):Int) ≤ colD t (if ch = 32 then k + 1 else (k.fdiv t + 1) * t) l
  omega
theorem colD_deeper (t:Nat) (ht:1 ≤ t) (l w:List Nat) (hw:w ≠ []):colD t 0 l < colD t 0 (l ++ w):=by
 rw [colD_append]
 have h0:0 ≤ colD t 0 l:=by have:=colD_up t ht l 0 (Int.le_refl _); omega
 have:=colD_up t ht w (colD t 0 l) h0
 have:0 < w.length:=List.length_pos_iff.mpr hw
 omega
end
section
theorem colD_one:∀ (l:List Nat) (k:Int),colD 1 k l = k + l.length
 | [],k => by simp [colD]
 | ch :: l,k => by
  show colD 1 (if ch = 32 then k + 1 else (k.fdiv 1 + 1) * 1) l = k + ((l.length + 1:Nat):Int)
  rw [colD_one l]
  have:k.fdiv 1 = k:=by (rewrite [Int.fdiv_eq_ediv_of_nonneg _ (by decide)] at ⊢; rw [Int.ediv_one])
  rw [this]
  split <;> omega
theorem wsL_len (l:List Nat):(wsL l).n = (ldT l).length:=by
 left;rcases wsOf_bd (wsPre (S l)) with ⟨_,_,q⟩;right
 exact q
theorem ind0 (l:List Nat):indW l 0 = ((wsL l).n:Int):=by
 rw [indW_col,wsL_len]
 have:=colD_one (ldT l) 0
 simpa using this
theorem topW_pos (p l:List Nat):1 ≤ topW p l∧((wsL l).b:Int) + 1 ≤ topZ (wsL p).cnt (wsL l).cnt (wsL p).b (wsL l).b∧(topW p l:Int) = topZ (wsL p).cnt (wsL l).cnt (wsL p).b (wsL l).b:=by
 have h:((wsL l).b:Int) + 1 ≤ topZ (wsL p).cnt (wsL l).cnt (wsL p).b (wsL l).b:=by
  unfold topZ longestZ
  split <;> split <;> (try split) <;> omega
 unfold topW
 refine ⟨by omega,h,by omega⟩
theorem simple_ind (l:List Nat) (h:(wsL l).cnt.length ≤ 1) (j:Nat):indW l j = ((wsL l).b:Int) + (1 + j) * ((wsL l).nt:Int):=by
 have h2:=indent_sum (1 + j) (wsL l).nt (wsL l).b (wsL l).cnt
 have e:((1 + j:Nat):Int) = 1 + (j:Int):=by omega
 rw [e] at h2
 show indentZ (1 + j) _ _ _ = _
 rw [h2]
 have:sumW (1 + j) 0 (wsL l).cnt = 0:=sumW_low _ _ _ (by omega)
 rw [this,Int.zero_add]
theorem lessW_all (p l:List Nat):lessW p l = (List.range (topW p l)).all fun j => decide (indW p j < indW l j):=by
 left;rcases topW_pos p l with ⟨t1,t2,t3⟩;right
 have hp0:=ind0 p
 have hl0:=ind0 l
 unfold lessW lessZ
 by_cases hk:((wsL p).n:Int) ≥ (wsL l).n
 ·rw [if_pos hk]
  symm
  rw [Bool.eq_false_iff]
  intro q
  have:=List.all_eq_true.mp q 0 (by simp; omega)
  have:=of_decide_eq_true this
  omega
 ·rw [if_neg hk]
  by_cases hs:(decide ((wsL p).cnt.length ≤ 1) && decide ((wsL l).cnt.length ≤ 1)) = true
  ·rw [if_pos hs]
   simp only [Bool.and_eq_true,decide_eq_true_eq] at hs
   have ip:=simple_ind p hs.1
   have il:=simple_ind l hs.2
   have z1:=ip 0
   have z2:=il 0
   simp only [Int.ofNat_zero,Int.add_zero,Int.one_mul] at z1 z2
   rw [Bool.eq_iff_iff,decide_eq_true_eq,List.all_eq_true]
   constructor
   ·intro hn j _
    rw [decide_eq_true_eq,ip j,il j]
    have:=Int.mul_le_mul_of_nonneg_left hn (show (0:Int) ≤ j by omega)
    rw [Int.add_mul,Int.add_mul,Int.one_mul,Int.one_mul]
    omega
   ·intro q
    have:=of_decide_eq_true (q (topW p l - 1) (by simp; omega))
    rw [ip,il] at this
    have e:(1:Int) + ((topW p l - 1:Nat):Int) = (topW p l:Int):=by omega
    rw [e] at this
    rcases Int.lt_or_le ((wsL l).nt:Int) ((wsL p).nt:Int) with z | z
    ·exfalso
     have h1:=Int.mul_le_mul_of_nonneg_left (show ((wsL l).nt:Int) + 1 ≤ (wsL p).nt by omega) (show (0:Int) ≤ (topW p l:Int) by omega)
     rw [Int.mul_add,Int.mul_one] at h1
     omega
    ·exact z
  ·rw [if_neg hs]
   have e:(topZ (wsL p).cnt (wsL l).cnt (wsL p).b (wsL l).b + 1 - 2).toNat = topW p l - 1:=by omega
   rw [e]
   have e2:topW p l = (topW p l - 1) + 1:=by omega
   rw [Bool.eq_iff_iff,List.all_eq_true,List.all_eq_true]
   constructor
   ·intro q j hj
    cases j with
    | zero => rw [decide_eq_true_eq]; omega
    | succ j =>
     have:=of_decide_eq_true (q j (by simp at hj ⊢; omega))
     rw [decide_eq_true_eq]
     have e3:(1:Int) + ((j + 1:Nat):Int) = 2 + (j:Int):=by omega
     show indentZ (1 + ((j + 1:Nat):Int)) _ _ _ < indentZ (1 + ((j + 1:Nat):Int)) _ _ _
     rw [e3]
     omega
   ·intro q j hj
    have:=of_decide_eq_true (q (j + 1) (by simp at hj ⊢; omega))
    have e3:(1:Int) + ((j + 1:Nat):Int) = 2 + (j:Int):=by omega
    have this:indentZ (1 + ((j + 1:Nat):Int)) (wsL p).nt (wsL p).cnt (wsL p).b < indentZ (1 + ((j + 1:Nat):Int)) (wsL l).nt (wsL l).cnt (wsL l).b:=this
    rw [e3] at this
    rw [decide_eq_true_eq]
    omega
end
section
noncomputable def Run (k:Nat) (l:List Nat):Prop:=∃ u v,l = u ++ List.replicate k 32 ++ v
noncomputable def Tail (k:Nat) (l:List Nat):Prop:=∃ u,l = u ++ List.replicate k 32
theorem tail_snoc32 (k:Nat) (l:List Nat):Tail (k + 1) (l ++ [32]) ↔ Tail k l:=by
 constructor
 ·rintro ⟨u,h⟩
  rw [List.replicate_succ',← List.append_assoc] at h
  exact ⟨u,(List.append_inj' h rfl).1⟩
 ·rintro ⟨u,rfl⟩
  exact ⟨u,by rw [List.replicate_succ',List.append_assoc]⟩
theorem tail_snoc9 (k:Nat) (l:List Nat):¬ Tail (k + 1) (l ++ [9]):=by
 rintro ⟨u,h⟩
 rw [List.replicate_succ',← List.append_assoc] at h
 have:=(List.append_inj' h rfl).2
 simp at this
theorem run_snoc (k ch:Nat) (l:List Nat):Run k (l ++ [ch]) ↔ Run k l ∨ Tail k (l ++ [ch]):=by
 constructor
 ·rintro ⟨u,v,h⟩
  rcases List.eq_nil_or_concat v with rfl | ⟨v',c,rfl⟩
  ·exact .inr ⟨u,by simpa using h⟩
  ·refine .inl ?_
   rw [List.concat_eq_append,← List.append_assoc] at h
   exact ⟨u,v',(List.append_inj' h rfl).1⟩
 ·rintro (⟨u,v,rfl⟩ | ⟨u,h⟩)
  ·exact ⟨u,v ++ [ch],by simp⟩
  ·exact ⟨u,[],by simpa using h⟩
theorem tail0 (l:List Nat):Tail 0 l:=⟨l,by simp⟩
theorem bump_len2 (cnt:List Int) (b:Nat):(bump cnt b).length = max cnt.length (b + 1):=by
 unfold bump
 dsimp only
 rw [List.length_set]
 split
 ·rw [List.length_append,List.length_replicate]; omega
 ·omega
theorem le_max (k a b:Nat):(k ≤ a ∨ k ≤ b) ↔ k ≤ max a b:=by
 refine ⟨fun h => h.elim (fun h => Nat.le_trans h (Nat.le_max_left ..)) fun h => Nat.le_trans h (Nat.le_max_right ..),fun h => ?_⟩
 rcases Nat.le_total a b with z | z
 ·rw [Nat.max_eq_right z] at h; exact .inr h
 ·rw [Nat.max_eq_left z] at h; exact .inl h
theorem run_blank (k b m:Nat):(k ≤ max b m ∨ k ≤ b + 1) ↔ k ≤ max (b + 1) m:=by
 rw [← le_max,← le_max]
 exact ⟨fun h => h.elim (fun h => h.elim (fun h => .inl (Nat.le_succ_of_le h)) .inr) .inl,fun h => h.elim .inr fun h => .inl (.inr h)⟩
theorem run_tab (k b n:Nat):(k ≤ max b (n - 1) ∨ k ≤ 0) ↔ k ≤ max 0 (max n (b + 1) - 1):=by
 rw [Nat.zero_max,← Nat.sub_max_sub_right,Nat.add_sub_cancel,Nat.max_comm b]
 exact or_iff_left_of_imp fun h => Nat.le_trans h (Nat.zero_le _)
theorem runs_ws (ws:List Nat) (h:∀ x ∈ ws,isWs x = true):(∀ k,Tail k ws ↔ k ≤ (wsOf ws).b)∧∀ k,Run k ws ↔ k ≤ max (wsOf ws).b ((wsOf ws).cnt.length - 1):=by
 have key:∀ n (ws:List Nat),ws.length = n→(∀ x ∈ ws,isWs x = true)→(∀ k,Tail k ws ↔ k ≤ (wsOf ws).b)∧∀ k,Run k ws ↔ k ≤ max (wsOf ws).b ((wsOf ws).cnt.length - 1):=by
  intro n
  induction n with
  | zero =>
   intro ws hl _
   have:ws = []:=List.length_eq_zero_iff.mp hl
   subst this
   have t:∀ k,Tail k [] ↔ k ≤ 0:=fun k => by
    constructor
    ·rintro ⟨u,h⟩
     have:=congrArg List.length h
     simp at this; omega
    ·intro h
     have:k = 0:=by omega
     subst this; exact tail0 _
   refine ⟨t,fun k => ?_⟩
   constructor
   ·rintro ⟨u,v,h⟩
    have:=congrArg List.length h
    simp at this
    show k ≤ max 0 (0 - 1)
    omega
   ·intro h
    have:k = 0:=by
     have h:k ≤ max 0 (0 - 1):=h
     omega
    subst this; exact ⟨[],[],rfl⟩
  | succ n ih =>
   intro ws hl hw
   obtain ⟨l,ch,rfl⟩:∃ l ch,ws = l ++ [ch]:=⟨ws.dropLast,ws.getLast (by intro z; subst z; simp at hl),(List.dropLast_concat_getLast (by intro z; subst z; simp at hl)).symm⟩
   obtain ⟨hT,hR⟩:=ih l (by simpa using hl) fun x hx => hw x (List.mem_append_left _ hx)
   have hc:=hw ch (by simp)
   rw [wsOf_snoc]
   generalize wsOf l = s at hT hR
   by_cases h32:ch = 32
   ·subst h32
    have e:wsStep s 32 = ⟨s.n + 1,s.nt,s.cnt,s.b + 1⟩:=rfl
    rw [e]
    have hT':∀ k,Tail k (l ++ [32]) ↔ k ≤ s.b + 1:=fun k => by
     cases k with
     | zero => exact ⟨fun _ => Nat.zero_le _,fun _ => tail0 _⟩
     | succ k => rw [tail_snoc32,hT]; omega
    refine ⟨hT',fun k => ?_⟩
    rw [run_snoc,hR,hT']
    exact run_blank _ _ _
   ·have h9:ch = 9:=by
     unfold isWs at hc
     simp [h32] at hc
     exact hc
    subst h9
    have e:wsStep s 9 = ⟨s.n + 1,s.nt + 1,bump s.cnt s.b,0⟩:=rfl
    rw [e]
    have hT':∀ k,Tail k (l ++ [9]) ↔ k ≤ 0:=fun k => by
     cases k with
     | zero => exact ⟨fun _ => Nat.zero_le _,fun _ => tail0 _⟩
     | succ k => exact ⟨fun z => absurd z (tail_snoc9 k l),fun z => by omega⟩
    refine ⟨hT',fun k => ?_⟩
    rw [run_snoc,hR,hT']
    show _ ↔ k ≤ max 0 ((bump s.cnt s.b).length - 1)
    rw [bump_len2]
    exact run_tab _ _ _
 exact key _ ws rfl h
end
section
theorem inStr_run (k:Nat) (l:List Nat):inStr (Txt.mul " " (k:Int)) (S l) = true ↔ Run k l:=by
 have hy:(Txt.mul " " (k:Int)).cps.toList = List.replicate k 32:=by
  have e:(Str.ofString " ") = ⟨#[32]⟩:=by decide
  rw [e]
  have:=PyProof.Rows.mul_one_list 32 (k:Int)
  rw [Int.toNat_natCast] at this
  exact this
 have hyl:(Txt.mul " " (k:Int)).length = k:=by
  have:(Txt.mul " " (k:Int)).length = (Txt.mul " " (k:Int)).cps.toList.length:=by simp [Str.length]
  rw [this,hy,List.length_replicate]
 unfold inStr
 rw [StrLaws.found_iff,hyl,S_len]
 constructor
 ·rintro ⟨i,h1,h2⟩
  rw [StrLaws.subAt_eq,hyl,hy] at h2
  have h2:=eq_of_beq h2
  refine ⟨l.take i,(l.drop i).drop k,?_⟩
  have h2:(l.drop i).take k = List.replicate k 32:=h2
  rw [h2.symm,List.append_assoc,List.take_append_drop,List.take_append_drop]
 ·rintro ⟨u,v,rfl⟩
  refine ⟨u.length,by simp,?_⟩
  rw [StrLaws.subAt_eq,hyl,hy]
  show (((u ++ List.replicate k 32 ++ v).drop u.length).take k == List.replicate k 32) = true
  (rewrite [List.append_assoc,List.drop_left' rfl]; rw [List.take_left' (by simp)] at ⊢)
  simp
noncomputable def lrun (l:List Nat):Nat:=max (wsL l).b ((wsL l).cnt.length - 1)
theorem hasRun_iff (p l:List Nat) (k:Nat):hasRun (ldT p) (ldT l) k = true ↔ k ≤ max (lrun p) (lrun l):=by
 have hp:=(runs_ws (ldT p) (ldT_ws p)).2 k
 have hl:=(runs_ws (ldT l) (ldT_ws l)).2 k
 have hp:Run k (ldT p) ↔ k ≤ lrun p:=hp
 have hl:Run k (ldT l) ↔ k ≤ lrun l:=hl
 unfold hasRun
 rw [Bool.or_false,Bool.or_eq_true,inStr_run,inStr_run,hp,hl]
 exact le_max ..
theorem longestZ_nat (cnt:List Int) (b:Nat):longestZ cnt (b:Int) = ((max b (cnt.length - 1):Nat):Int):=by
 unfold longestZ
 split <;> omega
theorem max_toNat (a b:Nat):((if (b:Int) > (a:Int) then (b:Int) else (a:Int)) + 1).toNat = max a b + 1:=by split <;> omega
theorem topW_lrun (p l:List Nat):topW p l = max (lrun p) (lrun l) + 1:=by
 unfold topW topZ lrun
 rw [longestZ_nat,longestZ_nat]
 exact max_toNat _ _
theorem maxL_range:∀ m,m ≤ 9→1 + maxL (((List.range 10).filter fun k => decide (k ≤ m)).map fun (k:Nat) => (k:Int)) = (m:Int) + 1:=by
 intro m hm
 have:∀ m < 10,1 + maxL (((List.range 10).filter fun k => decide (k ≤ m)).map fun (k:Nat) => (k:Int)) = (m:Int) + 1:=by decide
 exact this m (by omega)
theorem mostZ_top (p l:List Nat) (h:max (lrun p) (lrun l) ≤ 9):mostZ (ldT p) (ldT l) = (topW p l:Int):=by
 have e:runsW (ldT p) (ldT l) = (List.range 10).filter fun k => decide (k ≤ max (lrun p) (lrun l)):=by
  unfold runsW
  refine List.filter_congr fun k _ => ?_
  rw [Bool.eq_iff_iff,hasRun_iff,decide_eq_true_eq]
 unfold mostZ
 rw [e,maxL_range _ h,topW_lrun]
 omega
end
section
theorem overN_ind (p l:List Nat) (h:max (lrun p) (lrun l) ≤ 9):overN (ldT p) (ldT l) = (List.range (topW p l)).filter fun (j:Nat) => decide (indW p j ≥ indW l j):=by
 unfold overN
 rw [mostZ_top p l h,Int.toNat_natCast]
 refine List.filter_congr fun j _ => ?_
 rw [indW_col,indW_col]
theorem wit_over (p l:List Nat) (h:max (lrun p) (lrun l) ≤ 9):witW p l = overW (ldT p) (ldT l):=by
 unfold overW
 rw [overN_ind p l h]
 unfold witW
 refine List.map_congr_left fun j _ => ?_
 omega
theorem less_over (p l:List Nat) (h:max (lrun p) (lrun l) ≤ 9):lessW p l = decide (overN (ldT p) (ldT l) = []):=by
 rw [lessW_all,overN_ind p l h,Bool.eq_iff_iff,decide_eq_true_eq,List.all_eq_true,List.filter_eq_nil_iff]
 constructor
 ·intro q j hj z
  have h1:=of_decide_eq_true (q j hj)
  have h2:=of_decide_eq_true z
  omega
 ·intro q j hj
  have:=q j hj
  rw [decide_eq_true_eq] at this ⊢
  omega
theorem cols_ind (p l:List Nat) (h:max (lrun p) (lrun l) ≤ 9):eqT (ldT p) (ldT l) = decide (∀ j < topW p l,indW p j = indW l j):=by
 unfold eqT colsT
 rw [mostZ_top p l h,Int.toNat_natCast,Bool.eq_iff_iff,decide_eq_true_eq,decide_eq_true_eq]
 constructor
 ·intro q j hj
  rw [indW_col,indW_col]
  exact List.map_inj_left.mp q j (by simpa using hj)
 ·intro q
  refine List.map_congr_left fun j hj => ?_
  have:=q j (by simpa using hj)
  rw [indW_col,indW_col] at this
  exact this
theorem sum_set1:∀ (l:List Int) (b:Nat),b < l.length→(l.set b (l.getD b 0 + 1)).sum = l.sum + 1
 | [],_,h => by simp at h
 | c :: l,0,_ => by
  show (c + 1) + l.sum = (c + l.sum) + 1
  omega
 | c :: l,b + 1,h => by
  have ih:=sum_set1 l b (by simpa using h)
  show c + (l.set b (l.getD b 0 + 1)).sum = (c + l.sum) + 1
  omega
theorem bump_sum (cnt:List Int) (b:Nat):(bump cnt b).sum = cnt.sum + 1:=by
 unfold bump
 dsimp only
 split
 ·rw [sum_set1 _ b (by simp; omega)] at ⊢
  simp
 ·rw [sum_set1 _ b (by omega)] at ⊢
theorem nt_fold:∀ (l:List Nat) (s:WsS),s.cnt.sum = (s.nt:Int)→(l.foldl wsStep s).cnt.sum = ((l.foldl wsStep s).nt:Int)
 | [],_,h => h
 | ch :: l,s,h => by
  refine nt_fold l (wsStep s ch) ?_
  unfold wsStep
  split
  ·exact h
  ·show (bump s.cnt s.b).sum = ((s.nt + 1:Nat):Int)
   rw [bump_sum,h]; omega
theorem nt_sum (l:List Nat):(wsL l).cnt.sum = ((wsL l).nt:Int):=nt_fold _ ⟨0,0,[],0⟩ rfl
theorem eqW_ind {p l:List Nat} (q:eqW p l = true) (j:Nat):indW p j = indW l j:=by
 unfold eqW at q
 rw [Bool.and_eq_true,decide_eq_true_eq] at q
 have e2:((wsL p).b:Int) = (wsL l).b:=by simpa using q.2
 have n1:=nt_sum p
 have n2:=nt_sum l
 rw [q.1] at n1
 have e3:((wsL p).nt:Int) = (wsL l).nt:=n1.symm.trans n2
 unfold indW
 rw [q.1,e2,e3]
theorem deeper_alike (p l:List Nat) (h:max (lrun p) (lrun l) ≤ 9) (hd:∀ j,indW p j < indW l j):eqW p l = false∧eqT (ldT p) (ldT l) = false∧lessW p l = true∧overN (ldT p) (ldT l) = []:=by
 have h1:lessW p l = true:=by
  rw [lessW_all,List.all_eq_true]
  exact fun j _ => decide_eq_true (hd j)
 have h2:overN (ldT p) (ldT l) = []:=by
  have:=less_over p l h
  rw [h1] at this
  exact of_decide_eq_true this.symm
 refine ⟨?_,?_,h1,h2⟩
 ·cases q:eqW p l with
  | false => rfl
  | true =>
   exfalso
   have:=eqW_ind q 0
   have:=hd 0
   omega
 ·rw [cols_ind p l h,decide_eq_false_iff_not]
  intro q
  have:=q 0 (topW_pos p l).1
  have:=hd 0
  omega
end
section
theorem first_alike:∀ d < 32,∀ i < 8,eqW ((leadsL d).getD 1 []) ((leadsL d).getD i []) = eqT ((leadsL d).getD 1 []) ((leadsL d).getD i []):=by decide +kernel
theorem turned_same:∀ d < 32,eqW ((leadsL d).getD 1 []) ((leadsL d).getD 0 []) = true:=by decide +kernel
theorem leads_ws:∀ d < 32,∀ i < 8,(∀ x ∈ (leadsL d).getD i [],isWs x = true)∧((leadsL d).getD i []).length ≤ 9:=by decide +kernel
end
section
theorem ldT_app (l x:List Nat) (h:∀ c ∈ l,isWs c = true):ldT (l ++ x) = l ++ ldT x:=List.takeWhile_append_of_pos h
theorem rsT_app (l x:List Nat) (h:∀ c ∈ l,isWs c = true):rsT (l ++ x) = rsT x:=List.dropWhile_append_of_pos h
theorem ldT_self (l:List Nat) (h:∀ c ∈ l,isWs c = true):ldT l = l:=by
 have:=ldT_app l [] h
 rw [List.append_nil] at this
 rw [this]
 simp [ldT]
theorem wsL_ld (l:List Nat):wsL l = wsOf (ldT l):=rfl
theorem wsL_congr {l m:List Nat} (h:ldT l = ldT m):wsL l = wsL m:=by rw [wsL_ld,wsL_ld,h]
theorem lrun_le (l:List Nat):lrun l ≤ (ldT l).length:=by
 left;rcases wsOf_bd (ldT l) with ⟨q1,q2,_⟩;right
 unfold lrun
 rw [wsL_ld]
 omega
theorem eqW_congr {p l p' l':List Nat} (h1:ldT p = ldT p') (h2:ldT l = ldT l'):eqW p l = eqW p' l':=by
 unfold eqW
 rw [wsL_congr h1,wsL_congr h2]
end
section
theorem pick_alike:∀ a ∈ namesL,(lowL a == lowL [118,105,97]) = ([[86,105,97],[118,73,65]]:List (List Nat)).contains a∧(lowL a == lowL [97,71,69]) = ([[65,103,101]]:List (List Nat)).contains a∧(lowL a == lowL [84,69]) = ([[84,101]]:List (List Nat)).contains a:=by decide
theorem picks_eq (ps:List (List Nat × List Nat)) (h:∀ p ∈ ps,p.1 ∈ namesL):askL.map (fun q => D.lst (strsD (pickH q ps))) = alikeL.map fun a => .lst (strsD (pickA a ps)):=by
 have e:∀ (q:List Nat) (a:List (List Nat)),(∀ x ∈ namesL,(lowL x == lowL q) = a.contains x)→pickH q ps = pickA a ps:=fun q a hq => by
  unfold pickH pickA
  congr 1
  exact List.filter_congr fun p hp => hq _ (h p hp)
 unfold askL alikeL
 simp only [List.map_cons,List.map_nil]
 rw [e _ _ fun x hx => (pick_alike x hx).1,e _ _ fun x hx => (pick_alike x hx).2.1,e _ _ fun x hx => (pick_alike x hx).2.2] at ⊢
end
section
theorem flat_last:∀ (ls:List (List Nat)) (x:List Nat),0 < ls.length→(ls.set (ls.length - 1) (ls.getD (ls.length - 1) [] ++ x)).flatten = ls.flatten ++ x
 | [],_,h => by simp at h
 | [a],x,_ => by simp
 | a :: b :: r,x,_ => by
  have ih:=flat_last (b :: r) x (by simp)
  show (a :: ((b :: r).set ((b :: r).length - 1) ((b :: r).getD ((b :: r).length - 1) [] ++ x))).flatten = a ++ (b :: r).flatten ++ x
  rw [List.flatten_cons,ih,List.append_assoc]
theorem pieces_flat:∀ (l:List Nat) (ps:List (List Nat)),0 < ps.length→(l.foldl pStep ps).flatten = ps.flatten ++ l
 | [],ps,_ => by simp
 | ch :: l,ps,h => by
  have ho:(pOpen ps ch).flatten = ps.flatten:=by unfold pOpen; split <;> simp
  have hl:=(pOpen_len ps ch).1
  show (l.foldl pStep (pStep ps ch)).flatten = _
  rw [pieces_flat l (pStep ps ch) (by unfold pStep; rw [List.length_set]; omega)] at ⊢
  unfold pStep
  (rewrite [flat_last _ _ (by omega)] at ⊢; rw [ho,List.append_assoc])
  rfl
theorem fAt_flat (bits:Nat) (ps:List (List Nat)):∀ j,j ≤ ps.length→(fAt bits ps j).flatten = (ps.take j).flatten
 | 0,_ => rfl
 | j + 1,hj => by
  have ih:=fAt_flat bits ps j (by omega)
  left;rcases fAt_bd bits ps j (by omega) with ⟨h1,_,_⟩;right
  have hl:=(fOpen_len bits (fAt bits ps j) j).1
  have ho:(fOpen bits (fAt bits ps j) j).flatten = (fAt bits ps j).flatten:=by unfold fOpen; split <;> simp
  have e1:ps.take (j + 1) = ps.take j ++ [ps.getD j []]:=by
   (rewrite [List.take_add_one]; rw [List.getElem?_eq_getElem (by omega),List.getD_eq_getElem?_getD,List.getElem?_eq_getElem (by omega)] at ⊢); rfl
  (rewrite [fAt]; rewrite [flat_last _ _ (by omega)] at ⊢; rw [ho,ih,e1,List.flatten_append])
  simp
theorem folded_flat (l:List Nat) (bits:Nat):(folded l bits).flatten = l:=by
 have h:=fAt_flat bits (pieces l) (pieces l).length (Nat.le_refl _)
 rw [List.take_length] at h
 exact h.trans (pieces_flat l [[]] (by decide))
end
section
noncomputable def Alt (ps:List (List Nat)):Prop:=0 < ps.length∧(∀ i,i < ps.length→∀ x ∈ ps.getD i [],isWs x = decide (i % 2 = 1))∧∀ i,0 < i→i < ps.length→ps.getD i [] ≠ []
theorem getD_set (l:List (List Nat)) (i j:Nat) (x:List Nat) (h:i < l.length):(l.set i x).getD j [] = if j = i then x else l.getD j []:=by
 rw [List.getD_eq_getElem?_getD,List.getD_eq_getElem?_getD,List.getElem?_set] at ⊢
 by_cases e:i = j
 ·subst e
  simp [h]
 ·have:¬ j = i:=fun z => e z.symm
  simp [e,this]
theorem getD_app (l:List (List Nat)) (j:Nat) (x:List Nat):(l ++ [x]).getD j [] = if j < l.length then l.getD j [] else if j = l.length then x else []:=by
 rw [List.getD_eq_getElem?_getD,List.getD_eq_getElem?_getD] at ⊢
 by_cases h:j < l.length
 ·(rewrite [if_pos h]; rw [List.getElem?_append_left h] at ⊢)
 ·(rewrite [if_neg h]; rw [List.getElem?_append_right (by omega)] at ⊢)
  by_cases h2:j = l.length
  ·subst h2; simp
  ·rw [if_neg h2]
   have:j - l.length ≠ 0:=by omega
   cases q:j - l.length with
   | zero => exact absurd q this
   | succ m => simp
theorem alt_step {ps:List (List Nat)} {ch:Nat} (h:Alt ps):Alt (pStep ps ch):=by
 left;rcases h with ⟨h0,h1,h2⟩;right
 unfold pStep pOpen
 by_cases ho:(isWs ch != (ps.length % 2 == 0)) = true
 ·rw [if_pos ho]
  have hw:isWs ch = decide (ps.length % 2 = 1):=by
   rcases Nat.mod_two_eq_zero_or_one ps.length with z | z <;> rw [z] at ho ⊢ <;> simpa using ho
  have hl:(ps ++ [[]]).length = ps.length + 1:=by simp
  rw [hl,Nat.add_sub_cancel]
  have e:∀ j,((ps ++ [[]]).set ps.length ((ps ++ [[]]).getD ps.length [] ++ [ch])).getD j [] = if j = ps.length then [ch] else ps.getD j []:=fun j => by
   (rewrite [getD_set _ _ _ _ (by rw [hl]; omega)] at ⊢; rw [getD_app,getD_app])
   by_cases q:j = ps.length
   ·subst q; simp
   ·rw [if_neg q]
    by_cases q2:j < ps.length
    ·rw [if_pos q2,if_neg q]
    ·(rewrite [if_neg q2,if_neg q,if_neg q]; rw [List.getD_eq_getElem?_getD,List.getElem?_eq_none (by omega)] at ⊢); rfl
  refine ⟨by rw [List.length_set,hl]; omega,fun i hi x hx => ?_,fun i hi hi2 => ?_⟩
  ·rw [e] at hx
   rw [List.length_set,hl] at hi
   by_cases q:i = ps.length
   ·subst q
    rw [if_pos rfl] at hx
    simp at hx; subst hx; exact hw
   ·rw [if_neg q] at hx
    exact h1 i (by omega) x hx
  ·rw [e]
   rw [List.length_set,hl] at hi2
   by_cases q:i = ps.length
   ·rw [if_pos q]; simp
   ·rw [if_neg q]; exact h2 i hi (by omega)
 ·rw [if_neg ho]
  have hw:isWs ch = decide ((ps.length - 1) % 2 = 1):=by
   rcases Nat.mod_two_eq_zero_or_one ps.length with z | z
   ·have e:(ps.length - 1) % 2 = 1:=by omega
    rw [z] at ho; rw [e]; simpa using ho
   ·have e:(ps.length - 1) % 2 = 0:=by omega
    rw [z] at ho; rw [e]; simpa using ho
  refine ⟨by rw [List.length_set]; exact h0,fun i hi x hx => ?_,fun i hi hi2 => ?_⟩
  ·rw [List.length_set] at hi
   rw [getD_set _ _ _ _ (by omega)] at hx
   by_cases q:i = ps.length - 1
   ·rw [if_pos q] at hx
    rcases List.mem_append.mp hx with z | z
    ·rw [q]; exact h1 _ (by omega) x z
    ·simp at z; subst z; rw [q]; exact hw
   ·rw [if_neg q] at hx
    exact h1 i hi x hx
  ·rw [List.length_set] at hi2
   rw [getD_set _ _ _ _ (by omega)] at ⊢
   split
   ·simp
   ·exact h2 i hi hi2
theorem alt_pieces (l:List Nat):Alt (pieces l):=by
 have:∀ (l:List Nat) (ps:List (List Nat)),Alt ps→Alt (l.foldl pStep ps):=by
  intro l
  induction l with
  | nil => intro ps h; exact h
  | cons a r ih => intro ps h; exact ih _ (alt_step h)
 refine this l [[]] ⟨by decide,fun i hi x hx => ?_,fun i h1 h2 => ?_⟩
 ·have:i = 0:=by simp at hi; exact hi
  subst this; cases hx
 ·simp at h2; omega
theorem first_stays:∀ (l:List Nat) (ps:List (List Nat)),2 ≤ ps.length→(l.foldl pStep ps).getD 0 [] = ps.getD 0 []
 | [],_,_ => rfl
 | ch :: l,ps,h => by
  have hl:=(pOpen_len ps ch).1
  have hs:=(pStep_len ps ch).1
  show (l.foldl pStep (pStep ps ch)).getD 0 [] = _
  rw [first_stays l _ (by omega)] at ⊢
  unfold pStep
  rw [getD_set _ _ _ _ (by omega),if_neg (by omega)] at ⊢
  unfold pOpen
  split
  ·(rewrite [getD_app]; rw [if_pos (by omega)] at ⊢)
  ·rfl
theorem names_open:∀ a ∈ namesL,(a ++ [58,32]).foldl pStep [[]] = [a ++ [58],[32]]:=by decide
theorem first_piece (p:List Nat × List Nat) (h:p.1 ∈ namesL):(pieces (headT p)).getD 0 [] = p.1 ++ [58]:=by
 unfold pieces headT
 (rewrite [List.foldl_append,names_open _ h]; rw [first_stays _ _ (by simp)] at ⊢)
 rfl
noncomputable def Led (ls:List (List Nat)):Prop:=∀ i,0 < i→i < ls.length→∃ c t,ls.getD i [] = c :: t∧isWs c = true
theorem fOpen_no {bits:Nat} {ls:List (List Nat)} {j:Nat} (h:¬ j % 2 = 1):fOpen bits ls j = ls:=by
 unfold fOpen
 rw [decide_eq_false h]
 rfl
theorem led_step (bits:Nat) (ls:List (List Nat)) (j:Nat) (q:List Nat) (h0:0 < ls.length) (h:Led ls) (hq:j % 2 = 1→∃ c t,q = c :: t∧isWs c = true) :
  Led ((fOpen bits ls j).set ((fOpen bits ls j).length - 1) ((fOpen bits ls j).getD ((fOpen bits ls j).length - 1) [] ++ q)):=by
 have hl:=(fOpen_len bits ls j).1
 intro i hi hi2
 rw [List.length_set] at hi2
 rw [getD_set _ _ _ _ (by omega)] at ⊢
 by_cases ho:(decide (j % 2 = 1) && (decide (bits / 2 ^ (j / 2) % 2 = 0) && true)) = true
 ·have e:fOpen bits ls j = ls ++ [[]]:=by unfold fOpen; rw [if_pos ho]
  have hj:j % 2 = 1:=by
   simp only [Bool.and_eq_true,decide_eq_true_eq] at ho
   exact ho.1
  rw [e] at hi2 ⊢
  have el:(ls ++ [[]]).length = ls.length + 1:=by simp
  rw [el] at hi2
  rw [el,Nat.add_sub_cancel]
  by_cases z:i = ls.length
  ·(rewrite [if_pos z,getD_app]; rewrite [if_neg (by omega)] at ⊢; rw [if_pos rfl])
   simpa using hq hj
  ·(rewrite [if_neg z,getD_app]; rw [if_pos (by omega)] at ⊢)
   exact h i hi (by omega)
 ·have e:fOpen bits ls j = ls:=by unfold fOpen; rw [if_neg ho]
  rw [e] at hi2 ⊢
  by_cases z:i = ls.length - 1
  ·rw [if_pos z]
   left;rcases h i hi hi2 with ⟨c,t,e1,e2⟩;right
   rw [z.symm,e1]
   exact ⟨c,t ++ q,rfl,e2⟩
  ·rw [if_neg z]
   exact h i hi hi2
theorem first_step (bits:Nat) (ls:List (List Nat)) (j:Nat) (q:List Nat) (h0:0 < ls.length):∃ x,
  ((fOpen bits ls j).set ((fOpen bits ls j).length - 1) ((fOpen bits ls j).getD ((fOpen bits ls j).length - 1) [] ++ q)).getD 0 [] = ls.getD 0 [] ++ x:=by
 have hl:=(fOpen_len bits ls j).1
 rw [getD_set _ _ _ _ (by omega)] at ⊢
 by_cases ho:(decide (j % 2 = 1) && (decide (bits / 2 ^ (j / 2) % 2 = 0) && true)) = true
 ·have e:fOpen bits ls j = ls ++ [[]]:=by unfold fOpen; rw [if_pos ho]
  rw [e]
  have el:(ls ++ [[]]).length = ls.length + 1:=by simp
  (rewrite [el,Nat.add_sub_cancel]; rewrite [if_neg (by omega)] at ⊢; rw [getD_app,if_pos h0])
  exact ⟨[],by simp⟩
 ·have e:fOpen bits ls j = ls:=by unfold fOpen; rw [if_neg ho]
  rw [e]
  by_cases z:0 = ls.length - 1
  ·rw [if_pos z,z.symm]; exact ⟨q,rfl⟩
  ·rw [if_neg z]; exact ⟨[],by simp⟩
theorem fAt_led (bits:Nat) (ps:List (List Nat)) (h:Alt ps):∀ j,j < ps.length→Led (fAt bits ps (j + 1))∧∃ x,(fAt bits ps (j + 1)).getD 0 [] = ps.getD 0 [] ++ x
 | 0,_ => by
  have e:fAt bits ps (0 + 1) = [ps.getD 0 []]:=by
   (rewrite [fAt]; rw [fOpen_no (by decide)] at ⊢)
   simp [fAt]
  rw [e]
  exact ⟨fun i hi hi2 => by simp at hi2; omega,[],by simp⟩
 | j + 1,hj => by
  left;rcases fAt_led bits ps h j (by omega) with ⟨i1,x,i2⟩;right
  have hb:=(fAt_bd bits ps (j + 1) (by omega)).1
  rw [fAt]
  refine ⟨led_step _ _ _ _ (by omega) i1 fun ho => ?_,?_⟩
  ·have hne:=h.2.2 (j + 1) (by omega) hj
   have hw:=h.2.1 (j + 1) hj
   cases q:ps.getD (j + 1) [] with
   | nil => exact absurd q hne
   | cons c t =>
    refine ⟨c,t,rfl,?_⟩
    (rewrite [hw c (by rw [q]; exact .head _)] at ⊢; rw [decide_eq_true ho])
  ·obtain ⟨y,hy⟩:=first_step bits (fAt bits ps (j + 1)) (j + 1) (ps.getD (j + 1) []) (by omega)
   exact ⟨x ++ y,by rw [hy,i2,List.append_assoc]⟩
theorem folded_led (p:List Nat × List Nat) (h:p.1 ∈ namesL) (bits:Nat):Led (folded (headT p) bits)∧∃ x,(folded (headT p) bits).getD 0 [] = p.1 ++ [58] ++ x:=by
 have ha:=alt_pieces (headT p)
 have hl:=ha.1
 left;rcases fAt_led bits (pieces (headT p)) ha ((pieces (headT p)).length - 1) (by omega) with ⟨q1,x,q2⟩;right
 have e:(pieces (headT p)).length - 1 + 1 = (pieces (headT p)).length:=by omega
 rw [e] at q1 q2
 exact ⟨q1,x,by rw [← first_piece p h]; exact q2⟩
end
section
noncomputable def mr:List Nat→Nat
 | [] => 0
 | c :: r => max (ldT (c :: r)).length (mr r)
theorem mr_le:∀ l:List Nat,mr l ≤ l.length
 | [] => Nat.le_refl _
 | c :: r => by
  have:=mr_le r
  have h:(ldT (c :: r)).length ≤ (c :: r).length:=(List.takeWhile_sublist _).length_le
  simp only [mr,List.length_cons] at h ⊢
  omega
theorem ld_mr:∀ l:List Nat,(ldT l).length ≤ mr l
 | [] => Nat.le_refl _
 | c :: r => by rw [mr]; omega
theorem ldT_cut (c:Nat) (hc:isWs c = false) (y:List Nat):∀ x:List Nat,ldT (x ++ c :: y) = ldT x
 | [] => by simp [ldT,hc]
 | a :: x => by
  have ih:=ldT_cut c hc y x
  unfold ldT at ih ⊢
  rw [List.cons_append,List.takeWhile_cons,List.takeWhile_cons,ih]
theorem mr_cut (c:Nat) (hc:isWs c = false) (y:List Nat):∀ x:List Nat,mr (x ++ c :: y) = max (mr x) (mr y)
 | [] => by
  show max (ldT (c :: y)).length (mr y) = _
  have:ldT (c :: y) = []:=by simp [ldT,hc]
  rw [this]; simp [mr]
 | a :: x => by
  have ih:=mr_cut c hc y x
  show max (ldT ((a :: x) ++ c :: y)).length (mr (x ++ c :: y)) = _
  rw [ldT_cut c hc y (a :: x),ih,mr]
  exact (Nat.max_assoc ..).symm
theorem mr_cons (c:Nat) (x:List Nat):mr (c :: x) ≤ 1 + mr x:=by
 have h:=ld_mr x
 have:(ldT (c :: x)).length ≤ 1 + (ldT x).length:=by
  unfold ldT
  rw [List.takeWhile_cons]
  split
  ·simp; omega
  ·simp
 rw [mr]; omega
theorem mr_part:∀ (u w v:List Nat),(∀ x ∈ w,isWs x = true)→w.length ≤ mr (u ++ w ++ v)
 | [],w,v,h => by
  have h1:=ld_mr (w ++ v)
  have:ldT (w ++ v) = w ++ ldT v:=ldT_app w v h
  rw [this,List.length_append] at h1
  rw [List.nil_append]; omega
 | a :: u,w,v,h => by
  have:=mr_part u w v h
  show w.length ≤ mr (a :: (u ++ w ++ v))
  rw [mr]; omega
theorem mr_join (m:Nat):∀ ps:List (List Nat),(∀ p ∈ ps,mr p ≤ m)→mr (32 :: joinL [59,32] ps) ≤ m + 1
 | [],_ => by
  show mr [32] ≤ _
  have:mr [32] = 1:=by decide
  omega
 | [p],h => by
  have:=h p (.head _)
  have:=mr_cons 32 p
  show mr (32 :: p) ≤ _
  omega
 | p :: q :: r,h => by
  have h1:=h p (.head _)
  have ih:=mr_join m (q :: r) fun x hx => h x (.tail _ hx)
  have e:32 :: joinL [59,32] (p :: q :: r) = (32 :: p) ++ 59 :: (32 :: joinL [59,32] (q :: r)):=by
   rw [joinL_cons2]; simp
  (rewrite [e]; rw [mr_cut 59 (by decide)] at ⊢)
  have:=mr_cons 32 p
  omega
theorem mr_hdr (r:Nat):mr (headT (hdr r)) ≤ 5:=by
 have e:headT (hdr r) = nameT r ++ 58 :: (32 :: joinL [59,32] ((ownT r).toList ++ (parT r).map partA)):=by
  show nameT r ++ [58,32] ++ joinL [59,32] ((ownT r).toList ++ (parT r).map partA) = _
  simp
 have hn:∀ l ∈ namesL,mr l = 0:=by decide
 have hk:∀ k ∈ shapes,∀ x ∈ k,mr (repL 95 [45] x) = 0:=by decide
 (rewrite [e]; rewrite [mr_cut 58 (by decide)] at ⊢; rw [hn _ (nameT_mem r)])
 have:=mr_join 4 ((ownT r).toList ++ (parT r).map partA) fun p hp => by
  rcases List.mem_append.mp hp with z | z
  ·obtain ⟨_,o2⟩:=ownT_ok r
   cases hq:ownT r with
   | none => rw [hq] at z; simp at z
   | some x =>
    rw [hq] at z o2
    simp at z; subst z
    have:=mr_le p
    simp at o2; omega
  ·left;rcases List.mem_map.mp z with ⟨⟨k,v⟩,ha,z0_⟩;right;subst z0_
   have h1:=hk _ (parT_shape r) _ (List.mem_map_of_mem (f:=(·.1)) ha)
   have h2:=(parT_ok r _ ha).2
   unfold partA
   cases v with
   | none =>
    show mr (repL 95 [45] k) ≤ 4
    have h1:mr (repL 95 [45] k) = 0:=h1
    omega
   | some v =>
    have h1:mr (repL 95 [45] k) = 0:=h1
    have h2:v.length ≤ 2:=h2
    show mr (fmtT (repL 95 [45] k) v) ≤ 4
    unfold fmtT
    split
    ·omega
    ·have e:repL 95 [45] k ++ [61,34] ++ esc v ++ [34] = repL 95 [45] k ++ 61 :: ([] ++ 34 :: (esc v ++ 34 :: [])):=by simp
     (rewrite [e]; rewrite [mr_cut 61 (by decide),mr_cut 34 (by decide),mr_cut 34 (by decide)] at ⊢; rw [h1])
     have q1:=mr_le (esc v)
     have q2:=esc_len v
     have q3:mr [] = 0:=rfl
     omega
 omega
theorem flat_part {f:List (List Nat)} {x:List Nat} (h:x ∈ f):∃ u v,f.flatten = u ++ x ++ v:=by
 left;rcases List.append_of_mem h with ⟨a,b,z0_⟩;right;subst z0_
 exact ⟨a.flatten,b.flatten,by simp⟩
theorem fold_row (r bits:Nat) (x:List Nat) (h:x ∈ folded (headT (hdr r)) bits):(ldT x).length ≤ 5:=by
 left;rcases flat_part h with ⟨u,v,e⟩;right
 rw [folded_flat] at e
 have e2:u ++ x ++ v = u ++ ldT x ++ (rsT x ++ v):=by
  have:x = ldT x ++ rsT x:=(List.takeWhile_append_dropWhile (p:=isWs) (l:=x)).symm
  conv => lhs; rw [this]
  simp
 have:=mr_part u (ldT x) (rsT x ++ v) (ldT_ws x)
 rw [← e2,← e] at this
 have:=mr_hdr r
 omega
end
section
theorem folds_at {rs:List Nat} {k r:Nat} (h:rs[k]? = some r):(foldsN rs).getD k [] = folded (headT (hdr r)) (r / 4194304 % 256):=by
 unfold foldsN
 (rewrite [List.getD_eq_getElem?_getD,List.getElem?_map] at ⊢; rw [h]); rfl
theorem ok_badV:∀ x ∈ okL,badV x = false:=by decide
theorem ok_bad {l:List Nat} (h:∀ x ∈ l,x ∈ okL):Bad badV (S l) = false:=by
 unfold Bad
 rw [List.any_eq_false]
 intro x hx
 rw [ok_badV x (h x hx)]
 decide
theorem sep_bad (k:Nat):∃ c t,sepL k = c :: t∧badV c = true:=by
 unfold sepL
 have:∀ m < 3,∃ c t,(([[13,10],[13],[10]]:List (List Nat)).getD m []) = c :: t∧badV c = true:=by
  intro m hm
  have:m = 0 ∨ m = 1 ∨ m = 2:=by omega
  rcases this with rfl | rfl | rfl
  ·exact ⟨13,[10],rfl,by decide⟩
  ·exact ⟨13,[],rfl,by decide⟩
  ·exact ⟨10,[],rfl,by decide⟩
 exact this _ (Nat.mod_lt _ (by decide))
theorem tried_same (k r bits:Nat):toldT k r (folded (headT (hdr r)) bits) = dueT r (folded (headT (hdr r)) bits):=by
 have hn:(hdr r).1 ∈ namesL:=nameT_mem r
 left;rcases folded_led (hdr r) hn bits with ⟨_,x,h0⟩;right
 have hfl:=folded_flat (headT (hdr r)) bits
 have hok:=hdr_ok r
 have hb:=(folded_bd (headT (hdr r)) bits).1
 generalize folded (headT (hdr r)) bits = f at h0 hfl hb
 cases f with
 | nil => simp at hb
 | cons a rest =>
  have ha0:a = nameT r ++ [58] ++ x:=h0
  cases rest with
  | nil =>
   have ha:a = headT (hdr r):=by simpa using hfl
   have ev:toldV k r [a] = dueV r:=by
    show a.drop _ = _
    rw [ha]; rfl
   unfold toldT dueT
   rw [ev]
   have hb:Bad badV (S (dueV r)) = false:=ok_bad fun y hy => hok y (List.mem_of_mem_drop hy)
   rw [hb]
   rfl
  | cons b rest =>
   left;rcases sep_bad k with ⟨c,t,hs,hc⟩;right
   have hbad:Bad badV (S (toldV k r (a :: b :: rest))) = true:=by
    unfold Bad
    rw [List.any_eq_true]
    refine ⟨c,?_,hc⟩
    show c ∈ (joinL (sepL k) (a :: b :: rest)).drop ((nameT r).length + 1)
    (rewrite [joinL_cons2,hs,ha0,List.append_assoc,List.append_assoc]; rw [List.drop_left' (by simp)] at ⊢)
    simp
   unfold toldT dueT
   rw [hbad]
   rfl
theorem tried_all (rs:List Nat):∀ k,k ≤ rs.length→toldL rs k = dueL rs k
 | 0,_ => rfl
 | k + 1,h => by
  have ih:=tried_all rs k (by omega)
  have e:rs[k]? = some (rs.getD k 0):=by rw [List.getD_eq_getElem?_getD,List.getElem?_eq_getElem (by omega)] at ⊢; rfl
  rw [toldL,dueL,ih,folds_at e,tried_same]
end
section
theorem leads_two:∀ d < 32,∀ i < 2,((leadsL d).getD i []).length ≤ 4:=by decide +kernel
theorem drawn_lt (ns:List Int):drawnN ns < 32:=by unfold drawnN; omega
noncomputable def lineP (rs:List Nat) (ns:List Int) (i j:Nat):List Nat:=(leadsL (drawnN ns)).getD (drawAt i j (rs.getD i 0)) [] ++ ((foldsN rs).getD i []).getD j []
noncomputable def leadP (rs:List Nat) (ns:List Int) (i j:Nat):List Nat:=(leadsL (drawnN ns)).getD (drawAt i j (rs.getD i 0)) []
theorem draw_lt {rs:List Nat} (h8:∀ r ∈ rs,r / 1073741824 < 8) {i:Nat} (hi:i < rs.length) (j:Nat):drawAt i j (rs.getD i 0) < 8:=by
 have:=h8 _ (getD_mem (l:=rs) (d:=0) hi)
 unfold drawAt
 split
 ·exact this
 ·omega
theorem draw_two (i r:Nat) {j:Nat} (hj:0 < j):drawAt i j r < 2:=by
 unfold drawAt
 rw [if_neg (by omega)] at ⊢
 omega
theorem names_ld:∀ a ∈ namesL,a ≠ []∧∀ x ∈ a,isWs x = false:=by decide
theorem ld_name {a:List Nat} (h:a ∈ namesL) (x:List Nat):ldT (a ++ x) = []:=by
 obtain ⟨h1,h2⟩:=names_ld _ h
 cases a with
 | nil => exact absurd rfl h1
 | cons c t =>
  unfold ldT
  rw [List.cons_append,List.takeWhile_cons,h2 c (.head _)]
  rfl
theorem rs_name {a:List Nat} (h:a ∈ namesL) (x:List Nat):rsT (a ++ x) = a ++ x:=by
 have e:a ++ x = ldT (a ++ x) ++ rsT (a ++ x):=(List.takeWhile_append_dropWhile (p:=isWs) (l:=a ++ x)).symm
 rw [ld_name h,List.nil_append] at e
 exact e.symm
theorem fold_at {rs:List Nat} {i:Nat} (hi:i < rs.length):(foldsN rs).getD i [] = folded (headT (hdr (rs.getD i 0))) (rs.getD i 0 / 4194304 % 256):=
 folds_at (by rw [List.getD_eq_getElem?_getD,List.getElem?_eq_getElem hi] at ⊢; rfl)
theorem ld_first {rs:List Nat} {i:Nat} (hi:i < rs.length):ldT (((foldsN rs).getD i []).getD 0 []) = []∧rsT (((foldsN rs).getD i []).getD 0 []) = ((foldsN rs).getD i []).getD 0 []:=by
 rw [fold_at hi]
 left;rcases folded_led (hdr (rs.getD i 0)) (nameT_mem _) (rs.getD i 0 / 4194304 % 256) with ⟨_,x,h0⟩;right
 rw [h0,List.append_assoc]
 exact ⟨ld_name (nameT_mem _) _,rs_name (nameT_mem _) _⟩
theorem leadP_ws {rs:List Nat} (ns:List Int) (h8:∀ r ∈ rs,r / 1073741824 < 8) {i:Nat} (hi:i < rs.length) (j:Nat):(∀ x ∈ leadP rs ns i j,isWs x = true)∧(leadP rs ns i j).length ≤ 9:=
 leads_ws _ (drawn_lt ns) _ (draw_lt h8 hi j)
theorem ld_line0 {rs:List Nat} (ns:List Int) (h8:∀ r ∈ rs,r / 1073741824 < 8) {i:Nat} (hi:i < rs.length):ldT (lineP rs ns i 0) = leadP rs ns i 0:=by
 have:=ldT_app (leadP rs ns i 0) (((foldsN rs).getD i []).getD 0 []) (leadP_ws ns h8 hi 0).1
 rw [(ld_first hi).1,List.append_nil] at this
 exact this
theorem ld_lineS {rs:List Nat} (ns:List Int) (h8:∀ r ∈ rs,r / 1073741824 < 8) {i j:Nat} (hi:i < rs.length) (hj:0 < j) (hj2:j < ((foldsN rs).getD i []).length) :
  ∃ w,ldT (lineP rs ns i j) = leadP rs ns i j ++ w∧w ≠ []∧w.length ≤ 5:=by
 refine ⟨ldT (((foldsN rs).getD i []).getD j []),ldT_app (leadP rs ns i j) _ (leadP_ws ns h8 hi j).1,?_,?_⟩
 ·rw [fold_at hi] at hj2 ⊢
  left;rcases (folded_led (hdr (rs.getD i 0)) (nameT_mem _) (rs.getD i 0 / 4194304 % 256)).1 j hj hj2 with ⟨c,t,e,hc⟩;right
  rw [e]
  unfold ldT
  rw [List.takeWhile_cons,hc]
  simp
 ·rw [fold_at hi] at hj2 ⊢
  exact fold_row _ _ _ (getD_mem hj2)
theorem rs_line {rs:List Nat} (ns:List Int) (h8:∀ r ∈ rs,r / 1073741824 < 8) {i:Nat} (hi:i < rs.length) (j:Nat):rsT (lineP rs ns i j) = rsT (((foldsN rs).getD i []).getD j []):=
 rsT_app (leadP rs ns i j) _ (leadP_ws ns h8 hi j).1
theorem lrun_line {rs:List Nat} (ns:List Int) (h8:∀ r ∈ rs,r / 1073741824 < 8) {i j:Nat} (hi:i < rs.length) (hj2:j < ((foldsN rs).getD i []).length):lrun (lineP rs ns i j) ≤ 9:=by
 refine Nat.le_trans (lrun_le _) ?_
 cases j with
 | zero =>
  rw [ld_line0 ns h8 hi]
  exact (leadP_ws ns h8 hi 0).2
 | succ j =>
  left;rcases ld_lineS ns h8 hi (Nat.succ_pos j) hj2 with ⟨w,e,_,hw⟩;right
  have e:ldT (lineP rs ns i (j + 1)) = leadP rs ns i (j + 1) ++ w:=e
  have:(leadP rs ns i (j + 1)).length ≤ 4:=leads_two _ (drawn_lt ns) _ (draw_two _ _ (Nat.succ_pos j))
  rw [e,List.length_append]
  omega
theorem deep_line {rs:List Nat} (ns:List Int) (h8:∀ r ∈ rs,r / 1073741824 < 8) {i j:Nat} (hi:i < rs.length) (hj:0 < j) (hj2:j < ((foldsN rs).getD i []).length) (x:Nat):indW (lineP rs ns 0 0) x < indW (lineP rs ns i j) x:=by
 left;rcases ld_lineS ns h8 hi hj hj2 with ⟨w,e,hne,_⟩;right
 have h0:ldT (lineP rs ns 0 0) = (leadsL (drawnN ns)).getD 1 []:=ld_line0 ns h8 (Nat.lt_of_le_of_lt (Nat.zero_le i) hi)
 rw [indW_col,indW_col,e,h0]
 have ht:∀ d,((1 + (d:Nat):Nat):Int) = 1 + (d:Int):=fun d => by omega
 have hd:=colD_deeper (1 + x) (by omega) (leadP rs ns i j) w hne
 rw [ht] at hd
 refine Int.lt_of_le_of_lt (Int.le_of_eq ?_) hd
 have hdr:=draw_two i (rs.getD i 0) hj
 have hl:leadP rs ns i j = (leadsL (drawnN ns)).getD (drawAt i j (rs.getD i 0)) []:=rfl
 rw [hl]
 have:drawAt i j (rs.getD i 0) = 0 ∨ drawAt i j (rs.getD i 0) = 1:=by omega
 rcases this with q | q
 ·rw [q]
  have h1:=eqW_ind (turned_same _ (drawn_lt ns)) x
  rw [indW_col,indW_col,ldT_self _ (leads_ws _ (drawn_lt ns) 1 (by decide)).1,ldT_self _ (leads_ws _ (drawn_lt ns) 0 (by decide)).1] at h1
  exact h1
 ·rw [q]
theorem alike {rs:List Nat} (ns:List Int) (h8:∀ r ∈ rs,r / 1073741824 < 8) {i j:Nat} (hi:i < rs.length) (hj2:j < ((foldsN rs).getD i []).length) (h00:0 < ((foldsN rs).getD 0 []).length) :
  eqW (lineP rs ns 0 0) (lineP rs ns i j) = eqT (ldT (lineP rs ns 0 0)) (ldT (lineP rs ns i j)) ∧
  lessW (lineP rs ns 0 0) (lineP rs ns i j) = decide (overN (ldT (lineP rs ns 0 0)) (ldT (lineP rs ns i j)) = []) ∧
  witW (lineP rs ns 0 0) (lineP rs ns i j) = overW (ldT (lineP rs ns 0 0)) (ldT (lineP rs ns i j)) ∧
  (0 < j→eqW (lineP rs ns 0 0) (lineP rs ns i j) = false∧lessW (lineP rs ns 0 0) (lineP rs ns i j) = true):=by
 have h0:0 < rs.length:=Nat.lt_of_le_of_lt (Nat.zero_le i) hi
 have hm:max (lrun (lineP rs ns 0 0)) (lrun (lineP rs ns i j)) ≤ 9:=by
  have:=lrun_line ns h8 h0 h00
  have:=lrun_line ns h8 hi hj2
  omega
 refine ⟨?_,less_over _ _ hm,wit_over _ _ hm,fun hj => ?_⟩
 ·cases j with
  | zero =>
   have e0:ldT (lineP rs ns 0 0) = (leadsL (drawnN ns)).getD 1 []:=ld_line0 ns h8 h0
   have e1:ldT (lineP rs ns i 0) = (leadsL (drawnN ns)).getD (drawAt i 0 (rs.getD i 0)) []:=ld_line0 ns h8 hi
   have hd:=draw_lt h8 hi 0
   have s1:=ldT_self _ (leads_ws _ (drawn_lt ns) 1 (by decide)).1
   have s2:=ldT_self _ (leads_ws _ (drawn_lt ns) _ hd).1
   have hf:=first_alike _ (drawn_lt ns) _ hd
   rw [e0,e1,hf.symm]
   exact eqW_congr (e0.trans s1.symm) (e1.trans s2.symm)
  | succ j =>
   left;rcases deeper_alike _ _ hm fun x => deep_line ns h8 hi (Nat.succ_pos j) hj2 x with ⟨q1,q2,_,_⟩;right
   rw [q1,q2]
 ·left;rcases deeper_alike _ _ hm fun x => deep_line ns h8 hi hj hj2 x with ⟨q1,_,q3,_⟩;right
  exact ⟨q1,q3⟩
end
section
noncomputable def rdS (p:List Nat) (hs:List (List Nat)) (l:List Nat):List (List Nat):=if eqW p l then hs ++ [hdW l] else hs.set (hs.length - 1) (hs.getD (hs.length - 1) [] ++ [32] ++ hdW l)
theorem readTo_fold (p:List Nat) (ls:List (List Nat)):∀ j,j ≤ ls.length→readTo p ls j = (ls.take j).foldl (rdS p) []
 | 0,_ => rfl
 | j + 1,h => by
  have ih:=readTo_fold p ls j (by omega)
  have e:ls[j]? = some (ls.getD j []):=by rw [List.getD_eq_getElem?_getD,List.getElem?_eq_getElem (by omega)] at ⊢; rfl
  rw [readTo,ih,List.take_add_one,e,List.foldl_append]
  rfl
theorem set_last (A:List (List Nat)) (y z:List Nat):(A ++ [y]).set ((A ++ [y]).length - 1) z = A ++ [z]:=by
 have:(A ++ [y]).length - 1 = A.length:=by simp
 rw [this,List.set_append_right _ _ (Nat.le_refl _),Nat.sub_self]
 rfl
theorem get_last (A:List (List Nat)) (y:List Nat):(A ++ [y]).getD ((A ++ [y]).length - 1) [] = y:=by
 have:(A ++ [y]).length - 1 = A.length:=by simp
 (rewrite [this,getD_app]; rewrite [if_neg (by omega)] at ⊢; rw [if_pos rfl])
theorem rdS_more {p l:List Nat} (h:eqW p l = false) (A:List (List Nat)) (y:List Nat):rdS p (A ++ [y]) l = A ++ [y ++ [32] ++ hdW l]:=by
 unfold rdS
 (rewrite [if_neg (by rw [h]; decide)] at ⊢; rw [set_last,get_last])
noncomputable def hlT (f:List (List Nat)):Nat→List Nat
 | 0 => f.getD 0 []
 | j + 1 => hlT f j ++ [32] ++ rsT (f.getD (j + 1) [])
theorem rs_len (x:List Nat):(rsT x).length ≤ x.length:=(List.dropWhile_sublist _).length_le
theorem take_succ_getD (f:List (List Nat)) {j:Nat} (h:j < f.length):f.take (j + 1) = f.take j ++ [f.getD j []]:=by
 (rewrite [List.take_add_one]; rw [List.getElem?_eq_getElem h,List.getD_eq_getElem?_getD,List.getElem?_eq_getElem h] at ⊢); rfl
theorem sumLen_app (a b:List (List Nat)):sumLen (a ++ b) = sumLen a + sumLen b:=by simp [sumLen]
theorem hlT_len (f:List (List Nat)):∀ j,j < f.length→(hlT f j).length ≤ sumLen (f.take (j + 1)) + j
 | 0,h => by
  rw [take_succ_getD f h,sumLen_app]
  simp [hlT,sumLen]
 | j + 1,h => by
  have ih:=hlT_len f j (by omega)
  have:=rs_len (f.getD (j + 1) [])
  rw [take_succ_getD f h,sumLen_app]
  have e:sumLen [f.getD (j + 1) []] = (f.getD (j + 1) []).length:=by simp [sumLen]
  rw [e,hlT]
  simp only [List.length_append,List.length_cons,List.length_nil]
  omega
theorem hlT_mem (f:List (List Nat)) {x:Nat}:∀ j,j < f.length→x ∈ hlT f j→x = 32 ∨ x ∈ f.flatten
 | 0,h,q => .inr (List.mem_flatten.mpr ⟨_,getD_mem h,q⟩)
 | j + 1,h,q => by
  rw [hlT] at q
  rcases List.mem_append.mp q with q | q
  ·rcases List.mem_append.mp q with q | q
   ·exact hlT_mem f j (by omega) q
   ·refine .inl ?_; simpa using q
  ·exact .inr (List.mem_flatten.mpr ⟨_,getD_mem h,(List.dropWhile_sublist _).subset q⟩)
theorem hlT_pre (f:List (List Nat)):∀ j,∃ y,hlT f (j + 1) = f.getD 0 [] ++ [32] ++ y
 | 0 => ⟨_,rfl⟩
 | j + 1 => by
  obtain ⟨y,e⟩:=hlT_pre f j
  exact ⟨y ++ [32] ++ rsT (f.getD (j + 1 + 1) []),by rw [hlT,e]; simp⟩
theorem hlT_head (r bits:Nat):∃ v,hlT (folded (headT (hdr r)) bits) ((folded (headT (hdr r)) bits).length - 1) = headT (nameT r,v)∧(∀ x ∈ v,x ∈ okL)∧v.length ≤ 145:=by
 have hn:(hdr r).1 ∈ namesL:=nameT_mem r
 left;rcases folded_led (hdr r) hn bits with ⟨_,x,h0⟩;right
 have h0:(folded (headT (hdr r)) bits).getD 0 [] = nameT r ++ [58] ++ x:=h0
 have hfl:=folded_flat (headT (hdr r)) bits
 left;rcases folded_bd (headT (hdr r)) bits with ⟨b1,b2,_⟩;right
 have hsum:=fold_sum (headT (hdr r)) bits
 have hok:=hdr_ok r
 have h70:=(headT_len r).1
 have hlen:=hlT_len (folded (headT (hdr r)) bits) ((folded (headT (hdr r)) bits).length - 1) (by omega)
 have hmem:=fun x => hlT_mem (folded (headT (hdr r)) bits) (x:=x) ((folded (headT (hdr r)) bits).length - 1) (by omega)
 have hst:=sumLen_take (folded (headT (hdr r)) bits) ((folded (headT (hdr r)) bits).length - 1 + 1)
 rw [hfl] at hmem
 have hline:headT (hdr r) = nameT r ++ [58] ++ 32 :: (hdr r).2:=by
  show nameT r ++ [58,32] ++ (hdr r).2 = _
  simp
 have key:∃ v,hlT (folded (headT (hdr r)) bits) ((folded (headT (hdr r)) bits).length - 1) = nameT r ++ [58] ++ 32 :: v:=by
  generalize folded (headT (hdr r)) bits = f at h0 hfl b1
  cases f with
  | nil => simp at b1
  | cons a rest =>
   have ha0:a = nameT r ++ [58] ++ x:=h0
   cases rest with
   | nil =>
    have ha:a = headT (hdr r):=by simpa using hfl
    exact ⟨(hdr r).2,by rw [← hline,ha.symm]; rfl⟩
   | cons b rest =>
    obtain ⟨y,hy⟩:=hlT_pre (a :: b :: rest) ((a :: b :: rest).length - 2)
    have e:(a :: b :: rest).length - 2 + 1 = (a :: b :: rest).length - 1:=by simp
    rw [e] at hy
    have hy:_ = a ++ [32] ++ y:=hy
    rw [hy,ha0]
    cases x with
    | nil => exact ⟨y,by simp⟩
    | cons c t =>
     have hc:c = 32:=by
      rw [List.flatten_cons,ha0,hline,List.append_assoc] at hfl
      have:=List.append_cancel_left hfl
      simp at this
      exact this.1
     subst hc
     exact ⟨t ++ [32] ++ y,by simp⟩
 obtain ⟨v,hv⟩:=key
 refine ⟨v,by rw [hv]; show _ = nameT r ++ [58,32] ++ v; simp,fun x hx => ?_,?_⟩
 ·rcases hmem x (by rw [hv]; simp [hx]) with rfl | z
  ·decide
  ·exact hok x z
 ·rw [hv] at hlen
  simp only [List.length_append,List.length_cons,List.length_nil] at hlen
  omega
end
section
noncomputable def pg (rs:List Nat) (ns:List Int) (k:Nat):List (List Nat):=pageTo (drawnN ns) (foldsN rs) rs k
theorem pg_succ (rs:List Nat) (ns:List Int) (k:Nat):pg rs ns (k + 1) = pg rs ns k ++ (List.range ((foldsN rs).getD k []).length).map (lineP rs ns k):=pageTo_succ _ _ _ _
theorem fold_pos {rs:List Nat} {k:Nat} (h:k < rs.length):0 < ((foldsN rs).getD k []).length:=by
 rw [fold_at h]
 exact (folded_bd _ _).1
theorem row_fold {rs:List Nat} (ns:List Int) (h8:∀ r ∈ rs,r / 1073741824 < 8) {k:Nat} (hk:k < rs.length) {hs A:List (List Nat)} {B:List Nat} (h0:rdS (lineP rs ns 0 0) hs (lineP rs ns k 0) = A ++ [B ++ ((foldsN rs).getD k []).getD 0 []]) :
  ∀ j,j < ((foldsN rs).getD k []).length→((List.range (j + 1)).map (lineP rs ns k)).foldl (rdS (lineP rs ns 0 0)) hs = A ++ [B ++ hlT ((foldsN rs).getD k []) j]
 | 0,_ => h0
 | j + 1,hj => by
  have ih:=row_fold ns h8 hk h0 j (by omega)
  have hq:=(alike ns h8 hk hj (fold_pos (Nat.lt_of_le_of_lt (Nat.zero_le k) hk))).2.2.2 (Nat.succ_pos j)
  rw [List.range_succ,List.map_append,List.foldl_append,ih]
  show rdS _ (A ++ [B ++ hlT _ j]) (lineP rs ns k (j + 1)) = _
  rw [rdS_more hq.1,hdW_eq]
  have e:(lineP rs ns k (j + 1)).dropWhile isWs = rsT (((foldsN rs).getD k []).getD (j + 1) []):=rs_line ns h8 hk (j + 1)
  rw [e,hlT]
  simp
structure Good (k:Nat) (ps:List (List Nat × List Nat)):Prop where
 len:ps.length ≤ k
 pos:0 < k→0 < ps.length
 each:∀ p ∈ ps,p.1 ∈ namesL∧(∀ x ∈ p.2,x ∈ okL)∧p.2.length ≤ 200 * k
theorem heads_row {rs:List Nat} (ns:List Int) (h8:∀ r ∈ rs,r / 1073741824 < 8):∀ k,k ≤ rs.length→∃ ps,(pg rs ns k).foldl (rdS (lineP rs ns 0 0)) [] = ps.map headT∧Good k ps
 | 0,_ => ⟨[],rfl,Nat.le_refl _,fun h => by omega,fun p hp => by cases hp⟩
 | k + 1,hk => by
  left;rcases heads_row ns h8 k (by omega) with ⟨ps,hps,g⟩;right
  have hk':k < rs.length:=hk
  have hpos:=fold_pos hk'
  left;rcases hlT_head (rs.getD k 0) (rs.getD k 0 / 4194304 % 256) with ⟨v,hv,v1,v2⟩;right
  rw [← fold_at hk'] at hv
  have hj:((foldsN rs).getD k []).length - 1 + 1 = ((foldsN rs).getD k []).length:=by omega
  have hhd:hdW (lineP rs ns k 0) = ((foldsN rs).getD k []).getD 0 []:=by
   rw [hdW_eq]
   exact (rs_line ns h8 hk' 0).trans (ld_first hk').2
  have hmore:∀ p ∈ ps,p.1 ∈ namesL∧(∀ x ∈ p.2,x ∈ okL)∧p.2.length ≤ 200 * (k + 1):=fun p hp => by
   left;rcases g.each p hp with ⟨a,b,d⟩;right
   exact ⟨a,b,by omega⟩
  rw [pg_succ,List.foldl_append,hps]
  cases hq:eqW (lineP rs ns 0 0) (lineP rs ns k 0) with
  | true =>
   have h0:rdS (lineP rs ns 0 0) (ps.map headT) (lineP rs ns k 0) = ps.map headT ++ [[] ++ ((foldsN rs).getD k []).getD 0 []]:=by
    unfold rdS
    rw [if_pos hq,hhd]; rfl
   have:=row_fold ns h8 hk' h0 _ (Nat.sub_lt hpos Nat.one_pos)
   rw [hj] at this
   rw [this,hv]
   refine ⟨ps ++ [(nameT (rs.getD k 0),v)],by simp,by have:=g.len; simp; omega,fun _ => by simp,fun p hp => ?_⟩
   rcases List.mem_append.mp hp with z | z
   ·exact hmore p z
   ·simp at z; subst z
    exact ⟨nameT_mem _,v1,by dsimp only; omega⟩
  | false =>
   have hk0:0 < k:=by
    cases k with
    | zero => rw [eqW_self] at hq; cases hq
    | succ k => omega
   obtain ⟨qs,q,rfl⟩:∃ qs q,ps = qs ++ [q]:=⟨ps.dropLast,ps.getLast (List.length_pos_iff.mp (g.pos hk0)),(List.dropLast_concat_getLast _).symm⟩
   have h0:rdS (lineP rs ns 0 0) ((qs ++ [q]).map headT) (lineP rs ns k 0) = qs.map headT ++ [(headT q ++ [32]) ++ ((foldsN rs).getD k []).getD 0 []]:=by
    rw [List.map_append]
    show rdS _ (qs.map headT ++ [headT q]) _ = _
    rw [rdS_more hq,hhd]
   have:=row_fold ns h8 hk' h0 _ (Nat.sub_lt hpos Nat.one_pos)
   rw [hj] at this
   rw [this,hv]
   left;rcases g.each q (by simp) with ⟨g1,g2,g3⟩;right
   have hname:∀ x ∈ nameT (rs.getD k 0),x ∈ okL:=by
    have hnames:∀ l ∈ namesL,∀ x ∈ l,x ∈ okL:=by decide
    exact hnames _ (nameT_mem _)
   have hnl:=(names_ok _ (nameT_mem (rs.getD k 0))).1
   refine ⟨qs ++ [(q.1,q.2 ++ [32] ++ headT (nameT (rs.getD k 0),v))],?_,by have:=g.len; simp at this ⊢; omega,fun _ => by simp,fun p hp => ?_⟩
   ·rw [List.map_append]
    congr 1
    show [_] = [q.1 ++ [58,32] ++ (q.2 ++ [32] ++ headT (nameT (rs.getD k 0),v))]
    have:headT q = q.1 ++ [58,32] ++ q.2:=rfl
    rw [this]
    simp
   ·rcases List.mem_append.mp hp with z | z
    ·exact hmore p (by simp [z])
    ·have z:=List.mem_singleton.mp z
     subst z
     refine ⟨g1,fun x hx => ?_,?_⟩
     ·have hx:x ∈ q.2 ++ [32] ++ (nameT (rs.getD k 0) ++ [58,32] ++ v):=hx
      simp only [List.mem_append,List.mem_cons,List.mem_nil_iff,or_false] at hx
      rcases hx with (hx | rfl) | ((hx | (rfl | rfl)) | hx)
      ·exact g2 x hx
      ·decide
      ·exact hname x hx
      ·decide
      ·decide
      ·exact v1 x hx
     ·show (q.2 ++ [32] ++ (nameT (rs.getD k 0) ++ [58,32] ++ v)).length ≤ _
      simp only [List.length_append,List.length_cons,List.length_nil]
      omega
end
section
theorem pg_at (rs:List Nat) (ns:List Int):∀ k n,n < (pg rs ns k).length→∃ i j,i < k∧j < ((foldsN rs).getD i []).length∧n = (pg rs ns i).length + j∧(pg rs ns k).getD n [] = lineP rs ns i j
 | 0,n,h => by simp [pg,pageTo] at h
 | k + 1,n,h => by
  rw [pg_succ] at h ⊢
  by_cases hn:n < (pg rs ns k).length
  ·left;rcases pg_at rs ns k n hn with ⟨i,j,h1,h2,h3,h4⟩;right
   refine ⟨i,j,by omega,h2,h3,?_⟩
   (rewrite [h4.symm]; rw [List.getD_eq_getElem?_getD,List.getElem?_append_left hn,← List.getD_eq_getElem?_getD] at ⊢)
  ·simp only [List.length_append,List.length_map,List.length_range] at h
   refine ⟨k,n - (pg rs ns k).length,by omega,by omega,by omega,?_⟩
   rw [List.getD_eq_getElem?_getD,List.getElem?_append_right (by omega),List.getElem?_map,List.getElem?_range (by omega)] at ⊢
   rfl
theorem pg_take (rs:List Nat) (ns:List Int) {i:Nat}:∀ k,i ≤ k→(pg rs ns k).take (pg rs ns i).length = pg rs ns i
 | 0,h => by
  have:i = 0:=by omega
  subst this; exact List.take_length
 | k + 1,h => by
  by_cases e:i = k + 1
  ·subst e; exact List.take_length
  ·have ih:=pg_take rs ns (i:=i) k (by omega)
   have hl:(pg rs ns i).length ≤ (pg rs ns k).length:=by
    have:=congrArg List.length ih
    rw [List.length_take] at this
    omega
   rw [pg_succ,List.take_append_of_le_length hl]
   exact ih
theorem pg_pos {rs:List Nat} (ns:List Int) {i:Nat} (hi:i < rs.length):0 < (pg rs ns (i + 1)).length:=by
 rw [pg_succ]
 have:=fold_pos hi
 simp only [List.length_append,List.length_map,List.length_range]
 omega
theorem page_zero {rs:List Nat} (ns:List Int) (h0:0 < rs.length):(pg rs ns rs.length).getD 0 [] = lineP rs ns 0 0:=by
 have hl:0 < (pg rs ns rs.length).length:=by
  have:=pg_pos (rs:=rs) ns (i:=rs.length - 1) (by omega)
  have e:rs.length - 1 + 1 = rs.length:=by omega
  rwa [e] at this
 left;rcases pg_at rs ns rs.length 0 hl with ⟨i,j,h1,h2,h3,h4⟩;right
 have hi:i = 0:=by
  cases i with
  | zero => rfl
  | succ i =>
   have:=pg_pos (rs:=rs) ns (i:=i) (by omega)
   omega
 subst hi
 have hj:j = 0:=by omega
 subst hj
 exact h4
theorem find_congr {α:Type} {f g:α→Bool}:∀ {l:List α},(∀ x ∈ l,f x = g x)→l.find? f = l.find? g
 | [],_ => rfl
 | a :: r,h => by
  (rewrite [List.find?_cons,List.find?_cons] at ⊢; rewrite [h a (.head _)]; rw [find_congr fun x hx => h x (.tail _ hx)] at ⊢)
theorem readD_none {ls:List (List Nat)} {p:List Nat} (hp:ls.getD 0 [] = p) (hf:(List.range ls.length).find? (fun j => !(okW p (ls.getD j []))) = none):readD ls = .tup [.lst (strsD (readTo p ls ls.length)),.none]:=by
 subst hp; unfold readD; rw [hf]
theorem readD_some {ls:List (List Nat)} {p:List Nat} {N:Nat} (hp:ls.getD 0 [] = p) (hf:(List.range ls.length).find? (fun j => !(okW p (ls.getD j []))) = some N):readD ls = .tup [.lst (strsD (readTo p ls N)),.tup [.int (N:Int),.str (fwT (witW p (ls.getD N [])))]]:=by
 subst hp; unfold readD; rw [hf]
theorem takenD_none {ls:List (List Nat)} {p:List Nat} (hp:ls.getD 0 [] = p) (hf:(List.range ls.length).find? (fun j => !(okT (ldT p) (ldT (ls.getD j [])))) = none):takenD ls = .tup [.lst (strsD (takenTo (ldT p) ls ls.length)),.none]:=by
 subst hp; unfold takenD; rw [hf]
theorem takenD_some {ls:List (List Nat)} {p:List Nat} {N:Nat} (hp:ls.getD 0 [] = p) (hf:(List.range ls.length).find? (fun j => !(okT (ldT p) (ldT (ls.getD j [])))) = some N):takenD ls = .tup [.lst (strsD (takenTo (ldT p) ls N)),.tup [.int (N:Int),.str (fwT (overW (ldT p) (ldT (ls.getD N []))))]]:=by
 subst hp; unfold takenD; rw [hf]
theorem to_same {p:List Nat} {ls:List (List Nat)} (h:∀ n,n < ls.length→eqW p (ls.getD n []) = eqT (ldT p) (ldT (ls.getD n []))):∀ j,j ≤ ls.length→readTo p ls j = takenTo (ldT p) ls j
 | 0,_ => rfl
 | j + 1,hj => by
  (rewrite [readTo,takenTo]; rewrite [to_same h j (by omega),h j (by omega)] at ⊢; rw [hdW_eq])
  rfl
theorem read_taken {rs:List Nat} (ns:List Int) (h0:0 < rs.length) (h8:∀ r ∈ rs,r / 1073741824 < 8):∃ (k:Nat) (ps:List (List Nat × List Nat)) (stop:D),k ≤ rs.length∧Good k ps ∧
  readD (pageL rs ns) = .tup [.lst (strsD (ps.map headT)),stop]∧takenD (pageL rs ns) = .tup [.lst (strsD (ps.map headT)),stop]∧(stop = .none ∨ ∃ (N:Nat) (is:List Int),stop = .tup [.int (N:Int),.str (fwT is)]):=by
 have hp:=page_zero ns h0
 have hat:=pg_at rs ns rs.length
 have htk:=fun i => pg_take rs ns (i:=i) rs.length
 show ∃ (k:Nat) (ps:List (List Nat × List Nat)) (stop:D),k ≤ rs.length∧Good k ps∧readD (pg rs ns rs.length) = _∧takenD (pg rs ns rs.length) = _∧_
 have hal:∀ n,n < (pg rs ns rs.length).length→eqW (lineP rs ns 0 0) ((pg rs ns rs.length).getD n []) = eqT (ldT (lineP rs ns 0 0)) (ldT ((pg rs ns rs.length).getD n [])) ∧
   okW (lineP rs ns 0 0) ((pg rs ns rs.length).getD n []) = okT (ldT (lineP rs ns 0 0)) (ldT ((pg rs ns rs.length).getD n [])) ∧
   witW (lineP rs ns 0 0) ((pg rs ns rs.length).getD n []) = overW (ldT (lineP rs ns 0 0)) (ldT ((pg rs ns rs.length).getD n [])) ∧
   (okW (lineP rs ns 0 0) ((pg rs ns rs.length).getD n []) = false→∃ i,i < rs.length∧n = (pg rs ns i).length):=fun n hn => by
  left;rcases hat n hn with ⟨i,j,h1,h2,h3,h4⟩;right
  left;rcases alike ns h8 h1 h2 (fold_pos h0) with ⟨a1,a2,a3,a4⟩;right
  rw [h4]
  refine ⟨a1,by unfold okW okT; rw [a1,a2],a3,fun q => ⟨i,h1,?_⟩⟩
  by_cases hj:0 < j
  ·exfalso
   unfold okW at q
   rw [(a4 hj).2] at q
   simp at q
  ·omega
 have hto:=to_same fun n hn => (hal n hn).1
 have hfd:(List.range (pg rs ns rs.length).length).find? (fun j => !(okW (lineP rs ns 0 0) ((pg rs ns rs.length).getD j []))) = (List.range (pg rs ns rs.length).length).find? (fun j => !(okT (ldT (lineP rs ns 0 0)) (ldT ((pg rs ns rs.length).getD j [])))):=
  find_congr fun x hx => by rw [(hal x (by simpa using hx)).2.1] at ⊢
 cases hf:(List.range (pg rs ns rs.length).length).find? (fun j => !(okW (lineP rs ns 0 0) ((pg rs ns rs.length).getD j []))) with
 | none =>
  left;rcases heads_row ns h8 rs.length (Nat.le_refl _) with ⟨ps,hps,g⟩;right
  have e:=readTo_fold (lineP rs ns 0 0) (pg rs ns rs.length) _ (Nat.le_refl _)
  rw [List.take_length,hps] at e
  refine ⟨rs.length,ps,.none,Nat.le_refl _,g,?_,?_,.inl rfl⟩
  ·rw [readD_none hp hf,e]
  ·rw [takenD_none hp (hfd ▸ hf),← hto _ (Nat.le_refl _),e]
 | some N =>
  have hN:=List.find?_some hf
  have hN1:N < (pg rs ns rs.length).length:=by simpa using List.mem_of_find?_eq_some hf
  left;rcases hal N hN1 with ⟨b1,b2,b3,b4⟩;right
  left;rcases b4 (by simpa using hN) with ⟨i,hi,hNi⟩;right
  left;rcases heads_row ns h8 i (by omega) with ⟨ps,hps,g⟩;right
  have e:=readTo_fold (lineP rs ns 0 0) (pg rs ns rs.length) N (by omega)
  have et:(pg rs ns rs.length).take N = pg rs ns i:=by rw [hNi]; exact htk i (by omega)
  rw [et,hps] at e
  refine ⟨i,ps,_,by omega,g,?_,?_,.inr ⟨N,witW (lineP rs ns 0 0) ((pg rs ns rs.length).getD N []),rfl⟩⟩
  ·rw [readD_some hp hf,e]
  ·(rewrite [takenD_some hp (hfd ▸ hf)]; rewrite [← hto _ (by omega)] at ⊢; rw [e,b3])
end
section
noncomputable def Low (l:List Nat):Prop:=∀ x ∈ l,x < 0x110000
theorem strOk_low {x:Str} (h:Low x.cps.toList):PyData.strOk x = true:=by
 unfold PyData.strOk
 rw [Array.all_eq_true_iff_forall_mem]
 intro i hi
 exact decide_eq_true (h i (Array.mem_toList_iff.mpr hi))
theorem low_app {x y:Str} (h1:Low x.cps.toList) (h2:Low y.cps.toList):Low (x ++ y).cps.toList:=fun c hc => by
 have e:(x ++ y).cps.toList = x.cps.toList ++ y.cps.toList:=by
  show (x.cps ++ y.cps).toList = _
  simp
 rw [e] at hc
 rcases List.mem_append.mp hc with z | z
 ·exact h1 c z
 ·exact h2 c z
theorem low_of (s:String):Low (Str.ofString s).cps.toList:=fun c hc => by
 rw [Str.ofString_eq_toList] at hc
 have hc:c ∈ s.toList.map Char.toNat:=by simpa using hc
 left;rcases List.mem_map.mp hc with ⟨ch,_,z0_⟩;right;subst z0_
 have h:=ch.valid
 simp only [UInt32.isValidChar,Nat.isValidChar] at h
 show ch.val.toNat < 1114112
 omega
theorem low_join {sep:Str} {ps:List Str} (h1:Low sep.cps.toList) (h2:∀ p ∈ ps,Low p.cps.toList):Low (Txt.join sep ps).cps.toList:=by
 have e1:sep = S sep.cps.toList:=rfl
 have e2:ps = (ps.map fun p => p.cps.toList).map S:=by
  rw [List.map_map]
  exact (List.map_id ps).symm
 rw [e1,e2,txt_join]
 intro c hc
 rcases mem_joinL _ hc with z | ⟨p,hp,z⟩
 ·exact h1 c z
 ·left;rcases List.mem_map.mp hp with ⟨q,hq,z0_⟩;right;subst z0_
  exact h2 q hq c z
theorem low_fw (is:List Int):Low (fwT is).cps.toList:=by
 unfold fwT
 refine low_app (low_app (low_app (low_of _) ?_) (low_of _)) (low_join (low_of _) fun p hp => ?_)
 ·split
  ·exact low_of _
  ·exact low_of _
 ·left;rcases List.mem_map.mp hp with ⟨i,_,z0_⟩;right;subst z0_
  exact low_of _
theorem okL_low:∀ x ∈ okL,x < 0x110000:=by decide
theorem low_join2 {ls:List (List Nat)} {sep:List Nat} (h1:Low sep) (h2:∀ l ∈ ls,Low l):Low (joinL sep ls):=fun c hc => by
 rcases mem_joinL _ hc with z | ⟨p,hp,z⟩
 ·exact h1 c z
 ·exact h2 p hp c z
structure DOk (n:Nat) (d:D):Prop where
 lay:(toPy d).canLay0 = true
 dep:(toPy d).depth ≤ n
theorem DOk.str {n:Nat} {x:Str} (h:Low x.cps.toList):DOk n (.str x):=⟨strOk_low h,Nat.zero_le _⟩
theorem DOk.int {n:Nat} (i:Int):DOk n (.int i):=⟨rfl,Nat.zero_le _⟩
theorem DOk.none {n:Nat}:DOk n .none:=⟨rfl,Nat.zero_le _⟩
theorem dok_all {n:Nat}:∀ {ds:List D},(∀ d ∈ ds,DOk n d)→PyData.canLayAll0 (toPys ds) = true∧PyData.depthAll (toPys ds) ≤ n
 | [],_ => ⟨rfl,Nat.zero_le _⟩
 | d :: r,h => by
  obtain ⟨a,b⟩:=h d (.head _)
  obtain ⟨i1,i2⟩:=dok_all (n:=n) (ds:=r) fun x hx => h x (.tail _ hx)
  refine ⟨?_,?_⟩
  ·show (PyData.canLay0 (toPy d) && PyData.canLayAll0 (toPys r)) = true
   rw [a,i1]; rfl
  ·show max (PyData.depth (toPy d)) (PyData.depthAll (toPys r)) ≤ n
   omega
theorem DOk.lst {n:Nat} {ds:List D} (h:∀ d ∈ ds,DOk n d):DOk (n + 1) (.lst ds):=⟨(dok_all h).1,Nat.succ_le_succ (dok_all h).2⟩
theorem DOk.tup {n:Nat} {ds:List D} (h:∀ d ∈ ds,DOk n d):DOk (n + 1) (.tup ds):=⟨(dok_all h).1,Nat.succ_le_succ (dok_all h).2⟩
theorem DOk.mono {n m:Nat} {d:D} (h:DOk n d) (hm:n ≤ m):DOk m d:=⟨h.lay,Nat.le_trans h.dep hm⟩
theorem cmpEqSelf {xs:List D} (h:DOk 64 (.tup xs)):cmpD .Eq (.tup xs) (.tup xs) = some true:=by
 have ok:okD (.tup xs) = true:=by
  unfold okD
  rw [h.lay,decide_eq_true h.dep]; rfl
 show (if _ then _ else _) = _
 rw [if_pos (by rw [ok]; rfl)] at ⊢
 exact congrArg some (PySem.SeqAt.eqv_refl _ h.lay)
theorem ok_pair {n:Nat} {p:List Nat × List Nat} (h1:Low p.1) (h2:Low p.2):DOk (n + 1) (pairD p):=DOk.tup fun d hd => by
 simp only [List.mem_cons,List.mem_nil_iff,or_false] at hd
 rcases hd with rfl | rfl
 ·exact .str h1
 ·exact .str h2
theorem names_low:∀ l ∈ namesL,Low l:=by
 have:∀ l ∈ namesL,∀ x ∈ l,x < 0x110000:=by decide
 exact this
theorem low_head {p:List Nat × List Nat} (h1:Low p.1) (h2:Low p.2):Low (headT p):=fun x hx => by
 have hx:x ∈ p.1 ++ [58,32] ++ p.2:=hx
 simp only [List.mem_append,List.mem_cons,List.mem_nil_iff,or_false] at hx
 rcases hx with (hx | (rfl | rfl)) | hx
 ·exact h1 x hx
 ·decide
 ·decide
 ·exact h2 x hx
theorem low_written {hs:List (List Nat × List Nat)} (h:∀ p ∈ hs,Low p.1∧Low p.2):Low (writtenL hs):=by
 refine low_join2 (fun x hx => ?_) fun l hl => ?_
 ·have:∀ x ∈ ([13,10]:List Nat),x < 0x110000:=by decide
  exact this x hx
 ·rcases List.mem_append.mp hl with z | z
  ·left;rcases List.mem_map.mp z with ⟨p,hp,z0_⟩;right;subst z0_
   exact low_head (h p hp).1 (h p hp).2
  ·simp at z; subst z
   exact fun x hx => by cases hx
theorem low_hdr (r:Nat):Low (headT (hdr r)):=fun x hx => okL_low x (hdr_ok r x hx)
theorem ok_dueT (r:Nat) (f:List (List Nat)):DOk 3 (dueT r f):=by
 unfold dueT
 split
 ·refine DOk.tup fun d hd => ?_
  simp only [List.mem_cons,List.mem_nil_iff,or_false] at hd
  rcases hd with rfl | rfl
  ·exact .str (low_of _)
  ·refine DOk.lst fun d hd => ?_
   simp only [List.mem_cons,List.mem_nil_iff,or_false] at hd
   subst hd
   exact ok_pair (names_low _ (nameT_mem r)) fun x hx => low_hdr r x (List.mem_of_mem_drop hx)
 ·refine DOk.tup fun d hd => ?_
  simp only [List.mem_cons,List.mem_nil_iff,or_false] at hd
  rcases hd with rfl | rfl
  ·exact .str (low_of _)
  ·exact DOk.lst fun d hd => by cases hd
theorem ok_dueL (rs:List Nat):∀ k,∀ d ∈ dueL rs k,DOk 3 d
 | 0,d,h => by cases h
 | k + 1,d,h => by
  rw [dueL] at h
  rcases List.mem_append.mp h with z | z
  ·exact ok_dueL rs k d z
  ·simp at z; subst z; exact ok_dueT _ _
theorem ok_due (rs:List Nat) {ps:List (List Nat × List Nat)} {stop:D} (h:∀ p ∈ ps,Low p.1∧Low p.2) (hs:DOk 10 stop):DOk 64 (dueD rs ps stop):=by
 refine DOk.mono (n:=11) (DOk.tup fun d hd => ?_) (by decide)
 simp only [List.mem_cons,List.mem_nil_iff,or_false] at hd
 rcases hd with rfl | rfl | rfl | rfl | rfl | rfl
 ·refine .str (low_written fun p hp => ?_)
  left;rcases List.mem_map.mp hp with ⟨r,_,z0_⟩;right;subst z0_
  refine ⟨names_low _ (nameT_mem r),fun x hx => low_hdr r x ?_⟩
  show x ∈ (hdr r).1 ++ [58,32] ++ (hdr r).2
  exact List.mem_append_right _ hx
 ·exact hs
 ·refine DOk.lst fun d hd => ?_
  left;rcases List.mem_map.mp hd with ⟨p,hp,z0_⟩;right;subst z0_
  exact ok_pair (h p hp).1 (h p hp).2
 ·exact .str (low_written h)
 ·refine DOk.lst fun d hd => ?_
  left;rcases List.mem_map.mp hd with ⟨a,_,z0_⟩;right;subst z0_
  refine DOk.lst (n:=8) fun d hd => ?_
  left;rcases List.mem_map.mp hd with ⟨t,ht,z0_⟩;right;subst z0_
  unfold pickA at ht
  left;rcases List.mem_map.mp ht with ⟨p,hp,z0_⟩;right;subst z0_
  exact .str (h p ((List.mem_filter.mp hp).1)).2
 ·exact DOk.lst fun d hd => (ok_dueL rs _ d hd).mono (by decide)
theorem rows_facts (ns:List Int):(rowsOf ns).length ≤ 5∧0 < (rowsOf ns).length∧∀ r ∈ rowsOf ns,r / 1073741824 < 8:=by
 unfold rowsOf
 refine ⟨by simp; omega,by simp,fun r hr => ?_⟩
 left;rcases List.mem_map.mp hr with ⟨x,_,z0_⟩;right;subst z0_
 unfold restT
 omega
theorem f_law_all {c:Cx} (h:Is c) (g:GCx c) {n:Nat} (ns:List Int) (hl:ns.length ≤ 63):FnX0 PF c (n + 5) (.ref 340) [.lst (ns.map .int)] (.bool true):=by
 left;rcases rows_facts ns with ⟨r1,r2,r3⟩;right
 left;rcases read_taken ns r2 r3 with ⟨k,ps,stop,hk,gd,hread,htaken,hstop⟩;right
 obtain ⟨f1,f2⟩:=folds_bd (rowsOf ns)
 obtain ⟨p1,p2⟩:=page_bd (rowsOf ns) ns r1 r2
 have hfc:∀ f ∈ foldsN (rowsOf ns),f.length ≤ 100:=fun f hf => (f1 f hf).2
 have hfw:∀ f ∈ foldsN (rowsOf ns),∀ l ∈ f,l.length ≤ 100:=fun f hf l hl => by have:=f2 f hf l hl; omega
 have hps:ps.length ≤ 500:=by have:=gd.len; omega
 have hlow:∀ p ∈ ps,Low p.1∧Low p.2:=fun p hp => ⟨names_low _ (gd.each p hp).1,fun x hx => okL_low x ((gd.each p hp).2.1 x hx)⟩
 have hlen:∀ p ∈ ps,p.2.length ≤ 7000:=fun p hp => by have:=(gd.each p hp).2.2; omega
 have T:=f_told h g (n:=n) (rowsOf ns) ns r1 r3 hl hfc hfw p1 p2 ps stop hread hps (fun p hp => ⟨(gd.each p hp).1,hlen p hp,ok_bad (gd.each p hp).2.1⟩) (hsplit _ r2) (fun p hp => hfind p (gd.each p hp).1) (htext _)
 have U:=f_due h (n:=n + 1) (rowsOf ns) ns r1 r3 hl hline hfc hfw p1 p2 ps stop htaken hps (fun p hp => ⟨(gd.each p hp).1,hlen p hp⟩)
 have e:toldD (rowsOf ns) ps stop = dueD (rowsOf ns) ps stop:=by
  unfold toldD dueD
  (rewrite [picks_eq ps fun p hp => (gd.each p hp).1] at ⊢; rw [tried_all _ _ (Nat.le_refl _)])
 have hs:DOk 10 stop:=by
  rcases hstop with rfl | ⟨N,is,rfl⟩
  ·exact .none
  ·refine DOk.mono (n:=1) (DOk.tup fun d hd => ?_) (by decide)
   simp only [List.mem_cons,List.mem_nil_iff,or_false] at hd
   rcases hd with rfl | rfl
   ·exact .int _
   ·exact .str (low_fw is)
 rw [e] at T
 exact f_law h g ns hl T U (cmpEqSelf (ok_due (rowsOf ns) hlow hs))
end
section
noncomputable def layK (l:List Obj):BT:=(l.foldl (fun (x:BT × Nat) o => (x.1.ins x.2 o,x.2 + 1)) (.nil,0)).1
noncomputable abbrev StepF:=SharedT→Thread→Option (SharedT × Thread)
noncomputable def impE (stp:StepF) (ex:Thread→Option (List Value)):Nat→SharedT→Thread→Option SharedT
 | 0,_,_ => none
 | n + 1,s,t => match ex t with
  | some [] => some s
  | some (_ :: _) => none
  | none => match stp s t with
   | some (s',t') => impE stp ex n s' t'
   | none => none
noncomputable def goE (stp:StepF) (ok:Thread→Bool):Nat→SharedT→Thread→Option (SharedT × Thread)
 | 0,s,t => some (s,t)
 | n + 1,s,t => match through t with
  | true => none
  | false => match ok t with
   | false => none
   | true => match stp s t with
    | some (s',t') => goE stp ok n s' t'
    | none => none
noncomputable def segE (stp:StepF) (ok:Thread→Bool) (en:Thread→Option Flow):Nat→SharedT→Thread→Option (Flow × SharedT × Code × Pos)
 | 0,_,_ => none
 | n + 1,s,t => match en t with
  | some f => some (f,s,t.code,t.pos)
  | none => match ok t with
   | false => none
   | true => match stp s t with
    | some (s',t') => segE stp ok en n s' t'
    | none => none
section
variable {tb:String→Option Builtin} {p:Program} {w:World} {n₀:Nat} {ann:Option Value} {b:Nat}
theorem impE_of:∀ {n:Nat} {s s':SharedT} {t:Thread},impE (stepT (denote tb) p w) Thread.atExitBegin n s t = some s'→importEnds tb p w n s.abs t = some s'.abs
 | 0,_,_,_,h => by cases h
 | n + 1,s,s',t,h => by
  unfold impE at h
  unfold importEnds
  cases he:t.atExitBegin with
  | some l =>
   rw [he] at h
   cases l with
   | nil => cases h; rfl
   | cons a r => cases h
  | none =>
   rw [he] at h
   cases hs:stepT (denote tb) p w s t with
   | none => rw [hs] at h; cases h
   | some r => obtain ⟨s₂,t₂⟩:=r; rw [hs] at h; dsimp only; rw [stepT_spec hs]; exact impE_of h
theorem goE_of:∀ {n:Nat} {s s':SharedT} {t t':Thread},goE (stepT (denote tb) p w) (stepOk n₀ ann) n s t = some (s',t')→topGo tb p w n₀ ann n s.abs t = some (s'.abs,t')
 | 0,_,_,_,_,h => by cases h; rfl
 | n + 1,s,s',t,t',h => by
  unfold goE at h
  unfold topGo
  cases he:through t with
  | true => rw [he] at h; cases h
  | false =>
   rw [he] at h
   cases hk:stepOk n₀ ann t with
   | false => rw [hk] at h; cases h
   | true =>
    rw [hk] at h
    cases hs:stepT (denote tb) p w s t with
    | none => rw [hs] at h; cases h
    | some r => obtain ⟨s₂,t₂⟩:=r; rw [hs] at h; dsimp only; rw [stepT_spec hs]; exact goE_of h
theorem segE_eq:∀ n:Nat,segE (stepT (denote tb) p w) (stepOk n₀ ann) (endAt b) n = segRunT tb p w n₀ ann b n
 | 0 => rfl
 | n + 1 => by
  funext s t
  show (match endAt b t with | some f => some (f,s,t.code,t.pos) | none => match stepOk n₀ ann t with | false => none | true => match stepT (denote tb) p w s t with | some (s',t') => segE (stepT (denote tb) p w) (stepOk n₀ ann) (endAt b) n s' t' | none => none) = _
  rw [segE_eq n]
  rfl
end
noncomputable abbrev stpQ (p:Program) (w:World):StepF:=Fast.tw10156331382660048174 (Fast.tw11892475500146522536 Fast.tw14364793385576792824) p w
noncomputable abbrev okQ:Thread→Bool:=Fast.tw6613529449190102663 28 (some (.ref 6))
theorem stpQ_eq (p:Program) (w:World):stpQ p w = stepT (denote treeTable) p w:=by
 unfold stpQ
 rw [← Fast.te10156331382660048174,← Fast.te11892475500146522536,← Fast.te14364793385576792824]
theorem okQ_eq:okQ = stepOk 28 (some (.ref 6)):=by
 unfold okQ
 rw [← Fast.te6613529449190102663]
theorem goQ {p:Program} {w:World} {n:Nat} {s s':SharedT} {t t':Thread} (h:goE (stpQ p w) okQ n s t = some (s',t')):topGo treeTable p w 28 (some (.ref 6)) n s.abs t = some (s'.abs,t'):=by
 rw [stpQ_eq,okQ_eq] at h
 exact goE_of h
theorem segQ {p:Program} {w:World} {n:Nat} {s s':SharedT} {t:Thread} {f:Flow} {c:Code} {q:Pos} (h:segE (stpQ p w) okQ (endAt 1) n s t = some (f,s',c,q)):segRun treeTable p w 28 (some (.ref 6)) 1 n s.abs t = some (f,s'.abs,c,q):=by
 rw [stpQ_eq,okQ_eq,segE_eq] at h
 exact segRun_of h
theorem impQ {p:Program} {w:World} {n:Nat} {s:SharedT} {t:Thread} {α:Type} {f:Shared→α} {a:α} (h:((impE (stpQ (opening p) w) Fast.tw3805553451399329143 n s t).bind fun y => (Fast.tw14289696077712309145 p y.abs).map f) = some a) :
  ((importEnds treeTable (opening p) w n s.abs t).bind (fenceModules? p)).map f = some a:=by
 rw [stpQ_eq,← Fast.te3805553451399329143,← Fast.te14289696077712309145] at h
 left;rcases Option.bind_eq_some_iff.mp h with ⟨y,h1,h2⟩;right
 rw [impE_of h1]
 exact h2
theorem piece_at {p:Program} {w:World} {n₀:Nat} {ann:Option Value} {env:Env} {q:Pos} {n N:Nat} {s s' r:Shared} (k:Nat) {b:List Stmt} {c:Code} {pos p':Pos}
  (h:segRun treeTable p w n₀ ann 1 n s (piecesOf (b.take k) env c pos [topFrame q]) = some (.next,s',c,p')) (g:topRun treeTable p w n₀ ann N s' (restOf (b.drop k) env c p' [topFrame q]) = some r) :
  topRun treeTable p w n₀ ann (n + N) s (restOf b env c pos [topFrame q]) = some r:=by
 have:=piece_app h g
 rwa [List.take_append_drop] at this
end
section
noncomputable abbrev zK:Obj:={ cls:=.none,data:=.fields #[] }
noncomputable abbrev flK (c:Value) (l:Array Value):Obj:={ cls:=c,data:=.fields l }
noncomputable abbrev diK (l:Array DictEntry) (k:Nat):Obj:={ cls:=.type "dict",data:=.dict l k }
noncomputable abbrev frK (c l:Addr) (m:Value):Obj:={ cls:=.type "frame",slots:=#[some (.ref c),some (.ref 3),some (.ref l),none,some m,none,some (.ref 0)] }
noncomputable def catK (l:List (String × Nat)):Str:=⟨(l.flatMap fun s => (Str.ofString s.1).cps.toList ++ [s.2]).toArray⟩
noncomputable def fuK (s:Stmt) (q:String):Obj:=match s with
 | .FunctionDef n a b _ _ _ sc _ _ _ => { cls:=.none,data:=.func { name:=n,qualname:=Str.ofString q,params:=a,body:=.stmts b,scope:=sc,globals:=0,closure:=[],defaults:=.none,kwdefaults:=.none } }
 | _ => zK
noncomputable def exK (P:Params):List Obj:=[
 boot_o_0 P,
 diK #[eK P "builtins" 162 (rK 4),eK P "__main__" 163 (rK 5),eK P "_sre" 244 (rK 12)] 3,
 {cls:=.type "module",dict:=some 0 },
 {cls:=.type "module",dict:=some 3 },
 diK #[] 0,
 tuK #[],
 zK,
 coK #[tK "<module>" 176,tK "<module>" 177,tK "/claim/cut.py" 178,iK 1,iK 0,iK 0,iK 0,iK 0,rK 7,.bool false,iK 175,rK 8,.none,.none,.none,.none,iK 179,iK 1,tK "/claim/cut.py" 180],
 frK 9 3 (tK "__main__" 164),
 diK #[eK P "__name__" 247 (tK "_sre" 246),eK P "__doc__" 248 .none,eK P "__package__" 250 (tK "" 249),eK P "__loader__" 251 (.builtin "off-the-table:_sre.__loader__:shared#opaque"),eK P "__spec__" 252 (.builtin "off-the-table:_sre.__spec__:shared#opaque"),eK P "compile" 253 (.builtin "_sre.compile"),eK P "template" 254 (.builtin "off-the-table:_sre.template:shared#opaque"),eK P "getcodesize" 255 (.builtin "off-the-table:_sre.getcodesize:shared#opaque"),eK P "ascii_iscased" 256 (.builtin "off-the-table:_sre.ascii_iscased:shared#opaque"),eK P "unicode_iscased" 257 (.builtin "off-the-table:_sre.unicode_iscased:shared#opaque"),eK P "ascii_tolower" 258 (.builtin "off-the-table:_sre.ascii_tolower:shared#opaque"),eK P "unicode_tolower" 259 (.builtin "off-the-table:_sre.unicode_tolower:shared#opaque"),eK P "MAGIC" 261 (.int 20230612 260),eK P "CODESIZE" 263 (.int 4 262),eK P "MAXREPEAT" 265 (.int 4294967295 264),eK P "MAXGROUPS" 267 (.int 1073741823 266),eK P "copyright" 269 (tK " SRE 2.2.2 Copyright (c) 1997-2002 by Secret Labs AB " 268)] 17,
 {cls:=.type "module",dict:=some 11 },
 diK #[eK P "__module__" 189 (tK "_frozen_importlib" 186),eK P "__firstlineno__" 190 (.int 971 187),eK P "__doc__" 191 (.builtin "_frozen_importlib.BuiltinImporter.__doc__:str#opaque"),eK P "_ORIGIN" 192 (tK "built-in" 188),eK P "find_spec" 193 (.builtin "_frozen_importlib.BuiltinImporter.find_spec#opaque"),eK P "create_module" 194 (.builtin "_frozen_importlib.BuiltinImporter.create_module#opaque"),eK P "exec_module" 195 (.builtin "_frozen_importlib.BuiltinImporter.exec_module#opaque"),eK P "get_code" 196 (.builtin "_frozen_importlib.BuiltinImporter.get_code#opaque"),eK P "get_source" 197 (.builtin "_frozen_importlib.BuiltinImporter.get_source#opaque"),eK P "is_package" 198 (.builtin "_frozen_importlib.BuiltinImporter.is_package#opaque"),eK P "load_module" 199 (.builtin "_frozen_importlib.BuiltinImporter.load_module#opaque"),eK P "__static_attributes__" 200 (rK 15),eK P "__dict__" 202 (rK 16),eK P "__weakref__" 204 (rK 17)] 14,
 {cls:=.type "type",data:=.cls { name:=Str.ofString "BuiltinImporter",bases:=[.type "object"],mro:=[rK 14,.type "object"],ns:=13,qualname:=Str.ofString "BuiltinImporter" } },
 tuK #[],
 flK (.type "getset_descriptor") #[tK "__dict__" 201,rK 14,.builtin "function.__dict__",.builtin "function.__dict__#set"],
 flK (.type "getset_descriptor") #[tK "__weakref__" 203,rK 14,.builtin "ExceptionGroup.__weakref__",.none],
 {cls:=.none,data:=.seq #[iK 13,.str (catK [("\x06½\n__module__\x06º\x11_frozen_importli",98),("\x06¾\x0f__firstlineno__\x04»\x00ϋ\x06¿\x07__doc__",9),("4_frozen_importlib.BuiltinImport",101),("r.__doc__:str#opaque\x06À\x07_ORIGIN\x06¼",8),("built-in\x06Á\x09find_spec\x092_frozen_im",112),("ortlib.BuiltinImporter.find_spec",35),("opaque\x06Â\x0dcreate_module\x096_frozen_",105),("mportlib.BuiltinImporter.create_",109),("odule#opaque\x06Ã\x0bexec_module\x094_fro",122),("en_importlib.BuiltinImporter.exe",99),("_module#opaque\x06Ä\x08get_code\x091_froz",101),("n_importlib.BuiltinImporter.get_",99),("ode#opaque\x06Å\nget_source\x093_frozen",95),("importlib.BuiltinImporter.get_so",117),("rce#opaque\x06Æ\nis_package\x093_frozen",95),("importlib.BuiltinImporter.is_pac",107),("age#opaque\x06Ç\x0bload_module\x094_froze",110),("_importlib.BuiltinImporter.load_",109),("odule#opaque\x06È\x15__static_attribut",101),("s__\x04\x00\x00\x0f\x06Ê\x08__dict__\x04\x00\x00\x10\x06Ì\x0b__weakr",101),("f__\x04\x00\x00",17)]) 0,.bool true,.bool true,tK "" 205,iK 21,.str (catK [("\x06ã\n__module__\x06Ù\x11_frozen_importli",98),("\x06ä\x0f__firstlineno__\x04Ú\x00Ȳ\x06å\x07__doc__",9),("/_frozen_importlib.ModuleSpec.__",100),("oc__:str#opaque\x06æ\x08__init__\x09,_fro",122),("en_importlib.ModuleSpec.__init__",35),("opaque\x06ç\x08__repr__\x09,_frozen_impor",116),("lib.ModuleSpec.__repr__#opaque\x06è",6),("__eq__\x09*_frozen_importlib.Module",83),("pec.__eq__#opaque\x06é\x06cached\x09*_fro",122),("en_importlib.ModuleSpec.cached#o",112),("aque\x06ê\x06parent\x09*_frozen_importlib",46),("ModuleSpec.parent#opaque\x06ë\x0chas_l",111),("cation\x090_frozen_importlib.Module",83),("pec.has_location#opaque\x06ì\x15__stat",105),("c_attributes__\x04\x00\x00\x17\x06î\x08__dict__\x04\x00\x00",24),("\x06ð\x0b__weakref__\x04\x00\x00\x19\x06ñ\x08__hash__",0)]) 0,.bool true,.bool true,tK "" 242] 1 },
 {cls:=.type "list",data:=.seq #[] },
 diK #[eK P "name" 208 (tK "_sre" 207),eK P "loader" 209 (rK 14),eK P "origin" 210 (tK "built-in" 184),eK P "loader_state" 211 .none,eK P "submodule_search_locations" 212 .none,eK P "_uninitialized_submodules" 213 (rK 19),eK P "_set_fileattr" 214 (.bool false),eK P "_cached" 215 .none,eK P "_initializing" 243 (.bool false)] 9,
 diK #[eK P "__module__" 227 (tK "_frozen_importlib" 217),eK P "__firstlineno__" 228 (.int 562 218),eK P "__doc__" 229 (.builtin "_frozen_importlib.ModuleSpec.__doc__:str#opaque"),eK P "__init__" 230 (.builtin "_frozen_importlib.ModuleSpec.__init__#opaque"),eK P "__repr__" 231 (.builtin "_frozen_importlib.ModuleSpec.__repr__#opaque"),eK P "__eq__" 232 (.builtin "_frozen_importlib.ModuleSpec.__eq__#opaque"),eK P "cached" 233 (.builtin "_frozen_importlib.ModuleSpec.cached#opaque"),eK P "parent" 234 (.builtin "_frozen_importlib.ModuleSpec.parent#opaque"),eK P "has_location" 235 (.builtin "_frozen_importlib.ModuleSpec.has_location#opaque"),eK P "__static_attributes__" 236 (rK 23),eK P "__dict__" 238 (rK 24),eK P "__weakref__" 240 (rK 25),eK P "__hash__" 241 .none] 13,
 {cls:=.type "type",data:=.cls { name:=Str.ofString "ModuleSpec",bases:=[.type "object"],mro:=[rK 22,.type "object"],ns:=21,qualname:=Str.ofString "ModuleSpec" } },
 tuK #[tK "_cached" 219,tK "_set_fileattr" 220,tK "_uninitialized_submodules" 221,tK "loader" 222,tK "loader_state" 223,tK "name" 224,tK "origin" 225,tK "submodule_search_locations" 226],
 flK (.type "getset_descriptor") #[tK "__dict__" 237,rK 22,.builtin "function.__dict__",.builtin "function.__dict__#set"],
 flK (.type "getset_descriptor") #[tK "__weakref__" 239,rK 22,.builtin "ExceptionGroup.__weakref__",.none],
 {cls:=rK 22,dict:=some 20 },
 {cls:=.none,data:=.seq #[iK 11,.str (catK [("\x06÷\x08__name__\x06ö\x04_sre\x06ø\x07__doc__\x00\x06ú\x0b",95),("_package__\x06ù\x00\x06û\n__loader__\x04\x00\x00\x0e\x06ü",8),("__spec__\x04\x00\x00\x1a\x06ý\x07compile\x09\x0c_sre.com",112),("ile\x06þ\x08template\x09\x0d_sre.template\x06ÿ\x0b",103),("etcodesize\x09\x10_sre.getcodesize\x06Ā\x0da",115),("cii_iscased\x09\x12_sre.ascii_iscased\x06",257),("\x0funicode_iscased\x09\x14_sre.unicode_i",115),("cased\x06Ă\x0dascii_tolower\x09\x12_sre.asci",105),("_tolower\x06ă\x0funicode_tolower\x09\x14_sre",46),("unicode_tolower\x06ą\x05MAGIC\x04Ą\x00",20230612),("\x06ć\x08CODESIZE\x04Ć\x00\x04\x06ĉ\x09MAXREPEAT\x04Ĉ\x00",4294967295),("\x06ċ\x09MAXGROUPS\x04Ċ\x00",1073741823),("\x06č\x09copyright\x06Č5 SRE 2.2.2 Copyri",103),("ht (c) 1997-2002 by Secret Labs ",65),("B",32)]) 0,.bool true,.bool false,tK "_sre" 271] },
 tuK #[],
 flK .none #[iK 2,iK 0,rK 37,iK 9,iK 0,rK 60,iK 18,iK 0,rK 67,iK 101,iK 0,rK 192,iK 162,iK 0,rK 258,iK 169,iK 0,rK 263,iK 187,iK 0,rK 270,iK 195,iK 0,rK 277,iK 202,iK 0,rK 284,iK 209,iK 0,rK 291,iK 212,iK 0,rK 296,iK 225,iK 0,rK 303,iK 237,iK 0,rK 310,iK 245,iK 0,rK 315,iK 261,iK 0,rK 322,iK 268,iK 0,rK 327,iK 286,iK 0,rK 332,iK 299,iK 0,rK 339],
 coK #[tK "<module>" 277,tK "<module>" 278,tK "/claim/cut.py" 279,iK 1,iK 0,iK 0,iK 0,iK 0,rK 28,.bool false,iK 276,rK 29,.none,.none,.none,.none,iK 280,iK 1,tK "/claim/cut.py" 281],
 frK 30 3 (tK "__main__" 164),
 zK,
 fuK (stK 1) "_wall",
 {cls:=.type "list",data:=.seq #[.int 14 294,.int 14 295,.int 4 296,.int 1 297,.int 1 298,.int 9 299,.int 0 300,.int 4227896069 301,.int 939524097 302,.int 0 303,.int 0 304,.int 0 305,.int 0 306,.int 0 307,.int 0 308,.int 13 309,.int 11 310,.int 9 311,.int 0 312,.int 4227896069 313,.int 939524097 314,.int 0 315,.int 0 316,.int 0 317,.int 0 318,.int 0 319,.int 0 320,.int 1 321] },
 diK #[] 0,
 tuK #[.none],
 {cls:=.type "list",data:=.seq #[.int 14 328,.int 10 329,.int 4 330,.int 1 331,.int 1 332,.int 22 333,.int 0 334,.int 31 335,.int 16 336,.int 127 337,.int 0 338,.int 13 339,.int 7 340,.int 22 341,.int 0 342,.int 31 343,.int 16 344,.int 127 345,.int 0 346,.int 1 347] },
 diK #[] 0,
 tuK #[.none],
 {cls:=.type "list",data:=.seq #[.int 14 354,.int 14 355,.int 4 356,.int 1 357,.int 1 358,.int 9 359,.int 4294966783 360,.int 0 361,.int 0 362,.int 2147483648 363,.int 0 364,.int 0 365,.int 0 366,.int 0 367,.int 0 368,.int 13 369,.int 11 370,.int 9 371,.int 4294966783 372,.int 0 373,.int 0 374,.int 2147483648 375,.int 0 376,.int 0 377,.int 0 378,.int 0 379,.int 0 380,.int 1 381] },
 diK #[] 0,
 tuK #[.none],
 zK,
 fuK (stK 6) "_formatparam",
 tuK #[],
 flK (.type "builtin_function_or_method") #[.builtin "type.__prepare__",.type "type"],
 diK #[eK P "__module__" 402 (tK "cpy313.wsgiref.headers" 289),eK P "__qualname__" 404 (tK "Headers" 403),eK P "__firstlineno__" 406 (.int 18 405),eK P "__init__" 416 (rK 76),eK P "_convert_string_type" 426 (rK 83),eK P "__len__" 433 (rK 90),eK P "__setitem__" 442 (rK 97),eK P "__delitem__" 448 (rK 102),eK P "__getitem__" 456 (rK 109),eK P "__contains__" 464 (rK 116),eK P "get_all" 470 (rK 121),eK P "get" 481 (rK 129),eK P "keys" 487 (rK 134),eK P "values" 493 (rK 139),eK P "items" 500 (rK 146),eK P "__repr__" 507 (rK 153),eK P "__str__" 513 (rK 158),eK P "__bytes__" 520 (rK 165),eK P "setdefault" 529 (rK 172),eK P "add_header" 542 (rK 179),eK P "__static_attributes__" 544 (rK 180)] 21,
 tuK #[],
 flK .none #[iK 20,iK 4,rK 75,iK 30,iK 4,rK 82,iK 38,iK 4,rK 89,iK 41,iK 4,rK 96,iK 45,iK 4,rK 101,iK 49,iK 4,rK 108,iK 52,iK 4,rK 115,iK 55,iK 4,rK 120,iK 59,iK 4,rK 128,iK 66,iK 4,rK 133,iK 69,iK 4,rK 138,iK 72,iK 4,rK 145,iK 75,iK 4,rK 152,iK 78,iK 4,rK 157,iK 81,iK 4,rK 164,iK 84,iK 4,rK 171,iK 87,iK 4,rK 178],
 coK #[tK "Headers" 397,tK "Headers" 398,tK "/claim/cut.py" 399,iK 18,iK 0,iK 0,iK 0,iK 0,rK 65,.bool false,iK 276,rK 66,.none,.none,.none,.none,iK 400,iK 18,tK "/claim/cut.py" 401],
 frK 67 64 (tK "cpy313.wsgiref.headers" 289),
 zK,
 fuK (msK 7 0) "Headers.__init__",
 zK,
 fuK (msK 7 1) "Headers._convert_string_type",
 zK,
 fuK (msK 7 2) "Headers.__len__",
 zK,
 fuK (msK 7 3) "Headers.__setitem__",
 zK,
 fuK (msK 7 4) "Headers.__delitem__",
 zK,
 fuK (msK 7 5) "Headers.__getitem__",
 zK,
 fuK (msK 7 6) "Headers.__contains__",
 zK,
 fuK (msK 7 7) "Headers.get_all",
 zK,
 fuK (msK 7 8) "Headers.get",
 zK,
 fuK (msK 7 9) "Headers.keys",
 zK,
 fuK (msK 7 10) "Headers.values",
 zK,
 fuK (msK 7 11) "Headers.items",
 zK,
 fuK (msK 7 12) "Headers.__repr__",
 zK,
 fuK (msK 7 13) "Headers.__str__",
 zK,
 fuK (msK 7 14) "Headers.__bytes__",
 zK,
 fuK (msK 7 15) "Headers.setdefault",
 zK,
 fuK (msK 7 16) "Headers.add_header",
 flK (.type "super") #[rK 182,rK 182,rK 182],
 flK (.type "builtin_function_or_method") #[.builtin "object.__init_subclass__",rK 182],
 tuK #[],
 flK (.type "builtin_function_or_method") #[.builtin "type.__prepare__",.type "type"],
 diK #[eK P "__module__" 561 (tK "cpy313.tabnanny" 552),eK P "__qualname__" 563 (tK "Whitespace" 562),eK P "__firstlineno__" 565 (.int 101 564),eK P "S" 569 (tK " " 567),eK P "T" 570 (tK "\t" 568),eK P "__init__" 585 (rK 203),eK P "longest_run_of_spaces" 594 (rK 210),eK P "indent_level" 606 (rK 217),eK P "equal" 614 (rK 224),eK P "not_equal_witness" 622 (rK 231),eK P "less" 632 (rK 238),eK P "not_less_witness" 643 (rK 245),eK P "__static_attributes__" 649 (rK 246)] 13,
 tuK #[],
 flK .none #[iK 104,iK 4,rK 202,iK 127,iK 4,rK 209,iK 131,iK 4,rK 216,iK 138,iK 4,rK 223,iK 141,iK 4,rK 230,iK 144,iK 4,rK 237,iK 155,iK 4,rK 244],
 coK #[tK "Whitespace" 556,tK "Whitespace" 557,tK "/claim/cut.py" 558,iK 101,iK 0,iK 0,iK 0,iK 0,rK 190,.bool false,iK 276,rK 191,.none,.none,.none,.none,iK 559,iK 101,tK "/claim/cut.py" 560],
 frK 192 189 (tK "cpy313.tabnanny" 552),
 flK (.type "str_ascii_iterator") #[.none,iK 2],
 tuK #[],
 flK (.type "StopIteration") #[rK 195,.none,.none,.none,.bool false,.none],
 zK,
 fuK (msK 9 1) "Whitespace.__init__",
 zK,
 fuK (msK 9 2) "Whitespace.longest_run_of_spaces",
 zK,
 fuK (msK 9 3) "Whitespace.indent_level",
 zK,
 fuK (msK 9 4) "Whitespace.equal",
 zK,
 fuK (msK 9 5) "Whitespace.not_equal_witness",
 zK,
 fuK (msK 9 6) "Whitespace.less",
 zK,
 fuK (msK 9 7) "Whitespace.not_less_witness",
 flK (.type "super") #[rK 248,rK 248,rK 248],
 flK (.type "builtin_function_or_method") #[.builtin "object.__init_subclass__",rK 248],
 zK,
 fuK (stK 10) "format_witnesses",
 zK,
 fuK (stK 12) "_law_headers",
 zK,
 fuK (stK 13) "_law_line",
 zK,
 fuK (stK 14) "_law_pieces",
 zK,
 fuK (stK 15) "_law_folded",
 zK,
 fuK (stK 16) "_law_put",
 zK,
 fuK (stK 17) "_law_page",
 zK,
 fuK (stK 18) "_law_read",
 zK,
 fuK (stK 19) "_law_columns",
 zK,
 fuK (stK 20) "_law_taken",
 zK,
 fuK (stK 21) "_law_tried",
 zK,
 fuK (stK 22) "_law_told",
 zK,
 fuK (stK 23) "_law_due",
 zK,
 fuK (stK 24) "law"]
noncomputable def fillK:Nat→Nat→Frag→List Obj→List Obj
 | 0,_,_,_ => []
 | k + 1,n,f,b => match f with
  | [] => b
  | (a,o) :: r => match Nat.beq a n with
   | true => o :: fillK k (n + 1) r b
   | false => match b with
    | [] => []
    | x :: b => x :: fillK k (n + 1) f b
noncomputable def obK (P:Params):List Obj:=fillK 341 0 (heapK P) (exK P)
noncomputable def enK (P:Params):List DictEntry:=match (heapK P).lookup 3 with
 | some ⟨_,_,.dict a _,_⟩ => a.toList
 | _ => []
noncomputable def flsK (P:Params):List Value:=match (obK P).drop 29 with
 | ⟨_,_,.fields a,_⟩ :: _ => a.toList
 | _ => []
noncomputable def cutK (P:Params) (n:Nat) (m:String) (t k j:Nat):List Obj:=
 (((obK P).take n).set 3 (diK ((eK P "__name__" 165 (tK m t) :: (enK P).drop 1).take k).toArray k)).set 29 (flK .none ((flsK P).take j).toArray)
end
section
set_option maxRecDepth 1000000
noncomputable abbrev pK:Program:=PySem.Challenge.pw_pe0268_01
noncomputable def bK:List Stmt:=behindTheImports pK
noncomputable abbrev liK:Life:={}
noncomputable def xK (P:Params) (n:Nat) (m:String) (t k j tk:Nat) (os:OsState):SharedT:=⟨layK (cutK P n m t k j),n,liK,#[],{},tk,os⟩
noncomputable abbrev poK (a b c d:Nat):Pos:=⟨a,b,c,d⟩
noncomputable def envK:Env:={ scope:=pK.main.scope,locals:=mainNs,globals:=mainNs,cells:=[],code:=.ref 30,frame:=some 31 }
noncomputable def cdK:Code:=.body bK envK
noncomputable def stopK:List Frame:=[topFrame default]
noncomputable def x0 (w:World) (os:OsState):=xK w.params 28 "__main__" 164 10 0 276 os
noncomputable def x1 (w:World) (os:OsState):=xK w.params 32 "__main__" 164 10 0 282 os
noncomputable def x2 (w:World) (os:OsState):=xK w.params 62 "cpy313.wsgiref.headers" 289 15 6 395 os
noncomputable def x3 (w:World) (os:OsState):=xK w.params 187 "cpy313.tabnanny" 552 16 9 554 os
noncomputable def x4 (w:World) (os:OsState):=xK w.params 253 "cpy313.tabnanny" 552 17 12 657 os
noncomputable def x5 (w:World) (os:OsState):=xK w.params 341 "law_pe0268_01" 666 31 99 782 os
theorem go1 (w:World) (os:OsState):topGo treeTable pK w 28 (some (.ref 6)) 12 (x0 w os).abs (topStub pK) = some ((x1 w os).abs,⟨denote treeTable (.body bK envK),cdK,default,stopK⟩):=by
 have h:goE (stpQ pK w) okQ 12 (x0 w os) (topStub pK) = some (x1 w os,⟨Fast.tw11892475500146522536 Fast.tw14364793385576792824 (.body bK envK),cdK,default,stopK⟩):=by kernel_rfl
 rw [← Fast.te14364793385576792824,← Fast.te11892475500146522536] at h
 exact goQ h
noncomputable abbrev Seg (w:World) (x y:SharedT) (l:List Stmt) (a b:Pos):Prop:=segE (stpQ pK w) okQ (endAt 1) 1000 x (piecesOf l envK cdK a stopK) = some (.next,y,cdK,b)
noncomputable def p2:=poK 9 0 17 20
noncomputable def p3:=poK 100 0 100 8
noncomputable def p4:=poK 101 0 161 16
noncomputable def p5:=poK 299 0 301 60
theorem seg2 (w:World) (os:OsState):Seg w (x1 w os) (x2 w os) (bK.take 6) default p2:=by kernel_rfl
theorem seg3 (w:World) (os:OsState):Seg w (x2 w os) (x3 w os) ((bK.drop 6).take 2) p2 p3:=by kernel_rfl
theorem seg4 (w:World):∀ os,Seg w (x3 w os) (x4 w os) (((bK.drop 6).drop 2).take 1) p3 p4:=
 byRow2 "special-get-raises" (P:=fun w => ∀ os,Seg w (x3 w os) (x4 w os) (((bK.drop 6).drop 2).take 1) p3 p4) (fun w os => by kernel_rfl) (fun w os => by kernel_rfl) w
theorem seg5 (w:World) (os:OsState):Seg w (x4 w os) (x5 w os) ((((bK.drop 6).drop 2).drop 1).take 15) p4 p5:=by kernel_rfl
theorem blkK (w:World) (s:Shared):segRun treeTable pK w 28 (some (.ref 6)) 1 1 s (blockOf bK envK cdK default stopK) = some (.next,s,cdK,default):=by kernel_rfl
theorem finK (w:World) (s:Shared):topRun treeTable pK w 28 (some (.ref 6)) 9 s (restOf ((((bK.drop 6).drop 2).drop 1).drop 15) envK cdK p5 stopK) = some s:=by kernel_rfl
noncomputable def h0K (P:Params):Heap:=⟨(cutK P 28 "__main__" 164 10 0).toArray,liK⟩
noncomputable def h1K (P:Params):Heap:=⟨(cutK P 341 "law_pe0268_01" 666 31 99).toArray,liK⟩
theorem abs0 (w:World) (os:OsState):(x0 w os).abs = ⟨h0K w.params,#[],{},276,os⟩:=by kernel_rfl
theorem abs1 (w:World) (os:OsState):(x5 w os).abs = ⟨h1K w.params,#[],{},782,os⟩:=by kernel_rfl
theorem chainK {w:World} {p:Program} {b:List Stmt} {env:Env} {c:Code} {q q2 q3 q4 q5:Pos} {s0 s1 s2 s3 s4 s5 r:Shared} {B:List Frame} (hB:B = [topFrame q])
  (h1:topGo treeTable p w 28 (some (.ref 6)) 12 s0 (topStub p) = some (s1,⟨denote treeTable (.body b env),c,q,B⟩))
  (hb:segRun treeTable p w 28 (some (.ref 6)) 1 1 s1 (blockOf b env c q B) = some (.next,s1,c,q))
  (h2:segRun treeTable p w 28 (some (.ref 6)) 1 1000 s1 (piecesOf (b.take 6) env c q B) = some (.next,s2,c,q2))
  (h3:segRun treeTable p w 28 (some (.ref 6)) 1 1000 s2 (piecesOf ((b.drop 6).take 2) env c q2 B) = some (.next,s3,c,q3))
  (h4:segRun treeTable p w 28 (some (.ref 6)) 1 1000 s3 (piecesOf (((b.drop 6).drop 2).take 1) env c q3 B) = some (.next,s4,c,q4))
  (h5:segRun treeTable p w 28 (some (.ref 6)) 1 1000 s4 (piecesOf ((((b.drop 6).drop 2).drop 1).take 15) env c q4 B) = some (.next,s5,c,q5))
  (hf:topRun treeTable p w 28 (some (.ref 6)) 9 s5 (restOf ((((b.drop 6).drop 2).drop 1).drop 15) env c q5 B) = some r) :
  topRun treeTable p w 28 (some (.ref 6)) 4022 s0 (topStub p) = some r:=by
 subst hB
 exact go_top h1 (piece_block hb (piece_at 6 h2 (piece_at 2 h3 (piece_at 1 h4 (piece_at 15 h5 hf)))))
theorem runK (w:World) (os:OsState):topRun treeTable pK w 28 (some (.ref 6)) 4022 ⟨h0K w.params,#[],{},276,os⟩ (topStub pK) = some ⟨h1K w.params,#[],{},782,os⟩:=by
 rw [← abs0,← abs1]
 have e1:=go1 w os
 have e2:=blkK w (x1 w os).abs
 have e3:=segQ (seg2 w os)
 have e4:=segQ (seg3 w os)
 have e5:=segQ (seg4 w os)
 have e6:=segQ (seg5 w os)
 have e7:=finK w (x5 w os).abs
 generalize (x0 w os).abs = s0 at *
 generalize (x1 w os).abs = s1 at *
 generalize (x2 w os).abs = s2 at *
 generalize (x3 w os).abs = s3 at *
 generalize (x4 w os).abs = s4 at *
 generalize (x5 w os).abs = s5 at *
 exact chainK rfl e1 e2 e3 e4 e5 e6 e7
noncomputable def st0:SharedT:=⟨.nil,0,{},#[],{},1,(start (opening pK)).1.os⟩
theorem st0_abs:(start (opening pK)).1 = st0.abs:=by kernel_rfl
theorem openK (w:World):(fencedOpening treeTable pK w 4034).map (fun s => (s.heap,s.gens,s.drawn,s.toks)) = some (h0K w.params,#[],{},276):=by
 unfold fencedOpening
 rw [st0_abs]
 exact impQ (by kernel_rfl)
theorem sizeK (w:World):((h0K w.params).isNs mainGlobals && (#[]:Array GenState).size == 0,(h0K w.params).objs.size,(h0K w.params).nsMap mainGlobals "__annotations__") = (true,28,some (.ref 6)):=by kernel_rfl
end
section
set_option maxRecDepth 1000000
noncomputable def qK:Program:={ pK with main:={ pK.main with body:=[0,1,3,4,5,7,9,10,12,13,14,15,16,17,18,19,20,21,22,23,24].map stK } }
noncomputable def looseK:List PySem.Str:=["tspecials", "_name_disallowed_re", "_value_disallowed_re", "_formatparam", "Whitespace"].map Str.ofString
noncomputable def asK:List Addr:=[2,3,32,34,35,37,38,42,43,47,48,52,53,54,55,57,58,60,61,69,70,72,73,75,76,77,79,80,82,83,84,86,87,89,90,91,93,94,96,97,98,101,102,103,105,106,108,109,110,112,113,115,116,117,120,121,122,123,125,126,128,129,130,133,134,135,138,139,140,142,143,145,146,147,149,150,152,153,154,157,158,159,161,162,164,165,166,168,169,171,172,173,175,176,178,179,180,181,182,183,184,197,199,200,202,203,204,206,207,209,210,211,213,214,216,217,218,220,221,223,224,225,227,228,230,231,232,234,235,237,238,239,241,242,244,245,246,247,248,249,250,253,255,256,258,259,260,263,264,265,267,268,270,271,272,274,275,277,278,279,281,282,284,285,286,288,289,291,292,293,296,297,298,300,301,303,304,305,307,308,310,311,312,315,316,317,319,320,322,323,324,327,328,329,332,333,334,336,337,339,340]
theorem asK_of (P:Params):asK = (heapK P).map (·.1):=by rfl
noncomputable abbrev XtK (s:Shared):Bool:=xlAt qK [] s && recOk [] s
noncomputable abbrev YfK (s:Shared):List (Option Obj) × Option Obj:=(asK.map s.heap.get?,s.heap.get? 254)
noncomputable abbrev YaK (w:World):List (Option Obj) × Option Obj:=((heapK w.params).map fun p => some p.2,some { cls:=.none,data:=.fields #[] })
noncomputable def s1K (w:World) (os:OsState):Shared:=⟨h1K w.params,#[],{},782,os⟩
theorem lk1 (w:World) (os:OsState):(staticsOk (importedModules pK.main.body) (h0K w.params) (h1K w.params) && namesBound pK (h1K w.params) && gensDone (s1K w os) && laidKept (h0K w.params) (h1K w.params)) = true:=by kernel_rfl
theorem lk2 (w:World) (os:OsState):openSeen qK looseK (importedModules pK.main.body) XtK true (s1K w os) = openGood qK looseK:=by
 rw [Fast.te4187177175401517315]
 kernel_rfl
theorem lk3 (w:World) (os:OsState):YfK (s1K w os) = YaK w:=by kernel_rfl
theorem leftK:LeftO pK qK looseK XtK YfK YaK 4034:=LeftO.of_pieces openK sizeK runK (by decide) fun w => by
 funext os
 exact Prod.ext (lk1 w os) (Prod.ext (lk2 w os) (lk3 w os))
noncomputable abbrev rowK:OpenRow:=Fast.tw2368527892694137696 PySem.Challenge.rw_pe0268_01
theorem said5:Fast.tw8326940854005059898 { strict:=!R.allR (Fast.tw5923862056798008813 rowK.prog.main.body) (Fast.tw3471404346716756564 Fast.tw17691160309236699985),foot:=none,bare:=R.filterR (Fast.tw13343964577679436407 rowK.prog rowK.prog.main.body) [⟨⟨[118,97,114,115]⟩⟩,⟨⟨[100,105,114]⟩⟩,⟨⟨[108,111,99,97,108,115]⟩⟩] } rowK.prog.main.body = true:=by kernel_rfl
theorem said1:Fast.tw12908688711261696721 rowK.prog = true:=by
 delta Fast.tw12908688711261696721
 repeat' (with_reducible refine look_both ?_ ?_)
 case _ => kernel_rfl
 case _ => kernel_rfl
 case _ => kernel_rfl
 case _ => kernel_rfl
 case _ => exact said5
 case _ => kernel_rfl
set_option maxHeartbeats 0 in
theorem saidK:PySem.Challenge.rw_pe0268_01.wellSaid = true:=by
 rw [Fast.te9446332074065402090]
 delta Fast.tw9446332074065402090 Fast.tw17960256430627541270 Fast.tw2436336058641802641
 repeat' (with_reducible refine look_both ?_ ?_)
 ·exact said1
 all_goals kernel_rfl
end
section
theorem ns_hide {h:Heap} {a:Addr} {m:Str→Option Value} (n:h.Ns a m) (ha:a ≠ 254):(hideAll h [254]).Ns a m:=
 let ⟨o,es,ep,e,r⟩:=n; ⟨o,es,ep,hideAll_get [254] e (by simpa using ha),r⟩
theorem in_hide {K:Frag} {h:Heap} (X:K.In h) (e:K.lookup 254 = none):K.In (hideAll h [254]):=fun a o q => hideAll_get [254] (X a o q) fun hm => by
 rw [List.mem_singleton.mp hm,e] at q
 cases q
noncomputable def cxK (w:World) {h:Heap} {mg mb:Str→Option Value} (X:(heapK w.params).In h) (T:TopRead qK (looseW qK looseK) mg mb h):Cx where
 prog:=pK
 w:=w
 K:=heapK w.params
 H:=hideAll h [254]
 p:=qK
 loose:=looseW qK looseK
 mg:=mg
 mb:=mb
 X:=in_hide X rfl
 T:=⟨ns_hide T.g (by decide),ns_hide T.b (by decide),let ⟨mc,a,b⟩:=T.nolimit; ⟨mc,ns_hide a (by decide),b⟩,T.builtins,T.free⟩
 sysm:=⟨340,_,in_hide X rfl 340 _ rfl,by decide⟩
theorem rd_ints {R:WRecords} {cl:Str→Option Addr} {P:Params} {h:Heap}:∀ {ns:List Int} {vs:List Value} {as:List Addr},ReadsAllW R cl h vs (ns.map .int) as→RdAll P [] h vs (ns.map .int)
 | [],vs,as,r => by
  obtain ⟨rfl,_⟩:=readsAllW_nil_inv r
  exact .nil
 | i :: ns,vs,as,r => by
  left;rcases readsAllW_cons_inv r with ⟨v,vs,as1,as2,z0_,z1_,r1,r2⟩;right;subst z0_;subst z1_
  left;rcases readsW_int_inv r1 with ⟨t,z0_,_⟩;right;subst z0_
  exact .cons (.int _ _) (rd_ints r2)
theorem pre_len {ns:List Int} (h:PySem.Challenge.rw_pe0268_01.row.pre.holds [] { args:=[.list (ns.map .int)] } = true):ns.length ≤ 63:=by
 have h1:=condW_of (holds_andW h).1 (w_not (w_lt w_lit (w_len_list (w_arg rfl))))
 rw [List.length_map] at h1
 simp at h1
 omega
set_option maxHeartbeats 4000000 in
theorem walkK {d:DefRec} {kwd:List (Str × PySem.Expr)} (hn:d.name = "law"):WalkO qK looseK (XL qK []) (fun w h => InK heapK w h∧PF h) PySem.Challenge.rw_pe0268_01.row.toRowW d kwd fun f vs => PySem.call f vs:=by
 intro w s₀ s₁ mg mb G Y fa o pm cd doc dV kV ho hd hcd hD hmg hgens args vals as hpre hlay hrd hwl hlo
 have hX:(heapK w.params).In s₁.heap:=Y.1
 have hP:PF s₁.heap:=Y.2
 have T:=topRead_of G.T
 have hfa:fa = 340:=by
  rw [hn,mg_of hX T.g (v:=.ref 340) rfl] at hmg
  cases hmg
  rfl
 subst hfa
 obtain ⟨hA,hpr⟩:=pre_splitW hpre
 left;rcases hasAllW_cons hA with ⟨d1,r1,z0_,h1,h2⟩;right;subst z0_
 obtain rfl:=hasAllW_nil h2
 left;rcases hasW_list h1 with ⟨xs,z0_,h3⟩;right;subst z0_
 obtain ⟨ns,rfl⟩:=items_int h3
 have hl:=pre_len hpr
 left;rcases readsAllW_cons_inv hrd with ⟨v,vs,as1,as2,z0_,z1_,r1,r2⟩;right;subst z0_;subst z1_
 obtain ⟨rfl,rfl⟩:=readsAllW_nil_inv r2
 left;rcases readsW_list_inv r1 with ⟨a,vs,as',z0_,⟨o1,e1,e2,n1,e3⟩,ri,z1_⟩;right;subst z0_;subst z1_
 have is:Is (cxK w hX T):=rfl
 have g:GCx (cxK w hX T):=⟨hideAll_none [254] (by simp),let ⟨bm,ob,a,b,c,d,e,f⟩:=G.T.bmain; ⟨bm,ob,ns_hide T.g (by decide),a,b,hideAll_get [254] c (fun hm => by
  rw [List.mem_singleton.mp hm,hP] at c
  cases c
  cases d),d,e,f⟩,mg_none_of hX T.g rfl,(T.builtins "str" (by decide)).trans rfl⟩
 refine f_law_all is g (n:=0) ns hl callerA _ s₁ [] _ _ ⟨rfl,by decide,by decide,[],rfl,trivial⟩ (fun b o q => of_hideAll [254] q) (fun a h => nomatch h) (fun a h => nomatch h) (AllBare.of_eq hgens) hP (fun h => nomatch h) (fun a h => nomatch h) (.cons (.lst (vs:=vs.toList) (fun h => nomatch h) e1 e2 (by rw [e3]) (rd_ints ri)) .nil) fun v s' K rv => ?_
 cases rv
 obtain ⟨vs2,ht⟩:=K.tab
 refine ⟨.inl ⟨.bool true,.bool true,[],rfl,fun _ => rfl,.bool true,postW_of rfl (w_eq_bool (w_res rfl) w_lit) rfl,fun _ => ⟨.nil,fun a h => nomatch h⟩⟩,⟨fun b o e => ?_,fun b o e => (Nat.decEq b 254).byCases (fun hb => ⟨_,hb ▸ ht⟩) fun hb => ⟨_,K.keep b o hb (fun h => nomatch h) e⟩⟩,K.os,K.gens⟩
 by_cases hb:b = 254
 ·subst hb
  rw [hP] at e
  cases e
  left;rcases code258 is with ⟨o2,vs3,c1,c2,c3,c4,_⟩;right
  exact .inr (.inl ⟨⟨258,o2,vs3,hX _ _ c1,c2,c3,c4⟩,rfl,#[],vs2,rfl,by rw [ht]; simp⟩)
 ·exact .inl (K.keep b o hb (fun h => nomatch h) e)
set_option maxHeartbeats 4000000 in
theorem holdsK:PySem.Challenge.rw_pe0268_01.Holds:=holds_law saidK fun said => holds_open (q:=qK) (loose:=looseK) (Xt:=XtK) (XP:=XL qK []) (Yf:=YfK) (Ya:=YaK) (YP:=fun w h => InK heapK w h∧PF h) (N:=4034) leftK
 (fun w s e => ⟨InK.of asK_of w s (Prod.mk.inj e).1,(Prod.mk.inj e).2⟩) (fun w h h' x k => ⟨InK.keeps w h h' x.1 k,k _ _ x.2⟩) (fun s e => xl_of s (Bool.and_eq_true_iff.mp e).1) XL.keeps (by rfl) (by rfl) (by rfl)
 (fun s e => recFacts_of (Bool.and_eq_true_iff.mp e).2) (by rfl) said (by decide +kernel) ⟨rfl,rfl,rfl,rfl,rfl,by decide +kernel⟩ ⟨[.list []],by decide +kernel,by decide +kernel⟩ (walkK rfl)
end
end Mine
theorem PySem.Challenge.cw_pe0268_01_holds : PySem.Challenge.rw_pe0268_01.Holds :=
  Mine.holdsK
