import PyProof.Rows.All
import Wide.All
import OpenK.AllK
import Wide.FinOn
import PyProof.StrBlockL
import PyProof.SliceMore
import PyProof.CompFree
import PyProof.DictCompW
import PyProof.InstStoreFacts
import OpenK.KMake
import PyProof.Draws
import PyProof.EnumMake
import PyProof.P3In
import PyProof.Rows.Chain
import KE.KSortTup
import PyProof.ExcFactsAll.ValueError
import PyProof.ExcFactsAll.ZeroDivisionError
import PyProof.Rows.FactsExc_ZeroDivisionError
import PyProof.ExcAttrAll.ValueError
import PyProof.ExcAttrAll.ZeroDivisionError
import PyProof.ExcStrAll.ValueError
import PyProof.ExcStrAll.ZeroDivisionError
import PyProof.ExcStrCall
import PyProof.NsDelKeeps
import PyProof.RulesAs
import PyProof.RangeFor
import Lean
import PySem.Challenge.RW_wb0073_02
set_option Elab.async false
set_option maxRecDepth 100000
set_option autoImplicit false
set_option linter.all false
set_option genInjectivity false
set_option genSizeOf false
set_option bootstrap.genMatcherCode false
set_option tactic.hygienic false
namespace Mine
section
open PySem PySem.W PyProof.Rows PySem.Calls
private theorem dA {a b n:Nat} (h:a≤n) (e:Nat.ble b a = true):b≤n:=Nat.le_trans (Nat.le_of_ble_eq_true e) h
private theorem dB {a b n:Nat} (h:n≤a) (e:Nat.ble a b = true):n≤b:=Nat.le_trans h (Nat.le_of_ble_eq_true e)
private theorem dC {a b n k:Nat} (h:a≤n + k) (e:Nat.ble (b + k) a = true):b≤n:=Nat.le_of_add_le_add_right (Nat.le_trans (Nat.le_of_ble_eq_true e) h)
private theorem dD {a b n k:Nat} (h:n + k≤a) (e:Nat.ble a (b + k) = true):n≤b:=Nat.le_of_add_le_add_right (Nat.le_trans h (Nat.le_of_ble_eq_true e))
private theorem dE {a b n k:Nat} (h:a≤n) (e:Nat.ble b (a + k) = true):b≤n + k:=Nat.le_trans (Nat.le_of_ble_eq_true e) (Nat.add_le_add_right h k)
private theorem dF {a b n k:Nat} (h:n≤a) (e:Nat.ble (a + k) b = true):n + k≤b:=Nat.le_trans (Nat.add_le_add_right h k) (Nat.le_of_ble_eq_true e)
noncomputable abbrev lo (vs:List Value) (n:Nat:=0):Obj:={ cls:=.type "list",data:=.seq vs.toArray n }
noncomputable abbrev tpo (vs:List Value) (n:Nat:=0):Obj:={ cls:=.type "tuple",data:=.seq vs.toArray n }
structure Site where
  c:Addr
  t:Addr
  at':List (Pos × Str)
inductive Cel where
  | frz (o:Obj) | pin (o:Obj) | mu (i:Nat) | tab (st:Site)
private theorem Cel.fnp {o:Obj}:∀ p,Cel.frz o ≠ .pin p:=fun zz h=>by cases h
private theorem Cel.mnp {i:Nat}:∀ p,Cel.mu i ≠ .pin p:=fun zz h=>by cases h
structure Map where
  h:Addr→Option Cel
  g:Nat→Option GenState
structure Map.le (M N:Map):Prop where
  h:∀ a x,M.h a = some x→N.h a = some x
  g:∀ i x,M.g i = some x→N.g i = some x
private theorem Map.le.rf (M:Map):M.le M:=⟨fun zz zz e=>e,fun zz zz e=>e⟩
private theorem Map.le.tr {M N O:Map} (x:M.le N) (y:N.le O):M.le O:=⟨fun a o e=>y.h a o (x.h a o e),fun a o e=>y.g a o (x.g a o e)⟩
noncomputable def Map.ob (M:Map) (a:Addr) (o:Obj):Prop:=M.h a = some (.frz o)∨M.h a = some (.pin o)
private theorem Map.ob.up {M N:Map} {a:Addr} {o:Obj} (h:M.ob a o) (l:M.le N):N.ob a o:=h.imp (l.h _ _) (l.h _ _)
noncomputable def Map.lef (M N:Map):Prop:=∀ a o,M.h a = some (.frz o)→N.h a = some (.frz o)
noncomputable def Map.le0 (M N:Map):Prop:=∀ a x,M.h a = some x→(∀ o,x ≠ .pin o)→N.h a = some x
private theorem Map.le0.f {M N:Map} (l:M.le0 N):M.lef N:=fun a o e=>l a _ e Cel.fnp
private theorem Map.le.l0 {M N:Map} (l:M.le N):M.le0 N:=fun a x e zz=>l.h a x e
noncomputable def Map.set (M:Map) (a:Addr) (x:Cel):Map:=⟨fun b=>if b = a then some x else M.h b,M.g⟩
private theorem Map.set_at (M:Map) (a:Addr) (x:Cel):(M.set a x).h a = some x:=if_pos rfl
private theorem Map.set_ne (M:Map) {a b:Addr} (x:Cel) (h:b ≠ a):(M.set a x).h b = M.h b:=if_neg h
private theorem Map.le_set {M:Map} {a:Addr} (x:Cel) (h:M.h a = none):M.le (M.set a x):=⟨fun b y e=>by
  rw [Map.set_ne _ _ fun q=>by rw [q,h] at e; cases e]; exact e,fun zz zz e=>e⟩
structure Amb where
  prog:Program
  w:World
  B:Map
  os:OsState
structure LamS where
  body:Expr
  params:Arguments
  scope:Scope
inductive AV where
  | none | bool (b:Bool) | int (i:Int) | str (l:List Nat) | tup (xs:List AV) | lst (xs:List AV)
  | dct (ks:List (Int × Int)) | rng (a b:Int) | mref (i:Nat) | inst (C:Addr) (i:Nat) | strm (L:LamS) (i:Nat) | ext (v:Value)
inductive AObj where
  | lst (xs:List AV) | ns (l:List (Str × AV)) | dead | cit (m:Option (Addr × Addr × Nat))
noncomputable abbrev Mem:=List AObj
class inductive IntVals:List (Int × Value)→List (Int × Int)→Prop
  | nil:IntVals [] []
  | cons {k v t r q}:IntVals r q→IntVals ((k,.int v t) :: r) ((k,v) :: q)
structure IntDict' (o:Obj) (ks:List (Int × Int)) (es:Array DictEntry) (ep:Nat) (kvs:List (Int × Value)):Prop where
  ex:o.ExactDict
  data:o.data = .dict es ep
  k:∀ prog w,PySem.KeysOf (intKind prog w) es
  p:∀ prog w,PySem.Pairs (intKind prog w) es.toList kvs
  nd:(kvs.map (·.1)).Nodup
  v:IntVals kvs ks
noncomputable def IntDict (o:Obj) (ks:List (Int × Int)):Prop:=∃ es ep kvs,IntDict' o ks es ep kvs
noncomputable abbrev rngObj (a b c:Int) (t u v:Tok):Obj:={ cls:=.type "range",dict:=none,data:=.fields #[.int a t,.int b u,.int c v],slots:=#[] }
inductive CodeRecM (M:Map):Value→Str→Prop
  | mk {c o vs q t}:M.h c = some (.frz o)→o.data = .fields vs→vs[1]? = some (.str q t)→CodeRecM M (.ref c) q
private theorem CodeRecM.up {M N:Map} {cd:Value} {q:Str} (h:CodeRecM M cd q) (l:M.lef N):CodeRecM N cd q:=by
  cases h with
  | mk a b c=>exact .mk (l _ _ a) b c
structure LamAt' (M:Map) (L:LamS) (r:Addr) (x:Str) (c:Addr) (o:Obj) (fd:FuncData):Prop where
  m:M.h r = some (.frz o)
  cls:o.cls = .type "function"
  data:o.data = .func fd
  body:fd.body = .expr L.body
  params:fd.params = L.params
  scope:fd.scope = L.scope
  gl:fd.globals = mainGlobals
  bu:fd.builtins = builtinsNs
  clo:fd.closure = [(x,c)]
  df:fd.defaults = .none
  kd:fd.kwdefaults = .none
  code:CodeRecM M fd.code fd.qualname
noncomputable def LamAt (M:Map) (L:LamS) (r:Addr) (x:Str) (c:Addr):Prop:=∃ o fd,LamAt' M L r x c o fd
structure StrmAt' (M:Map) (L:LamS) (f l:Addr) (o:Obj) (fd:FuncData) (d:Addr) (od:Obj) (es:Array DictEntry) (ep:Nat) (r:Addr) (o2:Obj) (fd2:FuncData) (c:Addr) (oc:Obj):Prop where
  m:M.h f = some (.frz o)
  cls:o.cls = .type "function"
  data:o.data = .func fd
  dict:o.dict = some d
  md:M.h d = some (.frz od)
  dd:od.data = .dict es ep
  keys:StrKeys es
  find:∀ n,nsFind es n = if n = ("read":Str) then some (.ref r) else none
  lam:LamAt' M L r "left" c o2 fd2
  mc:M.h c = some (.frz oc)
  cd:oc.data = .cell (some (.ref l))
noncomputable def StrmAt (M:Map) (L:LamS) (f l:Addr):Prop:=∃ o fd d od es ep r o2 fd2 c oc,StrmAt' M L f l o fd d od es ep r o2 fd2 c oc
private theorem LamAt'.up {M N:Map} {L r x c o fd} (h:LamAt' M L r x c o fd) (l:M.lef N):LamAt' N L r x c o fd:={ h with m:=l _ _ h.m,code:=h.code.up l }
private theorem StrmAt.up {M N:Map} {L f l} (h:StrmAt M L f l) (q:M.lef N):StrmAt N L f l:=by
  obtain ⟨o,fd,d,od,es,ep,r,o2,fd2,c,oc,h⟩:=h
  exact ⟨o,fd,d,od,es,ep,r,o2,fd2,c,oc,{ h with m:=q _ _ h.m,md:=q _ _ h.md,mc:=q _ _ h.mc,lam:=h.lam.up q }⟩
class inductive Rep (M:Map):AV→Value→Prop
  | none:Rep M .none .none
  | bool (b:Bool):Rep M (.bool b) (.bool b)
  | int (i:Int) (t:Tok):Rep M (.int i) (.int i t)
  | str (l:List Nat) (t:Tok):Rep M (.str l) (.str ⟨l.toArray⟩ t)
  | tup {a:Addr} {xs:List AV} {vs:List Value} {n:Nat}:M.h a = some (.frz (tpo vs n))→vs.length = xs.length→(∀ (i:Nat) x v,xs[i]? = some x→vs[i]? = some v→Rep M x v)→Rep M (.tup xs) (.ref a)
  | lst {a:Addr} {xs:List AV} {vs:List Value} {n:Nat}:M.h a = some (.frz (lo vs n))→vs.length = xs.length→(∀ (i:Nat) x v,xs[i]? = some x→vs[i]? = some v→Rep M x v)→Rep M (.lst xs) (.ref a)
  | dct {a:Addr} {ks o}:M.h a = some (.frz o)→IntDict o ks→Rep M (.dct ks) (.ref a)
  | rng {a:Addr} {x y t u v}:M.h a = some (.frz (rngObj x y 1 t u v))→Rep M (.rng x y) (.ref a)
  | mref {i:Nat} {a:Addr}:M.h a = some (.mu i)→Rep M (.mref i) (.ref a)
  | inst {C:Addr} {i:Nat} {a d:Addr} {o}:M.h a = some (.frz o)→o.cls = .ref C→(∀ c,o.data ≠ .cls c)→o.dict = some d→M.h d = some (.mu i)→Rep M (.inst C i) (.ref a)
  | strm {L:LamS} {i:Nat} {f l:Addr}:StrmAt M L f l→M.h l = some (.mu i)→Rep M (.strm L i) (.ref f)
  | ext (v):Rep M (.ext v) v
private theorem Rep.up0 {M N:Map} (l:M.le0 N) {x v} (r:Rep M x v):Rep N x v:=by
  induction r with
  | none=>exact .none
  | bool b=>exact .bool b
  | int i t=>exact .int i t
  | str l t=>exact .str l t
  | tup h1 h2 _ ih=>exact .tup (l _ _ h1 Cel.fnp) h2 ih
  | lst h1 h2 _ ih=>exact .lst (l _ _ h1 Cel.fnp) h2 ih
  | dct h1 h2=>exact .dct (l _ _ h1 Cel.fnp) h2
  | rng h=>exact .rng (l _ _ h Cel.fnp)
  | mref h=>exact .mref (l _ _ h Cel.mnp)
  | inst h1 h2 h3 h4 h5=>exact .inst (l _ _ h1 Cel.fnp) h2 h3 h4 (l _ _ h5 Cel.mnp)
  | strm h1 h2=>exact .strm (h1.up l.f) (l _ _ h2 Cel.mnp)
  | ext v=>exact .ext v
private theorem Rep.up {M N:Map} {x v} (r:Rep M x v) (l:M.le N):Rep N x v:=r.up0 l.l0
structure Reps (M:Map) (xs:List AV) (vs:List Value):Prop where
  len:vs.length = xs.length
  at':∀ (i:Nat) x v,xs[i]? = some x→vs[i]? = some v→Rep M x v
section
variable {M:Map} {v:Value}
inductive IsTup (M:Map) (xs:List AV):Value→Prop
  | mk {a vs n}:M.h a = some (.frz (tpo vs n))→Reps M xs vs→IsTup M xs (.ref a)
inductive IsLst (M:Map) (xs:List AV):Value→Prop
  | mk {a vs n}:M.h a = some (.frz (lo vs n))→Reps M xs vs→IsLst M xs (.ref a)
inductive IsMut (M:Map) (i:Nat):Value→Prop
  | mk {a}:M.h a = some (.mu i)→IsMut M i (.ref a)
inductive IsDct (M:Map) (ks:List (Int × Int)):Value→Prop
  | mk {a o}:M.h a = some (.frz o)→IntDict o ks→IsDct M ks (.ref a)
inductive IsRng (M:Map) (x y:Int):Value→Prop
  | mk {a t u v}:M.h a = some (.frz (rngObj x y 1 t u v))→IsRng M x y (.ref a)
inductive IsInst (M:Map) (C:Addr) (i:Nat):Value→Prop
  | mk {a d o}:M.h a = some (.frz o)→o.cls = .ref C→(∀ c,o.data ≠ .cls c)→o.dict = some d→M.h d = some (.mu i)→IsInst M C i (.ref a)
inductive IsStrm (M:Map) (L:LamS) (i:Nat):Value→Prop
  | mk {f l}:StrmAt M L f l→M.h l = some (.mu i)→IsStrm M L i (.ref f)
noncomputable def RepI (M:Map):AV→Value→Prop
  | .none,v=>v = .none
  | .bool b,v=>v = .bool b
  | .int i,v=>∃ t,v = .int i t
  | .str l,v=>∃ t,v = .str ⟨l.toArray⟩ t
  | .tup xs,v=>IsTup M xs v
  | .lst xs,v=>IsLst M xs v
  | .dct ks,v=>IsDct M ks v
  | .rng x y,v=>IsRng M x y v
  | .mref i,v=>IsMut M i v
  | .inst C i,v=>IsInst M C i v
  | .strm L i,v=>IsStrm M L i v
  | .ext w,v=>v = w
private theorem Rep.inv {x:AV} (r:Rep M x v):RepI M x v:=by
  cases r with
  | none=>exact rfl
  | bool b=>exact rfl
  | int i t=>exact ⟨_,rfl⟩
  | str l t=>exact ⟨_,rfl⟩
  | tup a b c=>exact .mk a ⟨b,c⟩
  | lst a b c=>exact .mk a ⟨b,c⟩
  | dct a b=>exact .mk a b
  | rng a=>exact .mk a
  | mref a=>exact .mk a
  | inst a b c d e=>exact .mk a b c d e
  | strm a b=>exact .mk a b
  | ext w=>exact rfl
private theorem Rep.i_none (r:Rep M .none v):v = .none:=r.inv
private theorem Rep.i_bool {b:Bool} (r:Rep M (.bool b) v):v = .bool b:=r.inv
private theorem Rep.i_int {i:Int} (r:Rep M (.int i) v):∃ t,v = .int i t:=r.inv
private theorem Rep.i_str {l:List Nat} (r:Rep M (.str l) v):∃ t,v = .str ⟨l.toArray⟩ t:=r.inv
private theorem Rep.i_tup {xs:List AV} (r:Rep M (.tup xs) v):IsTup M xs v:=r.inv
private theorem Rep.i_lst {xs:List AV} (r:Rep M (.lst xs) v):IsLst M xs v:=r.inv
private theorem Rep.i_mref {i:Nat} (r:Rep M (.mref i) v):IsMut M i v:=r.inv
private theorem Rep.i_dct {ks} (r:Rep M (.dct ks) v):IsDct M ks v:=r.inv
private theorem Rep.i_rng {x y} (r:Rep M (.rng x y) v):IsRng M x y v:=r.inv
private theorem Rep.i_inst {C i} (r:Rep M (.inst C i) v):IsInst M C i v:=r.inv
private theorem Rep.i_strm {L i} (r:Rep M (.strm L i) v):IsStrm M L i v:=r.inv
private theorem Rep.i_ext {w:Value} (r:Rep M (.ext w) v):v = w:=r.inv
private theorem Rep.tupOf {xs:List AV} {a:Addr} {vs:List Value} {n:Nat} (h:M.h a = some (.frz (tpo vs n))) (r:Reps M xs vs):Rep M (.tup xs) (.ref a):=.tup h r.len r.at'
private theorem Rep.lstOf {xs:List AV} {a:Addr} {vs:List Value} {n:Nat} (h:M.h a = some (.frz (lo vs n))) (r:Reps M xs vs):Rep M (.lst xs) (.ref a):=.lst h r.len r.at'
end
section
variable {M N:Map}
private theorem Reps.up {xs:List AV} {vs:List Value} (r:Reps M xs vs) (l:M.le N):Reps N xs vs:=⟨r.len,fun i x v h1 h2=>(r.at' i x v h1 h2).up l⟩
private theorem Reps.nil:Reps M [] []:=⟨rfl,fun zz zz zz h=>by cases h⟩
private theorem Reps.cons {x:AV} {v:Value} {xs:List AV} {vs:List Value} (r:Rep M x v) (rs:Reps M xs vs):Reps M (x :: xs) (v :: vs):=⟨congrArg (· + 1) rs.len,fun i=>by
  cases i with
  | zero=>intro x v h1 h2; cases h1; cases h2; exact r
  | succ i=>exact rs.at' i⟩
inductive Reps.Cons (M:Map) (x:AV) (xs:List AV):List Value→Prop
  | mk {v vs}:Rep M x v→Reps M xs vs→Reps.Cons M x xs (v :: vs)
private theorem Reps.i_cons {x:AV} {xs:List AV} {vs:List Value} (r:Reps M (x :: xs) vs):Reps.Cons M x xs vs:=by
  cases vs with
  | nil=>exact absurd r.len nofun
  | cons v vs=>exact .mk (r.at' 0 x v rfl rfl) ⟨Nat.succ.inj r.len,fun i=>r.at' (i + 1)⟩
private theorem Reps.i_nil {vs:List Value} (r:Reps M [] vs):vs = []:=List.eq_nil_of_length_eq_zero r.len
private theorem Reps.one {x:AV} {v:Value} (r:Rep M x v):Reps M [x] [v]:=.cons r .nil
private theorem Reps.get {xs:List AV} {vs:List Value} (r:Reps M xs vs) {i:Nat} {x:AV} (h:xs[i]? = some x):∃ v,vs[i]? = some v∧Rep M x v :=
  have hi:i < vs.length:=r.len ▸ (List.getElem?_eq_some_iff.mp h).1
  ⟨_,List.getElem?_eq_getElem hi,r.at' i x _ h (List.getElem?_eq_getElem hi)⟩
private theorem Reps.get' {xs:List AV} {vs:List Value} (r:Reps M xs vs) {i:Nat} {v:Value} (h:vs[i]? = some v):∃ x,xs[i]? = some x∧Rep M x v :=
  have hi:i < xs.length:=r.len ▸ (List.getElem?_eq_some_iff.mp h).1
  ⟨_,List.getElem?_eq_getElem hi,r.at' i _ v (List.getElem?_eq_getElem hi) h⟩
private theorem Reps.app {xs ys:List AV} {vs ws:List Value} (r:Reps M xs vs) (q:Reps M ys ws):Reps M (xs++ys) (vs++ws):=by
  induction xs generalizing vs with
  | nil=>rw [r.i_nil]; exact q
  | cons x xs ih =>
    cases r.i_cons with
    | mk r1 rs=>exact .cons r1 (ih rs)
end
structure TabOk' (M:Map) (h:Heap) (a:Addr) (st:Site) (ps:Array Value):Prop where
  g:h.get? a = some (tabObj ps)
  ok:TriplesOk ps.toList
  r:∀ pq∈st.at',∀ cv,codeAmong pq.1 ps.toList = some cv→CodeRecM M cv pq.2
noncomputable def NsV (M:Map) (l:List (Str × AV)) (m:Str→Option Value):Prop:=∀ x,(∃ av v,l.lookup x = some av∧m x = some v∧Rep M av v)∨(l.lookup x = none∧m x = none)
private theorem NsV.up {M N:Map} {l:List (Str × AV)} {m:Str→Option Value} (h:NsV M l m) (q:M.le0 N):NsV N l m:=fun x=>(h x).imp (fun ⟨av,v,h1,h2,h3⟩=>⟨av,v,h1,h2,h3.up0 q⟩) id
inductive MemAt (M:Map) (h:Heap) (a:Addr):AObj→Prop
  | lst {xs vs n}:h.get? a = some (lo vs n)→Reps M xs vs→MemAt M h a (.lst xs)
  | ns {l m}:h.Ns1 a m→NsV M l m→MemAt M h a (.ns l)
  | cit0 {b z}:h.get? a = some { cls:=.type "callable_iterator",data:=.fields #[b,z,.bool true] }→MemAt M h a (.cit none)
  | cit {f C i b x t}:h.get? a = some { cls:=.type "callable_iterator",data:=.fields #[.ref b,.str ⟨#[]⟩ t,.bool false] }→M.h b = some (.frz { cls:=.type "method",data:=.fields #[.ref f,.ref x] })→Rep M (.inst C i) (.ref x)→MemAt M h a (.cit (some (f,C,i)))
inductive CellAt (M:Map) (mem:Mem) (h:Heap) (a:Addr):Cel→Prop
  | frz {o}:h.get? a = some o→CellAt M mem h a (.frz o)
  | pin {o}:h.get? a = some o→CellAt M mem h a (.pin o)
  | mu {i ao}:mem[i]? = some ao→MemAt M h a ao→CellAt M mem h a (.mu i)
  | tab {st ps}:TabOk' M h a st ps→CellAt M mem h a (.tab st)
private theorem Reps.up0 {M N:Map} {xs:List AV} {vs:List Value} (r:Reps M xs vs) (l:M.le0 N):Reps N xs vs:=⟨r.len,fun i x v h1 h2=>(r.at' i x v h1 h2).up0 l⟩
section
variable {M N:Map} {mem mem':Mem} {h h':Heap} {a:Addr}
private theorem MemAt.go {ao:AObj} (x:MemAt M h a ao) (q:M.le0 N) (hh:∀ o,h.get? a = some o→h'.get? a = some o):MemAt N h' a ao:=by
  cases x with
  | lst g r=>exact .lst (hh _ g) (r.up0 q)
  | ns g r=>exact .ns (g.at hh) (r.up q)
  | cit0 g=>exact .cit0 (hh _ g)
  | cit g m r=>exact .cit (hh _ g) (q _ _ m Cel.fnp) (r.up0 q)
private theorem CellAt.go {x:Cel} (c:CellAt M mem h a x) (q:M.le0 N) (hh:∀ o,h.get? a = some o→h'.get? a = some o) (hm:∀ j,x = .mu j→mem'[j]? = mem[j]?):CellAt N mem' h' a x:=by
  cases c with
  | frz g=>exact .frz (hh _ g)
  | pin g=>exact .pin (hh _ g)
  | mu e g=>exact .mu ((hm _ rfl).trans e) (g.go q hh)
  | tab g=>exact .tab ⟨hh _ g.g,g.ok,fun pq h1 cv h2=>(g.r pq h1 cv h2).up q.f⟩
private theorem MemAt.get {ao:AObj} (x:MemAt M h a ao):∃ o,h.get? a = some o:=by
  cases x with
  | lst g _=>exact ⟨_,g⟩
  | ns g _=>obtain ⟨o,_,_,e,_⟩:=g; exact ⟨o,e⟩
  | cit0 g=>exact ⟨_,g⟩
  | cit g _ _=>exact ⟨_,g⟩
private theorem CellAt.get {x:Cel} (c:CellAt M mem h a x):∃ o,h.get? a = some o:=by
  cases c with
  | frz g=>exact ⟨_,g⟩
  | pin g=>exact ⟨_,g⟩
  | mu _ g=>exact g.get
  | tab g=>exact ⟨_,g.g⟩
end
structure Sep (X:Amb) (s:Shared) (M:Map) (mem:Mem):Prop where
  c:∀ a x,M.h a = some x→CellAt M mem s.heap a x
  i:∀ a b j,M.h a = some (.mu j)→M.h b = some (.mu j)→a = b
  g:∀ i x,M.g i = some x→s.gens[i]? = some x
  x:X.B.le M
  os:s.os = X.os
  bare:AllBare s.gens
section
variable {X:Amb} {s:Shared} {M:Map} {mem:Mem}
private theorem Sep.frz (S:Sep X s M mem) {a:Addr} {o:Obj} (h:M.h a = some (.frz o)):s.heap.get? a = some o:=by
  cases S.c a _ h with
  | frz g=>exact g
private theorem Sep.pin (S:Sep X s M mem) {a:Addr} {o:Obj} (h:M.h a = some (.pin o)):s.heap.get? a = some o:=by
  cases S.c a _ h with
  | pin g=>exact g
private theorem Sep.ob (S:Sep X s M mem) {a:Addr} {o:Obj} (h:M.ob a o):s.heap.get? a = some o:=h.elim S.frz S.pin
private theorem Sep.mu (S:Sep X s M mem) {a:Addr} {i:Nat} {ao:AObj} (h:M.h a = some (.mu i)) (e:mem[i]? = some ao):MemAt M s.heap a ao:=by
  cases S.c a _ h with
  | mu q g=>rw [q] at e; cases e; exact g
private theorem Sep.lt (S:Sep X s M mem) {a:Addr} {i:Nat} (h:M.h a = some (.mu i)):i < mem.length:=by
  cases S.c a _ h with
  | mu q g=>exact (List.getElem?_eq_some_iff.mp q).1
private theorem Sep.fresh (S:Sep X s M mem) {a:Addr} (h:s.heap.get? a = none):M.h a = none:=by
  cases e:M.h a with
  | none=>rfl
  | some x=>obtain ⟨o,q⟩:=(S.c a x e).get; rw [h] at q; cases q
private theorem Sep.top (S:Sep X s M mem):M.h s.heap.objs.size = none:=S.fresh (by
  cases e:s.heap.get? s.heap.objs.size with
  | none=>rfl
  | some o=>exact absurd (Heap.lt_size e) (Nat.lt_irrefl _))
private theorem Sep.keep (S:Sep X s M mem) {h':Heap} {tk:Nat} (hk:∀ b o,M.h b ≠ none→s.heap.get? b = some o→h'.get? b = some o):Sep X { s with heap:=h',toks:=tk } M mem :=
  { S with c:=fun a x e=>(S.c a x e).go (Map.le.rf M).l0 (fun o=>hk a o (by rw [e]; exact nofun)) fun zz zz=>rfl }
private theorem Sep.tok (S:Sep X s M mem) (tk:Nat):Sep X { s with toks:=tk } M mem:=S.keep (h':=s.heap) fun zz zz zz e=>e
private theorem Sep.put (S:Sep X s M mem) {a:Addr} {x:Cel} {h':Heap} {tk:Nat} {mem':Mem} (hl:∀ y,M.h a = some y→(∀ o,y ≠ .pin o)→y = x) (hb:∀ y,X.B.h a = some y→y = x) (hh:∀ b o,b ≠ a→s.heap.get? b = some o→h'.get? b = some o)
    (hm:∀ b j,b ≠ a→M.h b = some (.mu j)→mem'[j]? = mem[j]?) (hu:∀ j,x = .mu j→∀ b,M.h b = some (.mu j)→b = a) (hx:CellAt (M.set a x) mem' h' a x):Sep X { s with heap:=h',toks:=tk } (M.set a x) mem' :=
  have l0:M.le0 (M.set a x):=fun b y e n=>by
    by_cases hb:b = a
    · subst hb; rw [Map.set_at,hl y e n]
    · rw [Map.set_ne _ _ hb]; exact e
  { S with
    c:=fun b y e=>by
      by_cases hb:b = a
      · subst hb; rw [Map.set_at] at e; cases e; exact hx
      · rw [Map.set_ne _ _ hb] at e
        exact (S.c b y e).go l0 (fun o=>hh b o hb) fun j q=>hm b j hb (q ▸ e)
    i:=fun b d j e1 e2=>by
      by_cases h1:b = a
      · subst h1
        by_cases h2:d = b
        · exact h2.symm
        · rw [Map.set_at] at e1; rw [Map.set_ne _ _ h2] at e2; cases e1; exact (hu j rfl d e2).symm
      · rw [Map.set_ne _ _ h1] at e1
        by_cases h2:d = a
        · subst h2; rw [Map.set_at] at e2; cases e2; exact hu j rfl b e1
        · rw [Map.set_ne _ _ h2] at e2; exact S.i b d j e1 e2
    x:=⟨fun b y e=>by
      by_cases h1:b = a
      · subst h1; rw [Map.set_at,hb y e]
      · rw [Map.set_ne _ _ h1]; exact S.x.h b y e,S.x.g⟩ }
private theorem Sep.putNew (S:Sep X s M mem) {a:Addr} {x:Cel} {h':Heap} {tk:Nat} {mem':Mem} (ha:M.h a = none) (hh:∀ b o,b ≠ a→s.heap.get? b = some o→h'.get? b = some o)
    (hm:∀ b j,b ≠ a→M.h b = some (.mu j)→mem'[j]? = mem[j]?) (hu:∀ j,x = .mu j→∀ b,M.h b = some (.mu j)→b = a) (hx:CellAt (M.set a x) mem' h' a x):Sep X { s with heap:=h',toks:=tk } (M.set a x) mem' :=
  S.put (fun y e=>by rw [ha] at e; cases e) (fun y e=>by have:=S.x.h a y e; rw [ha] at this; cases this) hh hm hu hx
private theorem push_ne {h:Heap} {o:Obj} {b:Addr} {q:Obj} (e:h.get? b = some q):(h.push o).get? b = some q:=Heap.get?_push_of_some _ e
private theorem Sep.new (S:Sep X s M mem) (o:Obj) (hf:o.isFreed = false) (tk:Nat):Sep X { s with heap:=s.heap.push o,toks:=tk } (M.set s.heap.objs.size (.frz o)) mem :=
  S.putNew S.top (fun zz zz zz=>push_ne) (fun zz zz zz zz=>rfl) nofun (.frz (Heap.get?_push_size _ hf))
private theorem Sep.newPin (S:Sep X s M mem) (o:Obj) (hf:o.isFreed = false) (tk:Nat):Sep X { s with heap:=s.heap.push o,toks:=tk } (M.set s.heap.objs.size (.pin o)) mem :=
  S.putNew S.top (fun zz zz zz=>push_ne) (fun zz zz zz zz=>rfl) nofun (.pin (Heap.get?_push_size _ hf))
private theorem get_app {α:Type} (b t:List α) (k:Nat):(b++t)[b.length + k]? = t[k]?:=by rw [List.getElem?_append_right (Nat.le_add_right _ _),Nat.add_sub_cancel_left]
private theorem get_app0 {α:Type} (b t:List α):(b++t)[b.length]? = t[0]?:=get_app b t 0
private theorem set_app {α:Type} (b t:List α) (k:Nat) (x:α):(b++t).set (b.length + k) x = b++t.set k x:=by rw [List.set_append_right _ _ (Nat.le_add_right _ _),Nat.add_sub_cancel_left]
private theorem set_app0 {α:Type} (b t:List α) (x:α):(b++t).set b.length x = b++t.set 0 x:=set_app b t 0 x
private theorem Sep.newMut (S:Sep X s M mem) (o:Obj) {ao:AObj} (tk:Nat) (hx:MemAt (M.set s.heap.objs.size (.mu mem.length)) (s.heap.push o) s.heap.objs.size ao) :
    Sep X { s with heap:=s.heap.push o,toks:=tk } (M.set s.heap.objs.size (.mu mem.length)) (mem++[ao]) :=
  S.putNew S.top (fun zz zz zz=>push_ne) (fun b j zz e=>List.getElem?_append_left (S.lt e)) (fun j q b e=>by cases q; exact absurd (S.lt e) (Nat.lt_irrefl _)) (.mu (get_app0 _ _) hx)
private theorem Map.set_self {M:Map} {a:Addr} {x:Cel} (h:M.h a = some x):M.set a x = M:=by
  have:(M.set a x).h = M.h:=funext fun b=>by
    by_cases e:b = a
    · rw [e,Map.set_at,h]
    · exact Map.set_ne _ _ e
  show Map.mk (M.set a x).h M.g = Map.mk M.h M.g
  rw [this]
private theorem Sep.setMut (S:Sep X s M mem) {a:Addr} {i:Nat} {ao:AObj} {h':Heap} {tk:Nat} (ha:M.h a = some (.mu i)) (hh:∀ b o,b ≠ a→s.heap.get? b = some o→h'.get? b = some o) (hx:MemAt M h' a ao):Sep X { s with heap:=h',toks:=tk } M (mem.set i ao):=by
  have:=S.put (x:=.mu i) (h':=h') (tk:=tk) (mem':=mem.set i ao) (fun y e zz=>by rw [ha] at e; cases e; rfl) (fun y e=>by have:=S.x.h a y e; rw [ha] at this; cases this; rfl) hh
    (fun b j hb e=>List.getElem?_set_ne fun q=>hb (by subst q; exact S.i _ _ _ e ha)) (fun j q b e=>by cases q; exact S.i _ _ _ e ha) (.mu (List.getElem?_set_self (S.lt ha)) (by rw [Map.set_self ha]; exact hx))
  rw [Map.set_self ha] at this; exact this
end
end
section
open PySem PySem.W PyProof.Rows PySem.Calls
noncomputable abbrev Lc:=List (Str × AV)
noncomputable abbrev Names:=List (Str × NameKind)
inductive VarAt (env:Env) (M:Map) (x:Str) (v:Value):Prop
  | loc {o es ep}:env.kindOf x = some .local→M.h env.locals = some (.pin o)→o.data = .dict es ep→StrKeys es→nsFind es x = some v→VarAt env M x v
  | cel {c o}:env.kindOf x = some .cell∨env.kindOf x = some .free→env.cells.lookup x = some c→M.ob c o→o.data = .cell (some v)→VarAt env M x v
noncomputable def NmR (a b:Names):Prop:=∀ x,a.lookup x = b.lookup x∨(a.lookup x = some .cell∧b.lookup x = some .free)
private theorem NmR.rf (a:Names):NmR a a:=fun zz=>.inl rfl
private theorem NmR.of {a b:Names} (h:a = b):NmR a b:=fun zz=>.inl (h ▸ rfl)
private theorem NmR.no {a b:Names} (h:NmR a b) {x:Str} (q:b.lookup x = none):a.lookup x = none:=(h x).elim (fun e=>e.trans q) fun e=>by rw [q] at e; cases e.2
private theorem NmR.at {a b:Names} (h:NmR a b) {x:Str} {k:NameKind} (q:b.lookup x = some k) (n:k ≠ .free):a.lookup x = some k:=(h x).elim (fun e=>e.trans q) fun e=>by rw [q] at e; cases e.2; exact absurd rfl n
private theorem NmR.back {a b:Names} (h:NmR a b) {x:Str} {k:NameKind} (q:a.lookup x = some k) (n:k ≠ .cell):b.lookup x = some k:=(h x).elim (fun e=>e.symm.trans q) fun e=>by rw [q] at e; cases e.1; exact absurd rfl n
structure EnvOk (env:Env) (sc:Names) (M:Map) (L:Lc):Prop where
  names:NmR env.scope.names sc
  kind:env.scope.kind = .function
  gl:env.globals = mainGlobals
  bu:env.builtins = builtinsNs
  dbg:sc.lookup ("__debug__":Str) = none
  cld:sc.lookup ("__classdict__":Str) = none
  cel:∀ x c,env.cells.lookup x = some c→∃ o,M.ob c o
  var:∀ x av,L.lookup x = some av→∃ v,Rep M av v∧VarAt env M x v
private theorem VarAt.up {env:Env} {M N:Map} {x:Str} {v:Value} (h:VarAt env M x v) (l:M.le N):VarAt env N x v:=by
  cases h with
  | loc a b c d e=>exact .loc a (l.h _ _ b) c d e
  | cel a b c d=>exact .cel a b (c.up l) d
private theorem EnvOk.up {env:Env} {sc:Names} {M N:Map} {L:Lc} (n:EnvOk env sc M L) (l:M.le N):EnvOk env sc N L :=
  { n with cel:=fun x c h=>(n.cel x c h).imp fun zz q=>q.up l,var:=fun x av h=>(n.var x av h).imp fun zz q=>⟨q.1.up l,q.2.up l⟩ }
noncomputable def Room (A:Around) (d:Nat):Prop:=A.handled = none∧A.depth + d < recursionLimit∧A.units + 16 * d + 16 < cLine
private theorem Room.le {A:Around} {d e:Nat} (h:Room A d) (he:e≤d):Room A e:=⟨h.1,by have:=h.2.1; lia,by have:=h.2.2; lia⟩
structure Cf where
  s:Shared
  M:Map
noncomputable abbrev Hp (X:Amb) (c:Cf) (mem:Mem):Prop:=Sep X c.s c.M mem
structure At (X:Amb) (D:Nat) (sc:Names) (env:Env) (A:Around) (c:Cf) (L:Lc) (mem:Mem):Prop where
  R:Room A D
  N:EnvOk env sc c.M L
  S:Hp X c mem
structure Got (X:Amb) (c:Cf) (mem:Mem) (av:AV) (v:Value) (d:Cf):Prop where
  l:c.M.le d.M
  h:Hp X d mem
  r:Rep d.M av v
structure Gots (X:Amb) (c:Cf) (mem:Mem) (av:List AV) (v:List Value) (d:Cf):Prop where
  l:c.M.le d.M
  h:Hp X d mem
  r:Reps d.M av v
structure Gt (X:Amb) (c:Cf) (mem:Mem) (d:Cf):Prop where
  l:c.M.le d.M
  h:Hp X d mem
private theorem At.up {X:Amb} {D:Nat} {sc:Names} {env:Env} {A:Around} {c d:Cf} {L:Lc} {m m':Mem} (T:At X D sc env A c L m) (l:c.M.le d.M) (h:Hp X d m'):At X D sc env A d L m':=⟨T.R,T.N.up l,h⟩
private theorem Got.fr {X:Amb} {c d e:Cf} {m:Mem} {av:AV} {v:Value} (g:Got X d m av v e) (l:c.M.le d.M):Got X c m av v e:=⟨l.tr g.l,g.h,g.r⟩
noncomputable abbrev tk (c:Cf) (n:Nat):Cf:=⟨{ c.s with toks:=n },c.M⟩
private theorem Got.tok {X:Amb} {c:Cf} {m:Mem} {av:AV} {v:Value} (h:Hp X c m) (r:Rep c.M av v) (n:Nat):Got X c m av v (tk c n):=⟨Map.le.rf _,h.tok n,r⟩
private theorem Got.now {X:Amb} {c:Cf} {m:Mem} {av:AV} {v:Value} (h:Hp X c m) (r:Rep c.M av v):Got X c m av v c:=⟨Map.le.rf _,h,r⟩
private theorem Got.new {X:Amb} {c:Cf} {m:Mem} (h:Hp X c m) {av:AV} (o:Obj) (hf:o.isFreed = false) (n:Nat) (r:∀ M,c.M.le M→M.h c.s.heap.objs.size = some (.frz o)→Rep M av (.ref c.s.heap.objs.size)) :
    Got X c m av (.ref c.s.heap.objs.size) ⟨{ c.s with heap:=c.s.heap.push o,toks:=n },c.M.set c.s.heap.objs.size (.frz o)⟩ :=
  ⟨Map.le_set _ h.top,h.new o hf n,r _ (Map.le_set _ h.top) (Map.set_at _ _ _)⟩
private theorem Got.newLst {X:Amb} {c:Cf} {m:Mem} (h:Hp X c m) {xs:List AV} {vs:List Value} (r:Reps c.M xs vs) (n:Nat) :
    Got X c m (.lst xs) (.ref c.s.heap.objs.size) ⟨{ c.s with heap:=c.s.heap.push (lo vs),toks:=n },c.M.set c.s.heap.objs.size (.frz (lo vs))⟩:=.new h _ rfl n fun zz l e=>.lstOf e (r.up l)
private theorem Got.newTup {X:Amb} {c:Cf} {m:Mem} (h:Hp X c m) {xs:List AV} {vs:List Value} (r:Reps c.M xs vs) (n:Nat) :
    Got X c m (.tup xs) (.ref c.s.heap.objs.size) ⟨{ c.s with heap:=c.s.heap.push (tpo vs),toks:=n },c.M.set c.s.heap.objs.size (.frz (tpo vs))⟩:=.new h _ rfl n fun zz l e=>.tupOf e (r.up l)
section
variable (X:Amb) (D:Nat) (sc:Names)
noncomputable def PE (e:Expr) (L:Lc) (m:Mem) (av:AV) (m':Mem):Prop :=
  ∀ (env:Env) (A:Around) (c:Cf),At X D sc env A c L m→∀ Q E,(∀ v d,Got X c m' av v d→Q v d.s)→wpAny (model X.prog X.w) A (eval e env) Q E c.s
noncomputable def PT (e:Expr) (L:Lc) (m:Mem) (b:Bool) (m':Mem):Prop :=
  ∀ (env:Env) (A:Around) (c:Cf),At X D sc env A c L m→∀ Q E,(∀ d,Gt X c m' d→Q b d.s)→wpAny (model X.prog X.w) A (isTrue e env (eval e env)) Q E c.s
noncomputable def PEs (es:List Expr) (L:Lc) (m:Mem) (avs:List AV) (m':Mem):Prop :=
  ∀ (pos:Pos) (env:Env) (A:Around) (c:Cf),At X D sc env A c L m→∀ Q E,(∀ vs d,Gots X c m' avs vs d→Q vs d.s)→wpAny (model X.prog X.w) A (spliced (backTo pos (starEach es env))) Q E c.s
noncomputable def Un (op:Value→Sem Value) (m:Mem) (x r:AV):Prop :=
  ∀ (A:Around) (c:Cf) (v:Value),Room A D→Hp X c m→Rep c.M x v→∀ Q E,(∀ v d,Got X c m r v d→Q v d.s)→wpAny (model X.prog X.w) A (op v) Q E c.s
noncomputable def BinM (op:Value→Value→Sem Value) (m:Mem) (x y r:AV) (m':Mem):Prop :=
  ∀ (A:Around) (c:Cf) (v w:Value),Room A D→Hp X c m→Rep c.M x v→Rep c.M y w→∀ Q E,(∀ v d,Got X c m' r v d→Q v d.s)→wpAny (model X.prog X.w) A (op v w) Q E c.s
noncomputable def Bin (op:Value→Value→Sem Value) (m:Mem) (x y r:AV):Prop:=BinM X D op m x y r m
noncomputable def Tru (m:Mem) (x:AV) (b:Bool):Prop :=
  ∀ (A:Around) (c:Cf) (v:Value),Hp X c m→Rep c.M x v→∀ (Q:Bool→Shared→Prop) E,(∀ n,Q b (tk c n).s)→wpAny (model X.prog X.w) A (truthy v) Q E c.s
end
section
variable {X:Amb} {D:Nat} {sc:Names} {L:Lc} {m m1 m2 m3 m4:Mem}
private theorem VarAt.dbg {env:Env} {M:Map} {x:Str} {v:Value} (hd:env.kindOf "__debug__" = none) (h:VarAt env M x v):(x == ("__debug__":Str)) = false:=by
  refine beq_eq_false_iff_ne.mpr fun e=>?_
  subst e
  cases h with
  | loc a=>rw [hd] at a; cases a
  | cel a=>rw [hd] at a; exact a.elim nofun nofun
private theorem EnvOk.dbg' {env:Env} {M:Map} (N:EnvOk env sc M L):env.kindOf "__debug__" = none:=N.names.no N.dbg
private theorem EnvOk.cld' {env:Env} {M:Map} (N:EnvOk env sc M L):env.kindOf "__classdict__" = none:=N.names.no N.cld
private theorem loadVar {env:Env} {A:Around} {c:Cf} {x:Str} {v:Value} {Q:Value→Shared→Prop} {E:Value→Shared→Prop} (N:EnvOk env sc c.M L) (S:Hp X c m) (h:VarAt env c.M x v) (q:Q v c.s):wpAny (model X.prog X.w) A (loadName env x) Q E c.s:=by
  cases h with
  | loc a b c d e=>exact wpAny_loadName_local N.kind a ⟨_,_,_,S.pin b,c,d,fun zz=>rfl⟩ e q
  | cel a b c d =>
    refine a.elim (fun a=>wpAny_loadName_cell N.kind a b ⟨_,S.ob c,d⟩ q) fun a=>wpAny_loadName_free N.kind a b ⟨_,S.ob c,d⟩ q ?_
    exact beq_eq_false_iff_ne.mpr fun e=>by subst e; rw [N.cld'] at a; cases a
private theorem PE.var {x:Str} {p:Pos} {av:AV} (h:L.lookup x = some av):PE X D sc (.Name x p) L m av m:=fun env A c T Q E k =>
  (T.N.var x av h).elim fun v q=>wpAny_Name (loadVar T.N T.S q.2 (k v c (.now T.S q.1))) (q.2.dbg T.N.dbg')
private theorem PE.int {i:Int} {n:Nat} {p:Pos}:PE X D sc (.Constant (.int i) n p) L m (.int i) m:=fun env A c T Q E k=>wpAny_Constant_int (k _ _ (.tok T.S (.int _ _) _))
private theorem Rep.strOf {M:Map} (x:Str) (t:Tok):Rep M (.str x.cps.toList) (.str x t):=Rep.str x.cps.toList t
private theorem PE.str {x:Str} {n:Nat} {p:Pos}:PE X D sc (.Constant (.str x) n p) L m (.str x.cps.toList) m:=fun env A c T Q E k=>Constant_str (k _ _ (.tok T.S (.strOf _ _) _))
private theorem PE.bool {b:Bool} {n:Nat} {p:Pos}:PE X D sc (.Constant (.bool b) n p) L m (.bool b) m:=fun env A c T Q E k=>wpAny_pure (k _ _ (.now T.S (.bool _)))
private theorem PE.none {n:Nat} {p:Pos}:PE X D sc (.Constant .none n p) L m .none m:=fun env A c T Q E k=>wpAny_pure (k _ _ (.now T.S .none))
private theorem PE.bin {a b:Expr} {op:Operator} {p:Pos} {x y r:AV} (ha:PE X D sc a L m x m1) (hb:PE X D sc b L m1 y m2) (ho:BinM X D (binaryOp op) m2 x y r m3):PE X D sc (.BinOp a op b p) L m r m3 :=
  fun env A c T Q E k=>wpAny_BinOp (ha env A c T _ _ fun va d g=>hb env A d (T.up g.l g.h) _ _ fun vb d2 g2=>ho A d2 va vb T.R g2.h (g.r.up g2.l) g2.r Q E fun v d3 g3=>k v d3 (g3.fr (g.l.tr g2.l)))
private theorem PE.un {a:Expr} {op:UnaryOp} {p:Pos} {x r:AV} (ha:PE X D sc a L m x m1) (ho:Un X D (unaryOp op) m1 x r):PE X D sc (.UnaryOp op a p) L m r m1 :=
  fun env A c T Q E k=>wpAny_UnaryOp (ha env A c T _ _ fun va d g=>ho A d va T.R g.h g.r Q E fun v d3 g3=>k v d3 (g3.fr g.l))
private theorem PE.cmp {a b:Expr} {op:CmpOp} {p:Pos} {x y r:AV} (ha:PE X D sc a L m x m1) (hb:PE X D sc b L m1 y m2) (ho:Bin X D (compareOp op) m2 x y r) (hm:behindInMarks op b = false):PE X D sc (.Compare a [op] [b] p) L m r m2 :=
  fun env A c T Q E k=>wpAny_Compare1 (ha env A c T _ _ fun va d g=>hb env A d (T.up g.l g.h) _ _ fun vb d2 g2=>ho A d2 va vb T.R g2.h (g.r.up g2.l) g2.r Q E fun v d3 g3=>k v d3 (g3.fr (g.l.tr g2.l))) hm
private theorem PT.cmp {a b:Expr} {op:CmpOp} {p:Pos} {x y:AV} {r:Bool} (ha:PE X D sc a L m x m1) (hb:PE X D sc b L m1 y m2) (ho:Bin X D (compareOp op) m2 x y (.bool r)) (hm:behindInMarks op b = false):PT X D sc (.Compare a [op] [b] p) L m r m2 :=
  fun env A c T Q E k=>wpAny_isTrue_Compare1 (ha env A c T _ _ fun va d g=>hb env A d (T.up g.l g.h) _ _ fun vb d2 g2=>ho A d2 va vb T.R g2.h (g.r.up g2.l) g2.r _ E fun v d3 g3=>g3.r.i_bool ▸ wpAny_truthy_bool (k d3 ⟨(g.l.tr g2.l).tr g3.l,g3.h⟩)) hm
private theorem PT.val {e:Expr} {x:AV} {b:Bool} (hf:PE X D sc e L m x m1) (ht:Tru X m1 x b) (he:∀ env whole,isTrue e env whole = (do let v ← whole; standAt e.pos; holding [v] (truthy v))):PT X D sc e L m b m1 :=
  fun env A c T Q E k=>wpAny_isTrue_value (hf env A c T _ _ fun va d g=>ht A d va g.h g.r Q E fun n=>k (tk d n) ⟨g.l,g.h.tok n⟩) (he _ _)
private theorem PT.not {e:Expr} {p:Pos} {b:Bool} (h:PT X D sc e L m b m1):PT X D sc (.UnaryOp .Not e p) L m (!b) m1 :=
  fun env A c T Q E k=>isTrue_not (h env A c T _ _ k)
private theorem PT.andNil {p:Pos}:PT X D sc (.BoolOp .And [] p) L m true m:=fun env A c T Q E k=>isTrue_and_nil (k c ⟨Map.le.rf _,T.S⟩)
private theorem PT.orNil {p:Pos}:PT X D sc (.BoolOp .Or [] p) L m false m:=fun env A c T Q E k=>isTrue_or_nil (k c ⟨Map.le.rf _,T.S⟩)
private theorem PT.andT {x:Expr} {rest:List Expr} {p:Pos} {b:Bool} (h:PT X D sc x L m true m1) (hr:PT X D sc (.BoolOp .And rest p) L m1 b m2):PT X D sc (.BoolOp .And (x :: rest) p) L m b m2 :=
  fun env A c T Q E k=>isTrue_and (h env A c T _ _ fun d g=>hr env A d (T.up g.l g.h) Q E fun d2 g2=>k d2 ⟨g.l.tr g2.l,g2.h⟩)
private theorem PT.andF {x:Expr} {rest:List Expr} {p:Pos} (h:PT X D sc x L m false m1):PT X D sc (.BoolOp .And (x :: rest) p) L m false m1 :=
  fun env A c T Q E k=>isTrue_and (h env A c T _ _ fun d g=>k d g)
private theorem PT.orF {x:Expr} {rest:List Expr} {p:Pos} {b:Bool} (h:PT X D sc x L m false m1) (hr:PT X D sc (.BoolOp .Or rest p) L m1 b m2):PT X D sc (.BoolOp .Or (x :: rest) p) L m b m2 :=
  fun env A c T Q E k=>isTrue_or (h env A c T _ _ fun d g=>hr env A d (T.up g.l g.h) Q E fun d2 g2=>k d2 ⟨g.l.tr g2.l,g2.h⟩)
private theorem PT.orT {x:Expr} {rest:List Expr} {p:Pos} (h:PT X D sc x L m true m1):PT X D sc (.BoolOp .Or (x :: rest) p) L m true m1 :=
  fun env A c T Q E k=>isTrue_or (h env A c T _ _ fun d g=>k d g)
private theorem PE.ifT {t a b:Expr} {p:Pos} {x:AV} (ht:PT X D sc t L m true m1) (h:PE X D sc a L m1 x m2):PE X D sc (.IfExp t a b p) L m x m2 :=
  fun env A c T Q E k=>wpAny_IfExp (ht env A c T _ _ fun d g=>h env A d (T.up g.l g.h) Q E fun v d2 g2=>k v d2 (g2.fr g.l))
private theorem PE.ifF {t a b:Expr} {p:Pos} {x:AV} (ht:PT X D sc t L m false m1) (h:PE X D sc b L m1 x m2):PE X D sc (.IfExp t a b p) L m x m2 :=
  fun env A c T Q E k=>wpAny_IfExp (ht env A c T _ _ fun d g=>h env A d (T.up g.l g.h) Q E fun v d2 g2=>k v d2 (g2.fr g.l))
private theorem PEs.nil:PEs X D sc [] L m [] m:=fun pos env A c T Q E k=>wpAny_items_nil (k _ c ⟨Map.le.rf _,T.S,.nil⟩)
private theorem PEs.cons' {e:Expr} {es:List Expr} {x:AV} {xs:List AV} (he:∀ env,starEach (e :: es) env = (false,eval e env) :: starEach es env) (hf:PE X D sc e L m x m1) (hg:PEs X D sc es L m1 xs m2):PEs X D sc (e :: es) L m (x :: xs) m2 :=
  fun pos env A c T Q E k=>wpAny_items_cons (hf env A c T _ _ fun v d g=>hg pos env A d (T.up g.l g.h) _ _ fun vs d2 g2=>k _ d2 ⟨g.l.tr g2.l,g2.h,.cons (g.r.up g2.l) g2.r⟩) (he env)
private theorem sizeLine_is:sizeLine = 2 ^ 24:=rfl
private theorem Reps.sz {M:Map} {xs:List AV} {vs:List Value} (r:Reps M xs vs) {n:Nat} (h:xs.length≤n):vs.length≤n:=r.len ▸ h
private theorem PE.tup {es:List Expr} {k:Nat} {p:Pos} {xs:List AV} (h:PEs X D sc es L m xs m1) (hz:xs.length≤2 ^ 24):PE X D sc (.Tuple es k p) L m (.tup xs) m1 :=
  fun env A c T Q E k=>wpAny_Tuple (h p env A c T _ _ fun vs d g=>⟨g.r.sz hz,k _ _ ((Got.newTup g.h g.r d.s.toks).fr g.l)⟩)
private theorem PE.lst {es:List Expr} {p:Pos} {xs:List AV} (h:PEs X D sc es L m xs m1) (hz:xs.length≤2 ^ 24):PE X D sc (.List es p) L m (.lst xs) m1 :=
  fun env A c T Q E k=>wpAny_List (h p env A c T _ _ fun vs d g=>⟨g.r.sz hz,k _ _ ((Got.newLst g.h g.r d.s.toks).fr g.l)⟩)
private theorem Got.newMut {c:Cf} (h:Hp X c m) {xs:List AV} {vs:List Value} (r:Reps c.M xs vs) (n:Nat):Got X c (m++[.lst xs]) (.mref m.length) (.ref c.s.heap.objs.size) ⟨{ c.s with heap:=c.s.heap.push (lo vs),toks:=n },c.M.set c.s.heap.objs.size (.mu m.length)⟩ :=
  ⟨Map.le_set _ h.top,h.newMut (lo vs) n (.lst (Heap.get?_push_size _ rfl) (r.up (Map.le_set _ h.top))),.mref (Map.set_at _ _ _)⟩
private theorem PE.lstM {es:List Expr} {p:Pos} {xs:List AV} (h:PEs X D sc es L m xs m1) (hz:xs.length≤2 ^ 24):PE X D sc (.List es p) L m (.mref m1.length) (m1++[.lst xs]) :=
  fun env A c T Q E k=>wpAny_List (h p env A c T _ _ fun vs d g=>⟨g.r.sz hz,k _ _ ((Got.newMut g.h g.r d.s.toks).fr g.l)⟩)
end
end
section
open PySem PySem.W PyProof.Rows PySem.Calls PySem.SeqAt
noncomputable def okS (l:List Nat):Prop:=∀ c∈l,c < 0x110000
private theorem okS_1 {c:Nat} (h:c < 0x110000):okS [c]:=fun d hd=>(List.mem_singleton.mp hd) ▸ h
private theorem okS_app {a b:List Nat} (ha:okS a) (hb:okS b):okS (a++b):=fun c hc=>(List.mem_append.mp hc).elim (ha c) (hb c)
private theorem okS_nil:okS []:=fun zz h=>absurd h List.not_mem_nil
private theorem mkS {l:List Nat} {x:Str} (h:x.cps.toList = l):x = ⟨l.toArray⟩:=h ▸ rfl
section
variable {X:Amb} {D:Nat} {sc:Names} {L:Lc} {m m1 m2 m3 m4:Mem}
private theorem Bin.ofI {op:Value→Value→Sem Value} {a b c:Int} (h:∀ t u A s (Q E:Value→Shared→Prop),(∀ k,Q (.int c k) { s with toks:=s.toks + 1 })→wpAny (model X.prog X.w) A (op (.int a t) (.int b u)) Q E s):Bin X D op m (.int a) (.int b) (.int c) :=
  fun A d v w R S r q Q E k=>r.i_int.elim fun t e=>q.i_int.elim fun u f=>e ▸ f ▸ h t u A _ Q E fun n=>k _ _ (.tok S (.int _ n) _)
private theorem Bin.ofB {op:Value→Value→Sem Value} {a b:Int} {c:Bool} (h:∀ t u A s (Q E:Value→Shared→Prop),Q (.bool c) s→wpAny (model X.prog X.w) A (op (.int a t) (.int b u)) Q E s):Bin X D op m (.int a) (.int b) (.bool c) :=
  fun A d v w R S r q Q E k=>r.i_int.elim fun t e=>q.i_int.elim fun u f=>e ▸ f ▸ h t u A _ Q E (k _ _ (.now S (.bool _)))
private theorem Bin.ofS {op:Value→Value→Sem Value} {a b c:List Nat} (h:∀ t u A s (Q E:Value→Shared→Prop),(∀ k n,Q (.str ⟨c.toArray⟩ k) { s with toks:=n })→wpAny (model X.prog X.w) A (op (.str ⟨a.toArray⟩ t) (.str ⟨b.toArray⟩ u)) Q E s):Bin X D op m (.str a) (.str b) (.str c) :=
  fun A d v w R S r q Q E k=>r.i_str.elim fun t e=>q.i_str.elim fun u f=>e ▸ f ▸ h t u A _ Q E fun t n=>k _ _ (.tok S (.str _ t) n)
private theorem Bin.add {a b:Int}:Bin X D (binaryOp .Add) m (.int a) (.int b) (.int (a + b)):=.ofI fun t u A s Q E h=>wpAny_add_int (h _)
private theorem Bin.sub {a b:Int}:Bin X D (binaryOp .Sub) m (.int a) (.int b) (.int (a - b)):=.ofI fun t u A s Q E h=>sub_int' (h _)
private theorem bits63 {a:Int} (h:a.natAbs < 2 ^ 63):Builtin.Int.intBits a≤64:=Nat.le_succ_of_le (intBits_le h)
private theorem Bin.mul {a b:Int} (hb:a.natAbs < 2 ^ 63∨b.natAbs < 2 ^ 63):Bin X D (binaryOp .Mult) m (.int a) (.int b) (.int (a * b)):=.ofI fun t u A s Q E h=>mul_int (h _) (hb.elim (fun q=>.of_left (bits63 q)) fun q=>.of_right (bits63 q))
private theorem Bin.div {a b:Int} (h0:b ≠ 0) (h1:b.natAbs < 1073741824):Bin X D (binaryOp .FloorDiv) m (.int a) (.int b) (.int (a.fdiv b)):=.ofI fun t u A s Q E h=>floordiv_int h0 (h _) (.inl (PyProof.noPylong_small h1))
private theorem Bin.mod {a b:Int} (h0:b ≠ 0):Bin X D (binaryOp .Mod) m (.int a) (.int b) (.int (a.fmod b)):=.ofI fun t u A s Q E h=>mod_int' h0 (h _)
private theorem Bin.shl {a n:Int} (h0:0≤n) (h1:n≤1000) (h2:a.natAbs < 2 ^ 1000):Bin X D (binaryOp .LShift) m (.int a) (.int n) (.int (a * 2 ^ n.toNat)):=.ofI fun t u A s Q E h=>lshift_int h0 (by have:=intBits_le h2; lia) (h _)
private theorem Bin.shr {a n:Int} (h0:0≤n):Bin X D (binaryOp .RShift) m (.int a) (.int n) (.int (a.fdiv (2 ^ n.toNat))):=.ofI fun t u A s Q E h=>rshift_int h0 (h _)
private theorem Bin.and {a b:Int}:Bin X D (binaryOp .BitAnd) m (.int a) (.int b) (.int (Builtin.bitAnd a b)):=.ofI fun t u A s Q E h=>and_int (h _)
private theorem Bin.xor {a b:Int}:Bin X D (binaryOp .BitXor) m (.int a) (.int b) (.int (Builtin.bitXor a b)):=.ofI fun t u A s Q E h=>xor_int (h _)
private theorem Bin.iadd {a b:Int}:Bin X D (inplaceOp .Add) m (.int a) (.int b) (.int (a + b)):=.ofI fun t u A s Q E h=>PyProof.Rows.iadd_int (h _)
private theorem Bin.isub {a b:Int}:Bin X D (inplaceOp .Sub) m (.int a) (.int b) (.int (a - b)):=.ofI fun t u A s Q E h=>PyProof.Rows.isub_int (h _)
private theorem Un.neg {a:Int}:Un X D (unaryOp .USub) m (.int a) (.int (-a)):=fun A c v R S r Q E k=>r.i_int.elim fun t e=>e ▸ PyProof.Rows.neg_int (k _ _ (.tok S (.int _ _) _))
private theorem Un.inv {a:Int}:Un X D (unaryOp .Invert) m (.int a) (.int (Builtin.bitNot a)):=fun A c v R S r Q E k=>r.i_int.elim fun t e=>e ▸ PyProof.Rows.invert_int (k _ _ (.tok S (.int _ _) _))
private theorem Bin.lt {a b:Int}:Bin X D (compareOp .Lt) m (.int a) (.int b) (.bool (decide (a < b))):=.ofB fun t u A s Q E h=>wpAny_lt_int h
private theorem Bin.le {a b:Int}:Bin X D (compareOp .LtE) m (.int a) (.int b) (.bool (decide (a≤b))):=.ofB fun t u A s Q E h=>PySem.P.le_int h
private theorem Bin.gt {a b:Int}:Bin X D (compareOp .Gt) m (.int a) (.int b) (.bool (decide (b < a))):=.ofB fun t u A s Q E h=>PySem.P.gt_int h
private theorem appS (x y:List Nat):(⟨x.toArray⟩:Str)++⟨y.toArray⟩ = ⟨(x++y).toArray⟩:=congrArg Str.mk (List.append_toArray x y)
private theorem sz2 {x y:List Nat} {n:Nat} (h:x.length + y.length≤n):(⟨x.toArray⟩:Str).length + (⟨y.toArray⟩:Str).length≤n:=h
private theorem Bin.addS {x y:List Nat} (h:x.length + y.length≤2 ^ 24):Bin X D (binaryOp .Add) m (.str x) (.str y) (.str (x++y)):=.ofS fun t u A s Q E k=>SB.add (fun t n=>appS x y ▸ k _ _) (sz2 h)
private theorem Bin.iaddS {x y:List Nat} (h:x.length + y.length≤2 ^ 24):Bin X D (inplaceOp .Add) m (.str x) (.str y) (.str (x++y)):=.ofS fun t u A s Q E k=>SB.iadd (fun t n=>appS x y ▸ k _ _) (sz2 h)
private theorem Tru.none:Tru X m .none false:=fun A c v S r Q E k=>r.i_none ▸ truthy_none (k _)
private theorem Tru.bool {b:Bool}:Tru X m (.bool b) b:=fun A c v S r Q E k=>r.i_bool ▸ wpAny_truthy_bool (k c.s.toks)
private theorem Tru.int {i:Int}:Tru X m (.int i) (i != 0):=fun A c v S r Q E k=>r.i_int.elim fun t e=>e ▸ PyProof.Rows.truthy_int (k _)
private theorem truLst {A:Around} {s:Shared} {M:Map} {a:Addr} {xs:List AV} {vs:List Value} {n:Nat} (ha:s.heap.get? a = some (lo vs n)) (r:Reps M xs vs) (hz:xs.length≤2 ^ 24) {Q:Bool→Shared→Prop} {E:Value→Shared→Prop} (k:∀ n,Q (!xs.isEmpty) { s with toks:=n }) :
    wpAny (model X.prog X.w) A (truthy (.ref a)) Q E s:=wpAny_truthy_list (items:=vs.toArray) ⟨_,ha,rfl,n,rfl⟩ (by rw [← r.len] at hz; simp; lia) (by
  have:(!vs.toArray.isEmpty) = (!xs.isEmpty):=by
    have:=r.len
    cases xs <;> cases vs <;> simp_all
  rw [this]; exact k _)
private theorem Sep.mlist {s:Shared} {M:Map} (S:Sep X s M m) {a:Addr} {i:Nat} {xs:List AV} (h:M.h a = some (.mu i)) (e:m[i]? = some (.lst xs)):∃ vs n,s.heap.get? a = some (lo vs n)∧Reps M xs vs:=by
  cases S.mu h e with
  | lst g r=>exact ⟨_,_,g,r⟩
private theorem Tru.mref {i:Nat} {l:List AV} (e:m[i]? = some (.lst l)) (h:l.length≤2 ^ 24):Tru X m (.mref i) (!l.isEmpty):=fun A c v S r Q E k=>by
  cases r.i_mref with
  | mk a=>obtain ⟨vs,n,g,q⟩:=S.mlist a e; exact truLst g q h k
private theorem Bin.isNN:Bin X D (compareOp .Is) m .none .none (.bool true):=fun A c v w R S r q Q E k=>by rw [r.i_none,q.i_none]; exact wpAny_of_eq (a:=.bool true) rfl (k _ _ (.now S (.bool _)))
private theorem Bin.isIN {i:Int}:Bin X D (compareOp .Is) m (.int i) .none (.bool false):=fun A c v w R S r q Q E k=>r.i_int.elim fun t e=>e ▸ q.i_none ▸ wpAny_of_eq (a:=.bool false) rfl (k _ _ (.now S (.bool _)))
private theorem Bin.isEN {a:Addr}:Bin X D (compareOp .Is) m (.ext (.ref a)) .none (.bool false):=fun A c v w R S r q Q E k=>r.i_ext ▸ q.i_none ▸ wpAny_of_eq (a:=.bool false) rfl (k _ _ (.now S (.bool _)))
private theorem Bin.isB {a b:Bool}:Bin X D (compareOp .Is) m (.bool a) (.bool b) (.bool (a == b)):=fun A c v w R S r q Q E k=>r.i_bool ▸ q.i_bool ▸ wpAny_of_eq (a:=.bool (a == b)) (by cases a <;> cases b <;> rfl) (k _ _ (.now S (.bool _)))
private theorem Bin.isNotB {a b:Bool}:Bin X D (compareOp .IsNot) m (.bool a) (.bool b) (.bool (a != b)):=fun A c v w R S r q Q E k=>r.i_bool ▸ q.i_bool ▸ wpAny_of_eq (a:=.bool (a != b)) (by cases a <;> cases b <;> rfl) (k _ _ (.now S (.bool _)))
noncomputable def Rds (m:Mem) (x:AV) (d:PyData):Prop:=∀ (X:Amb) s M v,Sep X s M m→Rep M x v→∃ bs,Reads s.heap v d bs
noncomputable def RdsAll (m:Mem) (xs:List AV) (ds:List PyData):Prop:=∀ (X:Amb) s M vs,Sep X s M m→Reps M xs vs→∃ bs,ReadsAll s.heap vs ds bs
private theorem Rds.bool {b:Bool}:Rds m (.bool b) (.bool b):=fun X s M v S r=>r.i_bool ▸ ⟨_,.bool b⟩
private theorem Rds.int {i:Int}:Rds m (.int i) (.int i):=fun X s M v S r=>r.i_int.elim fun t e=>e ▸ ⟨_,.int i t⟩
noncomputable def pyS (l:List Nat):PyData:=.str ⟨l.toArray⟩
private theorem Rds.str {l:List Nat}:Rds m (.str l) (pyS l):=fun X s M v S r=>r.i_str.elim fun t e=>e ▸ ⟨_,.str _ t⟩
private theorem RdsAll.nil:RdsAll m [] []:=fun X s M v S r=>r.i_nil ▸ ⟨_,.nil⟩
private theorem RdsAll.cons {x:AV} {d:PyData} {xs:List AV} {ds:List PyData} (h:Rds m x d) (hs:RdsAll m xs ds):RdsAll m (x :: xs) (d :: ds):=fun X s M v S r=>by
  cases r.i_cons with
  | mk r1 rs =>
    obtain ⟨_,h1⟩:=h X s M _ S r1
    obtain ⟨_,h2⟩:=hs X s M _ S rs
    exact ⟨_,.cons h1 h2⟩
private theorem Rds.lst {xs:List AV} {ds:List PyData} (h:RdsAll m xs ds):Rds m (.lst xs) (.list ds):=fun X s M v S r=>by
  cases r.i_lst with
  | mk a b=>obtain ⟨_,q⟩:=h X s M _ S b; exact ⟨_,.list (S.frz a) rfl rfl (by simpa using q)⟩
private theorem Rds.mref {i:Nat} {xs:List AV} {ds:List PyData} (e:m[i]? = some (.lst xs)) (h:RdsAll m xs ds):Rds m (.mref i) (.list ds):=fun X s M v S r=>by
  cases r.i_mref with
  | mk a=>obtain ⟨vs,n,g,q⟩:=S.mlist a e; obtain ⟨_,q⟩:=h X s M _ S q; exact ⟨_,.list g rfl rfl (by simpa using q)⟩
private theorem RdsAll.map {α:Type} {f:α→AV} {g:α→PyData} (h:∀ x,Rds m (f x) (g x)):∀ l:List α,RdsAll m (l.map f) (l.map g)
  | []=>.nil
  | x :: r=>.cons (h x) (RdsAll.map h r)
private theorem RdsAll.strs (l:List (List Nat)):RdsAll m (l.map .str) (l.map pyS):=.map (fun zz=>.str) l
private theorem RdsAll.ints (l:List Int):RdsAll m (l.map .int) (l.map .int):=.map (fun zz=>.int) l
private theorem Bin.eq {x y:AV} {dx dy:PyData} {b:Bool} (hx:Rds m x dx) (hy:Rds m y dy) (sx:shaped dx = true) (sy:shaped dy = true) (e:PyData.eqv dx dy = b) (hD:4≤D):Bin X D (compareOp .Eq) m x y (.bool b):=fun A c v w R S r q Q E k=>by
  obtain ⟨_,h1⟩:=hx X _ _ _ S r
  obtain ⟨_,h2⟩:=hy X _ _ _ S q
  exact eq_dataH h1 h2 sx sy (by have:=R.2.2; lia) (e ▸ k _ _ (.now S (.bool _)))
private theorem Bin.ne {x y:AV} {dx dy:PyData} {b:Bool} (hx:Rds m x dx) (hy:Rds m y dy) (sx:shaped dx = true) (sy:shaped dy = true) (e:PyData.eqv dx dy = b) (hD:4≤D):Bin X D (compareOp .NotEq) m x y (.bool !b):=fun A c v w R S r q Q E k=>by
  obtain ⟨_,h1⟩:=hx X _ _ _ S r
  obtain ⟨_,h2⟩:=hy X _ _ _ S q
  exact ne_dataH h1 h2 sx sy (by have:=R.2.2; lia) (e ▸ k _ _ (.now S (.bool _)))
private theorem shaped_str {l:List Nat} (h:okS l):shaped (pyS l) = true:=by
  show (PyData.canLay0 (.str ⟨l.toArray⟩) && _) = true
  simp only [PyData.canLay0,PyData.strOk,PyData.depth,pyS]
  simp
  exact h
private theorem eqv_s {a b:List Nat}:PyData.eqv (pyS a) (pyS b) = decide (a = b):=by
  simp only [pyS,PyData.eqv]
  rw [Bool.eq_iff_iff]; simp
private theorem eqv_i {a b:Int}:PyData.eqv (.int a) (.int b) = decide (a = b):=by
  simp only [PyData.eqv]
  rw [Bool.eq_iff_iff]; simp
private theorem lay_str:∀ xs:List (List Nat),(∀ l∈xs,okS l)→PyData.canLayAll0 (xs.map pyS) = true
  | [],_=>by simp [PyData.canLayAll0]
  | x :: r,h=>by
    simp only [List.map_cons,PyData.canLayAll0,lay_str r fun l hl=>h l (List.mem_cons_of_mem _ hl),Bool.and_true,pyS,PyData.canLay0,PyData.strOk]
    simp
    exact h x List.mem_cons_self
private theorem lay_int:∀ xs:List Int,PyData.canLayAll0 (xs.map .int) = true
  | []=>by simp [PyData.canLayAll0]
  | x :: r=>by simp only [List.map_cons,PyData.canLayAll0,lay_int r,Bool.and_true,PyData.canLay0]
private theorem dep_map {α:Type} {f:α→PyData} (h:∀ x,(f x).depth = 0):∀ xs:List α,PyData.depthAll (xs.map f) = 0
  | []=>by simp [PyData.depthAll]
  | x :: r=>by simp only [List.map_cons,PyData.depthAll,dep_map h r,h]; rfl
private theorem eqv_map {α:Type} [DecidableEq α] {f:α→PyData} (h:∀ x y,PyData.eqv (f x) (f y) = decide (x = y)):∀ xs ys:List α,PyData.eqvAll (xs.map f) (ys.map f) = decide (xs = ys)
  | [],[]=>by simp [PyData.eqvAll]
  | [],_ :: _=>by simp [PyData.eqvAll]
  | _ :: _,[]=>by simp [PyData.eqvAll]
  | x :: r,y :: t=>by
    simp only [List.map_cons,PyData.eqvAll,eqv_map h r t,h]
    rw [Bool.eq_iff_iff]; simp
private theorem shaped_strs {xs:List (List Nat)} (h:∀ l∈xs,okS l):shaped (.list (xs.map pyS)) = true:=by
  show (PyData.canLay0 (.list _) && _) = true
  simp only [PyData.canLay0,lay_str xs h,PyData.depth,dep_map (f:=pyS) (fun zz=>by simp only [pyS,PyData.depth])]; rfl
private theorem shaped_ints (xs:List Int):shaped (.list (xs.map .int)) = true:=by
  show (PyData.canLay0 (.list _) && _) = true
  simp only [PyData.canLay0,lay_int xs,PyData.depth,dep_map (f:=.int) (fun zz=>by simp only [PyData.depth])]; rfl
private theorem eqv_ss {a b:List (List Nat)}:PyData.eqv (.list (a.map pyS)) (.list (b.map pyS)) = decide (a = b):=by simp only [PyData.eqv,eqv_map (fun zz zz=>eqv_s)]
private theorem eqv_is {a b:List Int}:PyData.eqv (.list (a.map .int)) (.list (b.map .int)) = decide (a = b):=by simp only [PyData.eqv,eqv_map (fun zz zz=>eqv_i)]
private theorem Bin.eqI {a b:Int} (hD:4≤D):Bin X D (compareOp .Eq) m (.int a) (.int b) (.bool (decide (a = b))):=.eq .int .int rfl rfl eqv_i hD
private theorem Bin.neI {a b:Int} (hD:4≤D):Bin X D (compareOp .NotEq) m (.int a) (.int b) (.bool !(decide (a = b))):=.ne .int .int rfl rfl eqv_i hD
private theorem Bin.eqS {a b:List Nat} (ha:okS a) (hb:okS b) (hD:4≤D):Bin X D (compareOp .Eq) m (.str a) (.str b) (.bool (decide (a = b))):=.eq .str .str (shaped_str ha) (shaped_str hb) eqv_s hD
private theorem Bin.neS {a b:List Nat} (ha:okS a) (hb:okS b) (hD:4≤D):Bin X D (compareOp .NotEq) m (.str a) (.str b) (.bool !(decide (a = b))):=.ne .str .str (shaped_str ha) (shaped_str hb) eqv_s hD
private theorem addLists {A:Around} {c:Cf} {a b:Addr} {xs ys:List AV} {vs ws:List Value} {n k:Nat} (S:Hp X c m) (ha:c.s.heap.get? a = some (lo vs n)) (hb:c.s.heap.get? b = some (lo ws k)) (rx:Reps c.M xs vs) (ry:Reps c.M ys ws) (hz:xs.length + ys.length≤2 ^ 24)
    {Q E:Value→Shared→Prop} (h:∀ v d,Got X c m (.lst (xs++ys)) v d→Q v d.s):wpAny (model X.prog X.w) A (binaryOp .Add (.ref a) (.ref b)) Q E c.s :=
  PySem.P.add_list ha hb (by
    rw [List.append_toArray vs ws]
    exact h _ _ (Got.newLst S (rx.app ry) c.s.toks)) (by rw [← rx.len,← ry.len] at hz; exact hz)
private theorem Bin.addL {xs ys:List AV} (hz:xs.length + ys.length≤2 ^ 24):Bin X D (binaryOp .Add) m (.lst xs) (.lst ys) (.lst (xs++ys)):=fun A c v w R S r q Q E k=>by
  cases r.i_lst with
  | mk a b=>cases q.i_lst with
    | mk a' b'=>exact addLists S (S.frz a) (S.frz a') b b' hz k
end
end
section
open PySem PySem.W PyProof.Rows PySem.Calls PySem.SeqAt
section
variable {X:Amb} {D:Nat} {sc:Names} {L:Lc} {m m1 m2 m3 m4:Mem}
noncomputable def Plain (e:Expr):Prop:=∀ o i,subscripted e false o i = operate [o,i] (getItem o i)
noncomputable abbrev Sub (X:Amb) (D:Nat) (m:Mem) (x y r:AV):Prop:=∀ ev es,Plain es→Bin X D (fun o i=>subscriptTail ev es o i) m x y r
private theorem PE.sub {a b:Expr} {p:Pos} {x y r:AV} (ha:PE X D sc a L m x m1) (hb:PE X D sc b L m1 y m2) (ho:Sub X D m2 x y r) (hs:Plain b):PE X D sc (.Subscript a b p) L m r m2 :=
  fun env A c T Q E k=>Subscript_ (ha env A c T _ _ fun va d g=>hb env A d (T.up g.l g.h) _ _ fun vb d2 g2=>ho _ _ hs A d2 va vb T.R g2.h (g.r.up g2.l) g2.r Q E fun v d3 g3=>k v d3 (g3.fr (g.l.tr g2.l)))
private theorem lt62 {i:Int} (h:i < 2 ^ 62):i < 2 ^ 63:=Int.lt_trans h (by decide)
private theorem idxLst {A:Around} {s:Shared} {M:Map} {a:Addr} {xs:List AV} {vs:List Value} {n:Nat} {i:Int} {t:Tok} {x:AV} (ha:s.heap.get? a = some (lo vs n)) (r:Reps M xs vs) (h0:0≤i) (h1:i < 2 ^ 62) (hx:xs[i.toNat]? = some x) {ev es:Expr} (hs:Plain es)
    {Q E:Value→Shared→Prop} (k:∀ v,Rep M x v→Q v s):wpAny (model X.prog X.w) A (subscriptTail ev es (.ref a) (.int i t)) Q E s:=by
  obtain ⟨v,hv,rv⟩:=r.get hx
  exact tail_any (T:="list") ⟨_,ha,rfl⟩ PySem.slot_list_getitem.lookup (wpAny_getItem_list (items:=vs.toArray) ⟨_,ha,rfl,n,rfl⟩ h0 (lt62 h1) (by simpa using hv) (k v rv)) (hs _ _)
private theorem Sub.lst {xs:List AV} {i:Int} {x:AV} (h0:0≤i) (h1:i < 2 ^ 62) (hx:xs[i.toNat]? = some x):Sub X D m (.lst xs) (.int i) x:=fun ev es hs A c v w R S r q Q E k=>by
  obtain ⟨t,rfl⟩:=q.i_int
  cases r.i_lst with
  | mk a b=>exact idxLst (S.frz a) b h0 h1 hx hs fun v rv=>k v _ (.now S rv)
private theorem Sub.mut {j:Nat} {xs:List AV} {i:Int} {x:AV} (e:m[j]? = some (.lst xs)) (h0:0≤i) (h1:i < 2 ^ 62) (hx:xs[i.toNat]? = some x):Sub X D m (.mref j) (.int i) x:=fun ev es hs A c v w R S r q Q E k=>by
  obtain ⟨t,rfl⟩:=q.i_int
  cases r.i_mref with
  | mk a=>obtain ⟨vs,n,g,b⟩:=S.mlist a e; exact idxLst g b h0 h1 hx hs fun v rv=>k v _ (.now S rv)
noncomputable def PP (X:Amb) (D:Nat) (sc:Names) (e:Option Expr) (L:Lc) (m:Mem) (i:Option Int) (m':Mem):Prop :=
  ∀ (env:Env) (A:Around) (c:Cf),At X D sc env A c L m→∀ Q E,(∀ t d,Gt X c m' d→Q (partValue (i.map fun i=>(i,t))) d.s)→wpAny (model X.prog X.w) A (evalPart e env) Q E c.s
private theorem PP.none:PP X D sc Option.none L m Option.none m:=fun env A c T Q E k=>wpAny_pure (k 0 c ⟨Map.le.rf _,T.S⟩)
private theorem PP.some {e:Expr} {i:Int} (h:PE X D sc e L m (.int i) m1):PP X D sc (Option.some e) L m (Option.some i) m1:=fun env A c T Q E k=>h env A c T _ _ fun v d g=>g.r.i_int.elim fun t e=>e ▸ k t d ⟨g.l,g.h⟩
private theorem revAt (a n:Nat):((a:Int) - 1 + -1 * (n:Int)).toNat = a - 1 - n:=by
  rw [Int.neg_one_mul]
  rcases Nat.eq_zero_or_pos a with h | h
  · subst h
    refine (Int.toNat_of_nonpos (Int.add_nonpos (by decide) (Int.neg_nonpos_of_nonneg (Int.natCast_nonneg n)))).trans ?_
    exact (Nat.zero_sub n).symm
  · rw [← Int.sub_eq_add_neg,show (a:Int) - 1 = ((a - 1:Nat):Int) from (Int.natCast_sub h).symm]; exact Int.toNat_sub ..
noncomputable def sl {α:Type} (lo hi:Option Int) (xs:List α):List α:=(xs.take (hi.elim xs.length (clipAt xs.length))).drop (lo.elim 0 (clipAt xs.length))
private theorem clipAt_le (n:Nat) (i:Int):clipAt n i≤n:=by
  have:=clipAt_cast n i
  omega
private theorem sliceRange_one (a b:Nat):sliceRange (a:Int) (b:Int) 1 = (List.range (b - a)).map (a + ·):=by
  unfold sliceRange
  simp only [show (1:Int) > 0 by decide,if_true,Int.ediv_one]
  have:(if (a:Int) < (b:Int) then (b:Int) - a + 1 - 1 else 0).toNat = b - a:=by split <;> lia
  rw [this]
  exact List.map_congr_left fun k zz=>by lia
private theorem picks_range {α:Type} (xs:List α) (a b:Nat) (hb:b≤xs.length):((List.range (b - a)).map (a + ·)).filterMap (xs[·]?) = (xs.take b).drop a:=by
  have key:∀ (n a:Nat),a + n≤xs.length→((List.range n).map (a + ·)).filterMap (xs[·]?) = (xs.take (a + n)).drop a:=by
    intro n
    induction n with
    | zero=>intro a h; simp
    | succ n ih =>
      intro a h
      have hlt:a + n < xs.length:=h
      rw [List.range_succ,List.map_append,List.filterMap_append,ih a (Nat.le_of_lt hlt)]
      simp only [List.map_cons,List.map_nil,List.filterMap_cons,List.filterMap_nil,List.getElem?_eq_getElem hlt]
      have e:xs.take (a + (n + 1)) = xs.take (a + n)++[xs[a + n]]:=by
        rw [← Nat.add_assoc,List.take_add_one,List.getElem?_eq_getElem hlt]; rfl
      rw [e,List.drop_append_of_le_length (by simp; lia)]
  by_cases h:a≤b
  · have:=key (b - a) a (by lia)
    rw [this,Nat.add_sub_cancel' h]
  · rw [Nat.sub_eq_zero_of_le (Nat.le_of_not_le h),List.drop_eq_nil_of_le (by simp; lia)]; rfl
private theorem hi_le {n:Nat} (hi:Option Int):hi.elim n (clipAt n)≤n:=by
  cases hi with
  | none=>exact Nat.le_refl _
  | some i=>exact clipAt_le _ _
private theorem picks_sl {α:Type} (lo hi:Option Int) (xs:List α):(sliceRange (sliceBounds lo hi none xs.length).1 (sliceBounds lo hi none xs.length).2.1 (sliceBounds lo hi none xs.length).2.2).filterMap (xs[·]?) = sl lo hi xs:=by
  rw [sliceBounds_plain]
  dsimp only
  rw [sliceRange_one,picks_range _ _ _ (hi_le hi)]
  rfl
private theorem strIndices (lo hi:Option Int) (n:Nat):Builtin.Str.strSliceIndices lo hi 1 n = (List.range ((hi.elim n (clipAt n)) - (lo.elim 0 (clipAt n)))).map ((lo.elim 0 (clipAt n)) + ·):=by
  have:Builtin.Str.strSliceIndices lo hi 1 n = sliceRange (sliceBounds lo hi none n).1 (sliceBounds lo hi none n).2.1 1:=by
    cases lo <;> cases hi <;> rfl
  rw [this,sliceBounds_plain]
  dsimp only
  rw [sliceRange_one]
private theorem strSl_sl (lo hi:Option Int) (l:List Nat):Txt.slice ⟨l.toArray⟩ lo hi = ⟨(sl lo hi l).toArray⟩:=by
  refine mkS ?_
  have hb:=hi_le (n:=l.length) hi
  have hlen:(⟨l.toArray⟩:Str).length = l.length:=rfl
  unfold Txt.slice
  rw [hlen,strIndices]
  split
  · rename_i h
    simp only [beq_self_eq_true,Bool.true_and,List.length_map,List.length_range,beq_iff_eq] at h
    unfold sl
    have h0:lo.elim 0 (clipAt l.length) = 0∧hi.elim l.length (clipAt l.length) = l.length:=by
      have:lo.elim 0 (clipAt l.length)≤l.length:=by
        cases lo with
        | none=>exact Nat.zero_le _
        | some i=>exact clipAt_le _ _
      lia
    rw [h0.1,h0.2]; simp
  · have:=picks_range l (lo.elim 0 (clipAt l.length)) (hi.elim l.length (clipAt l.length)) hb
    have e:(fun i:Nat=>(⟨l.toArray⟩:Str).cps[i]?) = fun i:Nat=>l[i]?:=by funext i; simp
    simp only [e]
    exact this
private theorem picks_rev {α:Type} (xs:List α):(sliceRange (sliceBounds none none (some (-1)) xs.length).1 (sliceBounds none none (some (-1)) xs.length).2.1 (sliceBounds none none (some (-1)) xs.length).2.2).filterMap (xs[·]?) = xs.reverse:=by
  unfold sliceBounds
  simp only [Option.getD_some,show ¬ ((-1:Int) > 0) by decide,if_false]
  unfold sliceRange
  simp only [show ¬ ((-1:Int) > 0) by decide,if_false,Int.neg_neg,Int.ediv_one]
  have hc:(if (xs.length:Int) - 1 > -1 then (xs.length:Int) - 1 - -1 - -1 - 1 else 0).toNat = xs.length:=by split <;> lia
  rw [hc]
  have key:∀ n,n≤xs.length→(((List.range n).map fun (k:Nat)=>((xs.length:Int) - 1 + -1 * (k:Int)).toNat).filterMap (xs[·]?)) = xs.reverse.take n:=by
    intro n
    induction n with
    | zero=>intro _; simp
    | succ n ih =>
      intro h
      rw [List.range_succ,List.map_append,List.filterMap_append,ih (Nat.le_of_lt h)]
      have h1:((xs.length:Int) - 1 + -1 * (n:Int)).toNat = xs.length - 1 - n:=revAt xs.length n
      have h2:xs.length - 1 - n < xs.length:=Nat.lt_of_le_of_lt (Nat.sub_le ..) (Nat.sub_one_lt (Nat.ne_of_gt (Nat.lt_of_le_of_lt (Nat.zero_le n) h)))
      simp only [List.map_cons,List.map_nil,List.filterMap_cons,List.filterMap_nil,h1,List.getElem?_eq_getElem h2]
      rw [List.take_add_one,List.getElem?_reverse h,List.getElem?_eq_getElem h2]; rfl
  rw [key xs.length (Nat.le_refl _),List.take_of_length_le (by simp)]
noncomputable def pick {α:Type} (lo hi st:Option Int) (xs:List α):List α:=(sliceRange (sliceBounds lo hi st xs.length).1 (sliceBounds lo hi st xs.length).2.1 (sliceBounds lo hi st xs.length).2.2).filterMap (xs[·]?)
private theorem Reps.fm {M:Map} {xs:List AV} {vs:List Value} (r:Reps M xs vs):∀ is:List Nat,Reps M (is.filterMap (xs[·]?)) (is.filterMap (vs[·]?))
  | []=>.nil
  | i :: is=>by
    rw [List.filterMap_cons,List.filterMap_cons]
    cases h:xs[i]? with
    | none =>
      rw [show vs[i]? = none by rw [List.getElem?_eq_none_iff] at h ⊢; rw [r.len]; exact h]
      exact r.fm is
    | some x =>
      obtain ⟨v,h',q⟩:=r.get h
      rw [h']
      exact .cons q (r.fm is)
private theorem isPart {i:Option Int} {t:Tok}:IsPart (partValue (i.map fun i=>(i,t))) i:=by
  cases i with
  | none=>exact IsPart.none
  | some i=>exact IsPart.int i t
noncomputable def Slc (X:Amb) (m:Mem) (l u st:Option Int) (x r:AV):Prop:=∀ (A:Around) (c:Cf) (v vl vu vt:Value) (sl:Addr) (e:Expr),Hp X c m→Rep c.M x v→c.s.heap.IsSliceOf sl vl vu vt→(∃ t,vl = partValue (l.map fun i=>(i,t)))→(∃ t,vu = partValue (u.map fun i=>(i,t)))→(∃ t,vt = partValue (st.map fun i=>(i,t))) →
  (∃ ops,subscripted e false v (.ref sl) = operate ops (getItem v (.ref sl)))→∀ ev Q E,(∀ v d,Got X c m r v d→Q v d.s)→wpAny (model X.prog X.w) A (subscriptTail ev e v (.ref sl)) Q E c.s
private theorem slcLst {A:Around} {c:Cf} {a s:Addr} {xs:List AV} {vs:List Value} {n:Nat} {vl vu vt:Value} {l u st:Option Int} (S:Hp X c m) (ha:c.s.heap.get? a = some (lo vs n)) (r:Reps c.M xs vs) (hsl:c.s.heap.IsSliceOf s vl vu vt) (pl:∃ t,vl = partValue (l.map fun i=>(i,t))) (pu:∃ t,vu = partValue (u.map fun i=>(i,t)))
    (ps:∃ t,vt = partValue (st.map fun i=>(i,t))) (h0:st ≠ some 0) (hz:xs.length≤2 ^ 24) {e ev:Expr} (hop:∃ ops,subscripted e false (.ref a) (.ref s) = operate ops (getItem (.ref a) (.ref s))) {Q E:Value→Shared→Prop} (k:∀ v d,Got X c m (.lst (pick l u st xs)) v d→Q v d.s) :
    wpAny (model X.prog X.w) A (subscriptTail ev e (.ref a) (.ref s)) Q E c.s:=by
  obtain ⟨t1,rfl⟩:=pl
  obtain ⟨t2,rfl⟩:=pu
  obtain ⟨t3,rfl⟩:=ps
  refine hop.elim fun ops q=>tail_any (T:="list") ⟨_,ha,rfl⟩ PySem.slot_list_getitem.lookup (wpAny_getItem_list_slice (items:=vs.toArray) ⟨_,ha,rfl,n,rfl⟩ hsl isPart isPart isPart h0 ?_ (r.sz hz)) q
  have e:slicePick vs.toArray l u st = (pick l u st vs).toArray:=by
    unfold slicePick pick
    simp
  rw [e]
  refine k _ _ (Got.newLst S ?_ c.s.toks)
  unfold pick
  rw [← r.len]
  exact r.fm _
private theorem Slc.pL {l u st:Option Int} {xs:List AV} (hz:xs.length≤2 ^ 24) (h0:st ≠ some 0):Slc X m l u st (.lst xs) (.lst (pick l u st xs)):=fun A c v vl vu vt sl e S r hs pl pu ps hop ev Q E k=>by
  cases r.i_lst with
  | mk a b=>exact slcLst S (S.frz a) b hs pl pu ps h0 hz hop k
private theorem Slc.lst {l u:Option Int} {xs:List AV} (hz:xs.length≤2 ^ 24):Slc X m l u none (.lst xs) (.lst (sl l u xs)):=by
  have:=Slc.pL (X:=X) (m:=m) (l:=l) (u:=u) hz (st:=none) nofun
  unfold pick at this
  rwa [picks_sl] at this
private theorem Slc.rev {xs:List AV} (hz:xs.length≤2 ^ 24):Slc X m none none (some (-1)) (.lst xs) (.lst xs.reverse):=by
  have:=Slc.pL (X:=X) (m:=m) (l:=none) (u:=none) hz (st:=some (-1)) (by decide)
  unfold pick at this
  rwa [picks_rev] at this
private theorem sl_len {α:Type} {l u:Option Int} (xs:List α):(sl l u xs).length≤xs.length:=by
  unfold sl
  rw [List.length_drop]
  exact Nat.le_trans (Nat.sub_le ..) (List.length_take_le' ..)
private theorem Slc.str {l u:Option Int} {xs:List Nat} (hz:xs.length≤2 ^ 24):Slc X m l u none (.str xs) (.str (sl l u xs)):=fun A c v vl vu vt sa e S r hs pl pu ps hop ev Q E k=>by
  obtain ⟨t,rfl⟩:=r.i_str
  obtain ⟨t1,rfl⟩:=pl
  obtain ⟨t2,rfl⟩:=pu
  obtain ⟨t3,rfl⟩:=ps
  obtain ⟨ops,q⟩:=hop
  obtain ⟨os,g,c1,c2⟩:=hs
  refine tail_any (T:="str") (typeIs_str _ _ _) F.slot_str_getitem.lookup (wpAny_getItem_str_slice (l:=l.map fun i=>(i,t1)) (u:=u.map fun i=>(i,t2)) (st:=Option.none) ⟨os,g,c1,c2⟩ rfl ?_) q
  have e:∀ u:Option Int,∀ t:Tok,(u.map fun i=>(i,t)).map (·.1) = u:=fun u t=>by cases u <;> rfl
  unfold sliceMade slicePicked
  simp only [e,Option.map_none,Option.getD_none]
  have fin:∀ n t',Q (.str (Txt.slice ⟨xs.toArray⟩ l u) t') { c.s with toks:=n }:=fun n t'=>k _ _ (.tok S (strSl_sl l u xs ▸ .str _ t') n)
  have len:(Txt.slice ⟨xs.toArray⟩ l u).length≤sizeLine:=by rw [strSl_sl]; exact Nat.le_trans (sl_len xs) hz
  unfold Txt.slice at fin len
  split
  · rename_i hc
    rw [if_pos hc] at fin
    exact fin _ _
  · rename_i hc
    rw [if_neg hc] at fin len
    exact ⟨len,fin _ _⟩
private theorem PE.slice {a:Expr} {l u st:Option Expr} {p p':Pos} {x r:AV} {il iu is:Option Int} (ha:PE X D sc a L m x m1) (hl:PP X D sc l L m1 il m2) (hu:PP X D sc u L m2 iu m3) (ht:PP X D sc st L m3 is m4) (ho:Slc X m4 il iu is x r)
    (hs:∀ o i,∃ ops,subscripted (.Slice l u st p) false o i = operate ops (getItem o i)):PE X D sc (.Subscript a (.Slice l u st p) p') L m r m4:=fun env A c T Q E k =>
  Subscript_ (ha env A c T _ _ fun va d g=>wpAny_Slice (hl env A d (T.up g.l g.h) _ _ fun t1 d2 g2=>hu env A d2 (T.up (g.l.tr g2.l) g2.h) _ _ fun t2 d3 g3=>ht env A d3 (T.up ((g.l.tr g2.l).tr g3.l) g3.h) _ _ fun t3 d4 g4 =>
    have le:=Map.le_set (.frz { cls:=.type "slice",data:=.fields #[partValue (il.map fun i=>(i,t1)),partValue (iu.map fun i=>(i,t2)),partValue (is.map fun i=>(i,t3))] }) g4.h.top
    ho A ⟨{ d4.s with heap:=_,toks:=d4.s.toks },_⟩ va _ _ _ _ _ (g4.h.new { cls:=.type "slice",data:=.fields #[partValue (il.map fun i=>(i,t1)),partValue (iu.map fun i=>(i,t2)),partValue (is.map fun i=>(i,t3))] } rfl d4.s.toks)
      (g.r.up (((g2.l.tr g3.l).tr g4.l).tr le)) ⟨_,Heap.get?_push_size _ rfl,rfl,rfl⟩ ⟨t1,rfl⟩ ⟨t2,rfl⟩ ⟨t3,rfl⟩ (hs _ _) _ _ _ fun v d5 g5=>k v d5 (g5.fr ((((g.l.tr g2.l).tr g3.l).tr g4.l).tr le))))
end
end
section
open PySem PySem.W PyProof.Rows PySem.Calls PySem.SeqAt
structure Map.leB (own:List Addr) (M N:Map):Prop where
  h:∀ a x,a ∉ own→M.h a = some x→N.h a = some x
  g:∀ i x,M.g i = some x→N.g i = some x
private theorem Map.le.b {M N:Map} (l:M.le N) (own:List Addr):Map.leB own M N:=⟨fun a x zz=>l.h a x,l.g⟩
private theorem Map.leB.rf {own:List Addr} (M:Map):Map.leB own M M:=(Map.le.rf M).b own
private theorem Map.leB.tr {own:List Addr} {M N O:Map} (x:Map.leB own M N) (y:Map.leB own N O):Map.leB own M O:=⟨fun a c n e=>y.h a c n (x.h a c n e),fun i c e=>y.g i c (x.g i c e)⟩
private theorem Map.leB.set {own:List Addr} {M:Map} {a:Addr} (x:Cel) (h:a∈own):Map.leB own M (M.set a x):=⟨fun b y n e=>by rw [Map.set_ne _ _ fun (q:b = a)=>n (by rw [q]; exact h)]; exact e,fun zz zz e=>e⟩
private theorem Map.set_le0 {M:Map} {a:Addr} {o:Obj} (x:Cel) (h:M.h a = some (.pin o)):M.le0 (M.set a x):=fun b y e n=>by
  rw [Map.set_ne _ _ fun q=>by subst q; rw [h] at e; cases e; exact n _ rfl]; exact e
structure FS (X:Amb) (env:Env) (sc:Names) (own:List Addr) (c:Cf) (mem:Mem) (L:Lc):Prop where
  S:Hp X c mem
  N:EnvOk env sc c.M L
  ow:∀ a∈own,(∃ o,c.M.h a = some (.pin o))∧X.B.h a = none
  ns:∃ m,c.s.heap.Ns env.locals m
  L:env.locals∈own
  cell:∀ x a,env.cells.lookup x = some a→a∈own→∃ v,c.s.heap.IsCell a v
  cL:∀ x a,env.cells.lookup x = some a→a∈own→a ≠ env.locals
  inj:∀ x y a,env.cells.lookup x = some a→env.cells.lookup y = some a→a∈own→x = y
section
variable {X:Amb} {env:Env} {sc:Names} {own:List Addr} {c d:Cf} {m m':Mem} {L L':Lc} {D:Nat}
private theorem FS.keep (F:FS X env sc own c m L) (l:c.M.le d.M) (h:Hp X d m'):FS X env sc own d m' L :=
  have k:∀ a∈own,∀ o,c.s.heap.get? a = some o→d.s.heap.get? a = some o:=fun a ha o e=>(F.ow a ha).1.elim fun q e'=>by rw [F.S.pin e'] at e; cases e; exact h.pin (l.h _ _ e')
  { F with
    S:=h
    N:=F.N.up l
    ow:=fun a ha=>⟨(F.ow a ha).1.imp fun o e=>l.h _ _ e,(F.ow a ha).2⟩
    ns:=F.ns.imp fun m h=>by obtain ⟨o,es,ep,e,r⟩:=h; exact ⟨o,es,ep,k _ F.L o e,r⟩
    cell:=fun x a e ha=>(F.cell x a e ha).imp fun v h=>by obtain ⟨o,e,r⟩:=h; exact ⟨o,k a ha o e,r⟩ }
private theorem FS.weak (F:FS X env sc own c m L) (h:∀ x v,L'.lookup x = some v→L.lookup x = some v):FS X env sc own c m L':={ F with N:={ F.N with var:=fun x v e=>F.N.var x v (h x v e) } }
private theorem FS.at' (F:FS X env sc own c m L) {A:Around} (R:Room A D):At X D sc env A c L m:=⟨R,F.N,F.S⟩
private theorem FS.upd (F:FS X env sc own c m L) {a:Addr} {o':Obj} {h':Heap} {tk:Nat} (ha:a∈own) (hs:Heap.SameBut a c.s.heap h') (ho:h'.get? a = some o') (ns:∃ m,h'.Ns env.locals m) (cell:∀ x,env.cells.lookup x = some a→∃ v,h'.IsCell a v)
    (var:∀ x av,L'.lookup x = some av→∃ v,Rep c.M av v∧VarAt env (c.M.set a (.pin o')) x v):FS X env sc own ⟨{ c.s with heap:=h',toks:=tk },c.M.set a (.pin o')⟩ m L':=by
  obtain ⟨⟨o,e⟩,hb⟩:=F.ow a ha
  exact { F with
    S:=F.S.put (fun y q n=>by rw [e] at q; cases q; exact absurd rfl (n _)) (fun y q=>by rw [hb] at q; cases q) (fun b q hne w=>(hs.2 b hne).trans w) (fun zz zz zz zz=>rfl) nofun (.pin ho)
    N:={ F.N with
      cel:=fun x b h=>by
        by_cases hb:b = a
        · subst hb; exact ⟨o',.inr (Map.set_at _ _ _)⟩
        · refine (F.N.cel x b h).imp fun o q=>?_
          unfold Map.ob
          rw [Map.set_ne _ _ hb]; exact q
      var:=fun x av h=>(var x av h).imp fun v q=>⟨q.1.up0 (Map.set_le0 _ e),q.2⟩ }
    ow:=fun b hb=>by
      refine ⟨?_,(F.ow b hb).2⟩
      by_cases q:b = a
      · subst q; exact ⟨o',Map.set_at _ _ _⟩
      · exact (F.ow b hb).1.imp fun o w=>(Map.set_ne _ _ q).trans w
    ns:=ns
    cell:=fun x b e1 e2=>by
      by_cases q:b = a
      · subst q; exact cell x e1
      · exact (F.cell x b e1 e2).imp fun v w=>w.sameBut hs q }
noncomputable def Sto (env:Env) (own:List Addr) (x:Str):Prop:=env.kindOf x = some .local∨(env.kindOf x = some .cell∧∃ c,env.cells.lookup x = some c∧c∈own)
private theorem lookup_set {L:Lc} {x y:Str} {av ay:AV} (h:((x,av) :: L).lookup y = some ay):(y = x∧ay = av)∨(y ≠ x∧L.lookup y = some ay):=by
  rw [List.lookup_cons] at h
  cases e:y == x with
  | true=>rw [e] at h; exact .inl ⟨beq_iff_eq.mp e,(Option.some.inj h).symm⟩
  | false=>rw [e] at h; exact .inr ⟨beq_eq_false_iff_ne.mp e,h⟩
private theorem FS.cne (F:FS X env sc own c m L) {x:Str} {a:Addr} (h:env.cells.lookup x = some a):a ≠ env.locals:=fun e=>F.cL x a h (e ▸ F.L) e
private theorem FS.store (F:FS X env sc own c m L) {x:Str} {av:AV} {v:Value} (hx:Sto env own x) (r:Rep c.M av v) {A:Around} {Q:Unit→Shared→Prop} {E:Value→Shared→Prop}
    (hQ:∀ d,Map.leB own c.M d.M→FS X env sc own d m ((x,av) :: L)→Q () d.s):wpAny (model X.prog X.w) A (storeName env x v) Q E c.s:=by
  obtain ⟨mm,hm⟩:=F.ns
  rcases hx with hl | ⟨hl,a,hc,hco⟩
  · refine wpAny_storeName_local hl hm (fun h' hn hs=>?_) (by rw [F.N.kind]; rfl)
    obtain ⟨oL,esL,epL,hoL,hdL,hsL,hfL⟩:=id hn
    refine hQ ⟨{ c.s with heap:=h',toks:=c.s.toks + 1 },c.M.set env.locals (.pin oL)⟩ (Map.leB.set _ F.L) (F.upd F.L hs hoL ⟨_,hn⟩ (fun y h=>absurd rfl (F.cne h)) fun y ay h=>?_)
    rcases lookup_set h with ⟨rfl,rfl⟩ | ⟨hne,h⟩
    · exact ⟨v,r,.loc hl (Map.set_at _ _ _) hdL hsL (by rw [hfL]; simp)⟩
    · obtain ⟨vy,ry,zy⟩:=F.N.var y ay h
      refine ⟨vy,ry,?_⟩
      cases zy with
      | loc k q1 q2 q3 q4 =>
        obtain ⟨o2,es2,ep2,p1,p2,p3,p4⟩:=hm
        rw [F.S.pin q1] at p1; cases p1
        rw [p2] at q2; cases q2
        exact .loc k (Map.set_at _ _ _) hdL hsL (by rw [hfL]; show (if y = x then some v else mm y) = _; rw [if_neg hne,← p4,q4])
      | cel k q1 q2 q3=>exact .cel k q1 (by unfold Map.ob; rw [Map.set_ne _ _ (F.cne q1)]; exact q2) q3
  · obtain ⟨u,hu⟩:=F.cell x a hc hco
    refine wpAny_storeName_cell F.N.kind hl hc hu fun h' hn hs=>?_
    obtain ⟨oc,hoc,hdc⟩:=id hn
    refine hQ ⟨{ c.s with heap:=h' },c.M.set a (.pin oc)⟩ (Map.leB.set _ hco) (F.upd (tk:=c.s.toks) hco hs hoc ⟨mm,hm.sameBut hs (F.cne hc).symm⟩ (fun y h=>⟨_,hn⟩) fun y ay h=>?_)
    rcases lookup_set h with ⟨rfl,rfl⟩ | ⟨hne,h⟩
    · exact ⟨v,r,.cel (.inl hl) hc (.inr (Map.set_at _ _ _)) hdc⟩
    · obtain ⟨vy,ry,zy⟩:=F.N.var y ay h
      refine ⟨vy,ry,?_⟩
      cases zy with
      | loc k q1 q2 q3 q4=>exact .loc k ((Map.set_ne _ _ (F.cne hc).symm).trans q1) q2 q3 q4
      | @cel c2 o2 k q1 q2 q3 =>
        have hn:c2 ≠ a:=fun e=>hne (F.inj y x a (by rw [← e]; exact q1) hc hco)
        exact .cel k q1 (by unfold Map.ob; rw [Map.set_ne _ _ hn]; exact q2) q3
end
inductive AFlow where
  | next | brk | cont | ret (v:AV)
inductive RepF (M:Map):AFlow→Flow→Prop
  | next:RepF M .next .next
  | brk:RepF M .brk .brk
  | cont:RepF M .cont .cont
  | ret {a:AV} {v:Value}:Rep M a v→RepF M (.ret a) (.ret v)
noncomputable def Stos (sc:Names) (env:Env) (own:List Addr):Prop:=∀ x,(sc.lookup x = some .local∨sc.lookup x = some .cell)→Sto env own x
noncomputable abbrev RP:=AFlow→Lc→Mem→Prop
noncomputable def FinF (X:Amb) (env:Env) (sc:Names) (own:List Addr) (d:Cf) (L:Lc) (m:Mem):AFlow→Prop
  | .ret _=>Hp X d m
  | _=>FS X env sc own d m L
structure Fin (X:Amb) (env:Env) (sc:Names) (own:List Addr) (c:Cf) (P:RP) (v:Flow) (d:Cf) (fl:AFlow) (L:Lc) (m:Mem):Prop where
  l:Map.leB own c.M d.M
  F:FinF X env sc own d L m fl
  r:RepF d.M fl v
  p:P fl L m
structure Now (X:Amb) (D:Nat) (sc:Names) (env:Env) (own:List Addr) (A:Around) (c:Cf) (L:Lc) (m:Mem):Prop where
  R:Room A D
  T:Stos sc env own
  F:FS X env sc own c m L
section
variable (X:Amb) (D:Nat) (sc:Names)
noncomputable def WS (st:Stmt) (L:Lc) (m:Mem) (P:RP):Prop :=
  ∀ (env:Env) (own:List Addr) (A:Around) (c:Cf),Now X D sc env own A c L m→∀ Q E,(∀ v d fl L' m',Fin X env sc own c P v d fl L' m'→Q v d.s)→wpAny (model X.prog X.w) A (exec st env) Q E c.s
noncomputable def W (sts:List Stmt) (L:Lc) (m:Mem) (P:RP):Prop :=
  ∀ (env:Env) (own:List Addr) (A:Around) (c:Cf),Now X D sc env own A c L m→∀ Q E,(∀ v d fl L' m',Fin X env sc own c P v d fl L' m'→Q v d.s)→wpAny (model X.prog X.w) A (execs sts env) Q E c.s
noncomputable def WE (cd:Value) (q:Str) (sts:List Stmt) (L:Lc) (m:Mem) (P:RP):Prop :=
  ∀ (env:Env) (own:List Addr) (A:Around) (c:Cf),env.code = cd→env.qual = q→Now X D sc env own A c L m→∀ Q E,(∀ v d fl L' m',Fin X env sc own c P v d fl L' m'→Q v d.s)→wpAny (model X.prog X.w) A (execs sts env) Q E c.s
noncomputable def Then (rest:List Stmt) (P:RP):RP
  | .next,L,m=>W X D sc rest L m P
  | fl,L,m=>P fl L m
end
section
variable {X:Amb} {D:Nat} {sc:Names} {L L':Lc} {m m1 m2:Mem} {P P':RP} {rest:List Stmt}
private theorem W.e {cd:Value} {q:Str} {sts:List Stmt} (h:W X D sc sts L m P):WE X D sc cd q sts L m P:=fun env own A c zz zz T=>h env own A c T
private theorem Now.on {env:Env} {own:List Addr} {A:Around} {c d:Cf} (T:Now X D sc env own A c L m) (F:FS X env sc own d m1 L'):Now X D sc env own A d L' m1:=⟨T.R,T.T,F⟩
private theorem Fin.fr {env:Env} {own:List Addr} {c d e:Cf} {v:Flow} {fl:AFlow} (f:Fin X env sc own d P v e fl L m) (l:Map.leB own c.M d.M):Fin X env sc own c P v e fl L m:={ f with l:=l.tr f.l }
private theorem W.nil (h:P .next L m):W X D sc [] L m P:=fun env own A c T Q E k=>wpAny_execs_nil (k _ c .next L m ⟨.rf _,T.F,.next,h⟩)
private theorem W.seq {st:Stmt} (h:WS X D sc st L m (Then X D sc rest P)):W X D sc (st :: rest) L m P:=fun env own A c T Q E k =>
  wpAny_execs_cons (h env own A c T _ _ fun v d fl L' m' f=>by
    cases f.r with
    | next=>exact f.p env own A d (T.on f.F) Q E fun v e fl L m g=>k v e fl L m (g.fr f.l)
    | brk=>exact k _ _ _ _ _ ⟨f.l,f.F,.brk,f.p⟩
    | cont=>exact k _ _ _ _ _ ⟨f.l,f.F,.cont,f.p⟩
    | ret r=>exact k _ _ _ _ _ ⟨f.l,f.F,.ret r,f.p⟩)
private theorem W.mono {sts:List Stmt} (h:W X D sc sts L m P) (hp:∀ fl L m,P fl L m→P' fl L m):W X D sc sts L m P':=fun env own A c T Q E k=>h env own A c T Q E fun v d fl L' m' f=>k v d fl L' m' { f with p:=hp _ _ _ f.p }
private theorem W.weak {sts:List Stmt} (h:W X D sc sts L' m P) (hl:∀ x v,L'.lookup x = some v→L.lookup x = some v):W X D sc sts L m P:=fun env own A c T Q E k=>h env own A c (T.on (T.F.weak hl)) Q E k
private theorem PE.go {e:Expr} {av:AV} (h:PE X D sc e L m av m1) {env:Env} {own:List Addr} {A:Around} {c:Cf} (T:Now X D sc env own A c L m) {Q E:Value→Shared→Prop} (k:∀ v d,Map.leB own c.M d.M→FS X env sc own d m1 L→Rep d.M av v→Q v d.s) :
    wpAny (model X.prog X.w) A (eval e env) Q E c.s:=h env A c (T.F.at' T.R) Q E fun v d g=>k v d (g.l.b own) (T.F.keep g.l g.h) g.r
private theorem PT.go {e:Expr} {b:Bool} (h:PT X D sc e L m b m1) {env:Env} {own:List Addr} {A:Around} {c:Cf} (T:Now X D sc env own A c L m) {Q:Bool→Shared→Prop} {E:Value→Shared→Prop} (k:∀ d,Map.leB own c.M d.M→FS X env sc own d m1 L→Q b d.s) :
    wpAny (model X.prog X.w) A (isTrue e env (eval e env)) Q E c.s:=h env A c (T.F.at' T.R) Q E fun d g=>k d (g.l.b own) (T.F.keep g.l g.h)
noncomputable def okB (sc:Names) (x:Str):Bool:=sc.lookup x == some .local || sc.lookup x == some .cell
private theorem nameOk {sc:Names} {x:Str} (h:okB sc x = true):sc.lookup x = some .local∨sc.lookup x = some .cell:=(Bool.or_eq_true_iff.mp h).imp beq_iff_eq.mp beq_iff_eq.mp
noncomputable def NoSwap (e:Expr):Prop:=∀ t l env,swapsWith e t l env = pure false
noncomputable def NoSwapT (sc:Names) (e tgt:Expr) (line:Nat):Prop:=∀ env:Env,NmR env.scope.names sc→env.scope.kind = .function→swapsWith e (some tgt) line env = pure false
private theorem WS.set {x:Str} {p p':Pos} {e:Expr} {av:AV} (hs:NoSwapT sc e (.Name x p') p.line) (hx:okB sc x = true) (he:PE X D sc e L m av m1) (h:P .next ((x,av) :: L) m1):WS X D sc (.Assign [.Name x p'] e p) L m P :=
  fun env own A c T Q E k=>wpAny_Assign_Name (he.go T fun v d l F r=>F.store (T.T x (nameOk hx)) r fun d2 l2 F2=>k _ d2 .next _ _ ⟨l.tr l2,F2,.next,h⟩) (hs _ T.F.N.names T.F.N.kind)
private theorem W.set' {x:Str} {p p':Pos} {e:Expr} {av:AV} (hs:NoSwapT sc e (.Name x p') p.line) (hx:okB sc x = true) (he:PE X D sc e L m av m1) (h:W X D sc rest ((x,av) :: L) m1 P):W X D sc (.Assign [.Name x p'] e p :: rest) L m P:=.seq (.set hs hx he h)
private theorem W.set {x:Str} {p p':Pos} {e:Expr} {av:AV} (he:PE X D sc e L m av m1) (hs:NoSwap e) (hx:okB sc x = true) (h:W X D sc rest ((x,av) :: L) m1 P):W X D sc (.Assign [.Name x p'] e p :: rest) L m P:=.set' (fun zz zz zz=>hs _ _ _) hx he h
private theorem W.aug {x:Str} {p p':Pos} {op:Operator} {e:Expr} {a b r:AV} (ha:L.lookup x = some a) (he:PE X D sc e L m b m1) (ho:Bin X D (inplaceOp op) m1 a b r) (hx:okB sc x = true) (h:W X D sc rest ((x,r) :: L) m1 P):W X D sc (.AugAssign (.Name x p') op e p :: rest) L m P :=
  .seq fun env own A c T Q E k=>(T.F.N.var x a ha).elim fun v q=>wpAny_AugAssign_Name (loadVar T.F.N T.F.S q.2 (he env A c (T.F.at' T.R) _ _ fun w d g=>ho A d v w T.R g.h (q.1.up g.l) g.r _ _ fun u d2 g2 =>
    (T.F.keep (g.l.tr g2.l) g2.h).store (T.T x (nameOk hx)) g2.r fun d3 l3 F3=>k _ d3 .next _ _ ⟨((g.l.tr g2.l).b own).tr l3,F3,.next,h⟩))
private theorem W.expr {p:Pos} {e:Expr} (he:PE X D sc e L m .none m1) (hs:NoSwap e) (h:W X D sc rest L m1 P):W X D sc (.Expr e p :: rest) L m P :=
  .seq fun env own A c T Q E k=>wpAny_Expr (he.go T fun v d l F r=>r.i_none ▸ k _ d .next _ _ ⟨l,F,.next,h⟩) (by unfold interactive; rw [T.F.N.kind]; rfl) (hs _ _ _)
private theorem W.ret {p:Pos} {e:Expr} {av:AV} (he:PE X D sc e L m av m1) (h:P (.ret av) L m1):W X D sc (.Return (some e) p :: rest) L m P :=
  .seq fun env own A c T Q E k=>wpAny_Return_some (he.go T fun v d l F r=>k _ d (.ret av) _ _ ⟨l,F.S,.ret r,h⟩)
private theorem W.retN {p:Pos} (h:P (.ret .none) L m):W X D sc (.Return none p :: rest) L m P :=
  .seq fun env own A c T Q E k=>wpAny_Return_none (k _ c (.ret .none) _ _ ⟨.rf _,T.F.S,.ret .none,h⟩)
private theorem W.cont {p:Pos} (h:P .cont L m):W X D sc (.Continue p :: rest) L m P :=
  .seq fun env own A c T Q E k=>wpAny_Continue (k _ c .cont _ _ ⟨.rf _,T.F,.cont,h⟩)
private theorem W.ifT {p:Pos} {t:Expr} {a b:List Stmt} (ht:PT X D sc t L m true m1) (h:W X D sc a L m1 (Then X D sc rest P)):W X D sc (.If t a b p :: rest) L m P :=
  .seq fun env own A c T Q E k=>wpAny_If (ht.go T fun d l F=>h env own A d (T.on F) Q E fun v e fl L m g=>k v e fl L m (g.fr l))
private theorem W.ifF {p:Pos} {t:Expr} {a b:List Stmt} (ht:PT X D sc t L m false m1) (h:W X D sc b L m1 (Then X D sc rest P)):W X D sc (.If t a b p :: rest) L m P :=
  .seq fun env own A c T Q E k=>wpAny_If (ht.go T fun d l F=>h env own A d (T.on F) Q E fun v e fl L m g=>k v e fl L m (g.fr l))
private theorem W.ifs {p:Pos} {t:Expr} {a b:List Stmt} {q:Bool} (ht:PT X D sc t L m q m1) (h1:q = true→W X D sc a L m1 (Then X D sc rest P)) (h2:q = false→W X D sc b L m1 (Then X D sc rest P)):W X D sc (.If t a b p :: rest) L m P:=by
  cases q with
  | true=>exact .ifT ht (h1 rfl)
  | false=>exact .ifF ht (h2 rfl)
end
end
section
open PySem PySem.W PyProof.Rows PySem.Calls PySem.SeqAt
inductive NsM (M:Map) (a:Addr) (m:Str→Option Value):Prop
  | mk {o es ep}:M.h a = some (.frz o)→o.data = .dict es ep→StrKeys es→(∀ n,nsFind es n = m n)→NsM M a m
private theorem NsM.up {M N:Map} {a:Addr} {m:Str→Option Value} (h:NsM M a m) (l:M.le N):NsM N a m:=by
  cases h with
  | mk a b c d=>exact .mk (l.h _ _ a) b c d
inductive Glo (M:Map) (x:Str) (v:Value):Prop
  | main {m}:NsM M mainGlobals m→m x = some v→Glo M x v
  | bu {m mb}:NsM M mainGlobals m→m x = none→NsM M builtinsNs mb→mb x = some v→Glo M x v
private theorem Glo.up {M N:Map} {x:Str} {v:Value} (h:Glo M x v) (l:M.le N):Glo N x v:=by
  cases h with
  | main a b=>exact .main (a.up l) b
  | bu a b c d=>exact .bu (a.up l) b (c.up l) d
section
variable {X:Amb} {D:Nat} {sc:Names} {L:Lc} {m m1 m2 m3:Mem}
private theorem Sep.base {s:Shared} {M:Map} (S:Sep X s M m) {a:Addr} {o:Obj} (h:X.B.h a = some (.frz o)):s.heap.get? a = some o:=S.frz (S.x.h _ _ h)
private theorem NsM.ns {s:Shared} {M:Map} {a:Addr} {f:Str→Option Value} (h:NsM X.B a f) (S:Sep X s M m):s.heap.Ns a f:=by
  cases h with
  | mk a b c d=>exact ⟨_,_,_,S.base a,b,c,d⟩
private theorem globGo {env:Env} {A:Around} {c:Cf} {x:Str} {v:Value} {p:Pos} {Q E:Value→Shared→Prop} (T:At X D sc env A c L m) (hx:sc.lookup x = some .globalImplicit) (hg:Glo X.B x v) (h:Q v c.s) :
    wpAny (model X.prog X.w) A (eval (.Name x p) env) Q E c.s:=by
  have hk:env.kindOf x = some .globalImplicit:=T.N.names.at hx nofun
  have hd:(x == ("__debug__":Str)) = false:=by
    refine beq_eq_false_iff_ne.mpr fun e=>?_
    subst e; rw [T.N.dbg'] at hk; cases hk
  refine Name_function_global T.N.kind hk ?_ hd
  cases hg with
  | main a b=>exact loadGlobal_global (by rw [T.N.gl]; exact a.ns T.S) b h
  | bu a b e d=>exact loadGlobal_builtin (by rw [T.N.gl]; exact a.ns T.S) b (by rw [T.N.bu]; exact e.ns T.S) d h
private theorem PE.glob {x:Str} {p:Pos} {av:AV} {v:Value} (hx:sc.lookup x = some .globalImplicit) (hg:Glo X.B x v) (r:∀ M,X.B.le M→Rep M av v):PE X D sc (.Name x p) L m av m :=
  fun env A c T Q E k=>globGo T hx hg (k v c (.now T.S (r _ T.S.x)))
noncomputable def Pl (es:List Expr):Prop:=∀ (env:Env) (pos:Pos),(backTo pos (starEach es env)).any (·.1) = false ∧
  ∀ (M:Model) (A:Around) (f:Value) (Q:Args→Shared→Prop) (E:Value→Shared→Prop) (s:Shared),wpAny M A (spliced (backTo pos (starEach es env))) (fun vs s'=>Q ⟨vs,[]⟩ s') E s→wpAny M A (evalArgs f true (backTo pos (starEach es env)) []) Q E s
private theorem Pl.nil:Pl []:=fun env pos=>⟨rfl,fun M A f Q E s h=>by
  unfold evalArgs
  show wpAny M A (spliced [] >>= _) Q E s
  refine wpAny_bind (wpAny_mono h (fun vs s' h'=>?_) fun zz zz x=>x)
  refine wpAny_bind (wpAny_pure ?_)
  refine wpAny_holding ?_
  exact wpAny_bind (wpAny_pure (wpAny_bind (wpAny_pure (wpAny_pure h'))))⟩
private theorem Pl.cons {e:Expr} {es:List Expr} (he:∀ env,starEach (e :: es) env = (false,eval e env) :: starEach es env) (hr:Pl es):Pl (e :: es):=fun env pos=>by
  have hs:backTo pos (starEach (e :: es) env) = (false,eval e env) :: backTo pos (starEach es env):=by rw [he]; rfl
  rw [hs]
  exact ⟨by rw [List.any_cons,(hr env pos).1]; rfl,fun M A f Q E s h=>evalArgs_plain h⟩
structure PA (X:Amb) (D:Nat) (sc:Names) (es:List Expr) (L:Lc) (m:Mem) (avs:List AV) (m':Mem):Prop where
  v:PEs X D sc es L m avs m'
  p:Pl es
private theorem PA.nil:PA X D sc [] L m [] m:=⟨.nil,.nil⟩
private theorem PA.cons {e:Expr} {es:List Expr} {x:AV} {xs:List AV} (he:∀ env,starEach (e :: es) env = (false,eval e env) :: starEach es env) (hf:PE X D sc e L m x m1) (hg:PA X D sc es L m1 xs m2):PA X D sc (e :: es) L m (x :: xs) m2:=⟨.cons' he hf hg.v,.cons he hg.p⟩
noncomputable def Call (X:Amb) (D:Nat) (op:List Value→Sem Value) (m:Mem) (avs:List AV) (r:AV) (m':Mem):Prop :=
  ∀ (A:Around) (c:Cf) (vs:List Value),Room A D→Hp X c m→Reps c.M avs vs→∀ Q E,(∀ v d,Got X c m' r v d→Q v d.s)→wpAny (model X.prog X.w) A (op vs) Q E c.s
noncomputable abbrev opF (a:Addr) (vs:List Value):Sem Value:=call (.ref a) vs
noncomputable abbrev opB (id:String) (vs:List Value):Sem Value:=call (.builtin id) vs
noncomputable abbrev opT (T:String) (vs:List Value):Sem Value:=call (.type T) vs
private theorem PE.callB {x:Str} {id:String} {p pos:Pos} {es:List Expr} {avs:List AV} {r:AV} (hg:Glo X.B x (.builtin id)) (hes:PA X D sc es L m avs m1) (ho:Call X D (opB id) m1 avs r m2) (hx:sc.lookup x = some .globalImplicit):PE X D sc (.Call (.Name x p) es [] pos) L m r m2:=fun env A c T Q E k =>
  (wpAny_bind (globGo T hx hg (callWith_builtin (hes.p env pos).1 ((hes.p env pos).2 _ _ _ _ _ _ (hes.v pos env A c T _ _ fun vs d g=>ho A d vs T.R g.h g.r Q E fun v d2 g2=>k v d2 (g2.fr g.l))))):wpAny (model X.prog X.w) A (do callWith pos (← eval (.Name x p) env) [] (backTo pos (starEach es env)) (backToKw pos (keywordEach [] env))) Q E c.s)
private theorem evalCallT {x:Str} {id:String} {p pos:Pos} {es:List Expr} {avs:List AV} {env:Env} {A:Around} {c:Cf} (T:At X D sc env A c L m) (hx:sc.lookup x = some .globalImplicit) (hg:Glo X.B x (.type id)) (hes:PA X D sc es L m avs m1) {Q E:Value→Shared→Prop}
    (k:∀ vs d,Gots X c m1 avs vs d→wpAny (model X.prog X.w) A (opT id vs) Q E d.s):wpAny (model X.prog X.w) A (eval (.Call (.Name x p) es [] pos) env) Q E c.s :=
  (wpAny_bind (globGo T hx hg (PySem.callWith_type (hes.p env pos).1 ((hes.p env pos).2 _ _ _ _ _ _ (hes.v pos env A c T _ _ k)))):wpAny (model X.prog X.w) A (do callWith pos (← eval (.Name x p) env) [] (backTo pos (starEach es env)) (backToKw pos (keywordEach [] env))) Q E c.s)
private theorem PE.callT {x:Str} {id:String} {p pos:Pos} {es:List Expr} {avs:List AV} {r:AV} (hg:Glo X.B x (.type id)) (hes:PA X D sc es L m avs m1) (ho:Call X D (opT id) m1 avs r m2) (hx:sc.lookup x = some .globalImplicit):PE X D sc (.Call (.Name x p) es [] pos) L m r m2:=fun env A c T Q E k =>
  evalCallT T hx hg hes fun vs d g=>ho A d vs T.R g.h g.r Q E fun v d2 g2=>k v d2 (g2.fr g.l)
structure Fd where
  name:Str
  params:Arguments
  body:List Stmt
  scope:Scope
set_option backward.match.sparseCases false in
noncomputable def fdAt (l:List Stmt) (k:Nat):Fd:=match l[k]? with
  | some (.FunctionDef name args body _ _ _ scope _ _ _)=>⟨name,args,body,scope⟩
  | _=>⟨"",⟨[],[],none,[],[],none,[]⟩,[],default⟩
noncomputable abbrev fnXD (F:Fd) (q:Str) (cl:List (Str × Addr)) (dv doc pm cd ct:Value):FuncData:=fnX F.name q F.params F.body F.scope cl dv .none doc pm none cd ct
structure FnObj (M:Map) (F:Fd) (q:Str) (cl:List (Str × Addr)) (dv:Value) (a:Addr) (o:Obj) (doc pm cd ct:Value):Prop where
  m:M.h a = some (.frz o)
  cls:o.cls = .type "function"
  data:o.data = .func (fnXD F q cl dv doc pm cd ct)
  code:CodeRecM M cd q
noncomputable def FnAt (M:Map) (F:Fd) (q:Str) (cl:List (Str × Addr)) (dv:Value) (a:Addr):Prop:=∃ o doc pm cd ct,FnObj M F q cl dv a o doc pm cd ct
private theorem FnAt.up {M N:Map} {F:Fd} {q:Str} {cl:List (Str × Addr)} {dv:Value} {a:Addr} (h:FnAt M F q cl dv a) (l:M.le N):FnAt N F q cl dv a:=by
  obtain ⟨o,doc,pm,cd,ct,h⟩:=h
  exact ⟨o,doc,pm,cd,ct,{ h with m:=l.h _ _ h.m,code:=h.code.up l.l0.f }⟩
private theorem PE.call {x:Str} {F:Fd} {q:Str} {cl:List (Str × Addr)} {dv:Value} {a:Addr} {p pos:Pos} {es:List Expr} {avs:List AV} {r:AV} (hg:Glo X.B x (.ref a)) (hF:FnAt X.B F q cl dv a) (hes:PA X D sc es L m avs m1) (ho:Call X D (opF a) m1 avs r m2) (hx:sc.lookup x = some .globalImplicit):PE X D sc (.Call (.Name x p) es [] pos) L m r m2:=fun env A c T Q E k=>by
  obtain ⟨o,doc,pm,cd,ct,h⟩:=hF
  exact (wpAny_bind (globGo T hx hg (callWith_function (o:=o) ((hes.p env pos).2 _ _ _ _ _ _ (hes.v pos env A c T _ _ fun vs d g=>⟨⟨g.h.base h.m,h.data⟩,ho A d vs T.R g.h g.r Q E fun v d2 g2=>k v d2 (g2.fr g.l)⟩)))):wpAny (model X.prog X.w) A (do callWith pos (← eval (.Name x p) env) [] (backTo pos (starEach es env)) (backToKw pos (keywordEach [] env))) Q E c.s)
private theorem PE.callV {x:Str} {F:Fd} {q:Str} {cl:List (Str × Addr)} {dv:Value} {a:Addr} {p pos:Pos} {es:List Expr} {avs:List AV} {r:AV} (hv:L.lookup x = some (.ext (.ref a))) (hF:FnAt X.B F q cl dv a) (hes:PA X D sc es L m avs m1) (ho:Call X D (opF a) m1 avs r m2):PE X D sc (.Call (.Name x p) es [] pos) L m r m2:=fun env A c T Q E k=>by
  obtain ⟨o,doc,pm,cd,ct,h⟩:=hF
  obtain ⟨v,r1,q⟩:=T.N.var x _ hv
  have:=r1.i_ext
  subst this
  exact (wpAny_bind (wpAny_Name (loadVar T.N T.S q (callWith_function (o:=o) ((hes.p env pos).2 _ _ _ _ _ _ (hes.v pos env A c T _ _ fun vs d g=>⟨⟨g.h.base h.m,h.data⟩,ho A d vs T.R g.h g.r Q E fun v d2 g2=>k v d2 (g2.fr g.l)⟩)))) (q.dbg T.N.dbg')):wpAny (model X.prog X.w) A (do callWith pos (← eval (.Name x p) env) [] (backTo pos (starEach es env)) (backToKw pos (keywordEach [] env))) Q E c.s)
noncomputable def IsOf (T:String) (m:Mem) (a:AV):Prop:=∀ (X:Amb) (s:Shared) (M:Map) (v:Value),Sep X s M m→Rep M a v→s.TypeIs v T∧∀ b,v = .ref b→∃ ob,s.heap.get? b = some ob∧ob.dict = none
private theorem IsOf.str {l:List Nat}:IsOf "str" m (.str l):=fun X s M v S r=>r.i_str.elim fun t e=>e ▸ ⟨typeIs_str _ _ _,nofun⟩
private theorem IsOf.int {i:Int}:IsOf "int" m (.int i):=fun X s M v S r=>r.i_int.elim fun t e=>e ▸ ⟨typeIs_int _ _ _,nofun⟩
private theorem isL {s:Shared} {a:Addr} {vs:List Value} {n:Nat} (g:s.heap.get? a = some (lo vs n)):s.TypeIs (.ref a) "list"∧∀ b,Value.ref a = .ref b→∃ ob,s.heap.get? b = some ob∧ob.dict = none:=⟨⟨_,g,rfl⟩,fun b e=>by cases e; exact ⟨_,g,rfl⟩⟩
private theorem IsOf.lst {l:List AV}:IsOf "list" m (.lst l):=fun X s M v S r=>by
  cases r.i_lst with
  | mk a _=>exact isL (S.frz a)
private theorem IsOf.mref {i:Nat} {xs:List AV} (e:m[i]? = some (.lst xs)):IsOf "list" m (.mref i):=fun X s M v S r=>by
  cases r.i_mref with
  | mk a=>obtain ⟨vs,n,g,_⟩:=S.mlist a e; exact isL g
noncomputable def Few (es:List Expr) (pos:Pos):Prop:=∀ env,((backTo pos (starEach es env)).all (fun x=>!x.1) && (backToKw pos (keywordEach [] env)).all (fun x=>x.1.isSome) && decide (es.length + ([]:List Keyword).length + (if ([]:List Keyword).isEmpty then 0 else 1) < 30)) = true
structure MethOk (T:String) (name:Str) (id:String):Prop where
  pa:PlainAttrs T
  slot:Slot T name id
  ty:typeOf (.builtin id) = pure (.type "method_descriptor")
private theorem PE.meth {o:Expr} {name:Str} {T id:String} {apos pos:Pos} {es:List Expr} {a:AV} {avs:List AV} {r:AV} (mo:MethOk T name id) (hf:PE X D sc o L m a m1) (hk:IsOf T m1 a) (hes:PA X D sc es L m1 avs m2) (ho:Call X D (opB id) m2 (a :: avs) r m3)
    (hbase:∀ env,attributeBase o name env (eval o env) = eval o env) (hfew:Few es pos) (hline:(apos.endLine == pos.line) = true):PE X D sc (.Call (.Attribute o name apos) es [] pos) L m r m3:=fun env A c T' Q E k =>
  wpAny_Call_method (T:=T) (id:=id) (hbase env) (hfew env) hline mo.pa mo.slot mo.ty (hf env A c T' _ _ fun va d g =>
    have t:=hk X _ _ va g.h g.r
    ⟨t.1,t.2,callWith_builtin (hes.p env pos).1 ((hes.p env pos).2 _ _ _ _ _ _ (hes.v pos env A d (T'.up g.l g.h) _ _ fun vs d2 g2=>ho A d2 (va :: vs) T'.R g2.h (.cons (g.r.up g2.l) g2.r) Q E fun v d3 g3=>k v d3 (g3.fr (g.l.tr g2.l))))⟩)
end
end
section
open PySem PySem.W PyProof.Rows PySem.Calls PySem.SeqAt
noncomputable def Map.pins (M:Map) (h:Heap) (own:List Addr):Map:=⟨fun a=>if a∈own then (h.get? a).map Cel.pin else M.h a,M.g⟩
private theorem Map.pins_in {M:Map} {h:Heap} {own:List Addr} {a:Addr} {o:Obj} (ha:a∈own) (e:h.get? a = some o):(M.pins h own).h a = some (.pin o):=(if_pos ha).trans (congrArg (Option.map _) e)
private theorem Map.pins_out {M:Map} {h:Heap} {own:List Addr} {a:Addr} (ha:a ∉ own):(M.pins h own).h a = M.h a:=if_neg ha
section
variable {X:Amb} {D:Nat} {sc:Names} {L:Lc} {m m':Mem} {s:Shared} {M:Map} {own:List Addr}
private theorem Map.le_pins (fr:∀ a∈own,M.h a = none) {h:Heap}:M.le (M.pins h own):=⟨fun a x e=>(Map.pins_out fun ha=>by rw [fr a ha] at e; cases e).trans e,fun zz zz e=>e⟩
private theorem Sep.pins (S:Sep X s M m) (fr:∀ a∈own,M.h a = none):Sep X s (M.pins s.heap own) m :=
  have l:=Map.le_pins fr (h:=s.heap)
  have old:∀ a x,a ∉ own→(M.pins s.heap own).h a = some x→M.h a = some x:=fun a x h e=>(Map.pins_out h) ▸ e
  have mu:∀ a j,(M.pins s.heap own).h a = some (.mu j)→M.h a = some (.mu j):=fun a j e=>old a _ (fun h=>by
    have e:(if a∈own then (s.heap.get? a).map Cel.pin else M.h a) = _:=e
    rw [if_pos h] at e
    cases q:s.heap.get? a with
    | none=>rw [q] at e; cases e
    | some o=>rw [q] at e; cases e) e
  { S with
    c:=fun a x e=>by
      by_cases h:a∈own
      · have e:=(show (M.pins s.heap own).h a = _ from if_pos h) ▸ e
        cases q:s.heap.get? a with
        | none=>rw [q] at e; cases e
        | some o=>rw [q] at e; cases e; exact .pin q
      · exact (S.c a x (old a x h e)).go l.l0 (fun zz e=>e) fun zz zz=>rfl
    i:=fun a b j e1 e2=>S.i a b j (mu a j e1) (mu b j e2)
    x:=S.x.tr l }
structure FnOk (ps:List Str) (scope:Scope):Prop where
  kind:scope.kind = .function
  co:scope.isCoroutine = false
  gen:scope.isGenerator = false
  dbg:scope.names.lookup ("__debug__":Str) = none
  cld:scope.names.lookup ("__classdict__":Str) = none
  nd:ps.Nodup
  nn:(scope.names.map (·.1)).Nodup
  kd:∀ x∈ps,scope.names.lookup x = some .local∨scope.names.lookup x = some .cell
noncomputable def fnOkB (ps:List Str) (scope:Scope):Bool:=scope.kind == .function && !scope.isCoroutine && !scope.isGenerator && (scope.names.lookup ("__debug__":Str)).isNone && (scope.names.lookup ("__classdict__":Str)).isNone && decide ps.Nodup && decide (scope.names.map (·.1)).Nodup && ps.all fun x=>scope.names.lookup x == some .local || scope.names.lookup x == some .cell
private theorem fnOk {ps:List Str} {scope:Scope} (h:fnOkB ps scope = true):FnOk ps scope:=by
  unfold fnOkB at h
  simp only [Bool.and_eq_true,beq_iff_eq,Bool.not_eq_true',Option.isNone_iff_eq_none,List.all_eq_true,Bool.or_eq_true,decide_eq_true_eq] at h
  exact ⟨h.1.1.1.1.1.1.1,h.1.1.1.1.1.1.2,h.1.1.1.1.1.2,h.1.1.1.1.2,h.1.1.1.2,h.1.1.2,h.1.2,h.2⟩
noncomputable def NoLim (M:Map):Prop:=∃ mc,NsM M cStatics mc∧mc "sys.recursionlimit" = none
private theorem NoLim.lim {mm:Mem} (h:NoLim X.B) (S:Sep X s M mm):s.heap.NoLimit:=h.elim fun mc q=>⟨mc,q.1.ns S,q.2⟩
private theorem CodeRecM.go {mm:Mem} {cd:Value} {q:Str} (h:CodeRecM X.B cd q) (S:Sep X s M mm):s.heap.CodeRec cd q:=by
  cases h with
  | mk a b c=>exact ⟨_,_,_,_,rfl,S.base a,b,c⟩
section
variable {α:Type} {x:Str}
private theorem lookup_key {v:α}:∀ {l:List (Str × α)},l.lookup x = some v→x∈l.map (·.1)
  | (y,d) :: r,h=>by
    rw [List.lookup_cons] at h
    cases e:x == y with
    | true=>exact beq_iff_eq.mp e ▸ List.mem_cons_self
    | false=>rw [e] at h; exact List.mem_cons_of_mem _ (lookup_key h)
private theorem lookup_mem {c:α}:∀ {l:List (Str × α)},(l.map (·.1)).Nodup→(x,c)∈l→l.lookup x = some c
  | (y,d) :: r,hn,h=>by
    rw [List.map_cons,List.nodup_cons] at hn
    rw [List.lookup_cons]
    rcases List.mem_cons.mp h with h | h
    · cases h; rw [beq_self_eq_true]
    · rw [show (x == y) = false from beq_eq_false_iff_ne.mpr fun e=>hn.1 (e ▸ List.mem_map_of_mem (f:=(·.1)) h)]
      exact lookup_mem hn.2 h
end
private theorem zipRep {x:Str} {av:AV}:∀ {ps:List Str} {avs:List AV} {vs:List Value},Reps M avs vs→(ps.zip avs).lookup x = some av→∃ v,(ps.zip vs).lookup x = some v∧Rep M av v
  | [],_,_,_,h=>by cases h
  | _ :: _,[],_,_,h=>by cases h
  | p :: ps,a :: avs,vs,r,h=>by
    cases r.i_cons with
    | @mk v vs r1 rs =>
      rw [List.zip_cons_cons,List.lookup_cons] at h
      rw [List.zip_cons_cons,List.lookup_cons]
      cases e:x == p with
      | true=>rw [e] at h; cases h; exact ⟨v,rfl,r1⟩
      | false=>rw [e] at h; exact zipRep (ps:=ps) (avs:=avs) rs h
section
variable {kindOf:Str→Option NameKind} {x:Str} {v:Value}
private theorem bindL_skip:∀ {l:List (Str × Value)} {m:Str→Option Value},x ∉ l.map (·.1)→bindL kindOf l m x = m x
  | [],_,_=>rfl
  | (p,w) :: l,m,h=>by
    rw [List.map_cons,List.mem_cons,not_or] at h
    show bindL kindOf l _ x = _
    rw [bindL_skip h.2]; split
    · exact if_neg h.1
    · rfl
private theorem bindC_skip:∀ {l:List (Str × Value)} {m:Str→Option Value},x ∉ l.map (·.1)→bindC kindOf l m x = m x
  | [],_,_=>rfl
  | (p,w) :: l,m,h=>by
    rw [List.map_cons,List.mem_cons,not_or] at h
    show bindC kindOf l _ x = _
    rw [bindC_skip h.2]; split
    · rfl
    · exact if_neg h.1
private theorem bindL_at (hk:kindOf x = some .local):∀ {l:List (Str × Value)} {m:Str→Option Value},(l.map (·.1)).Nodup→l.lookup x = some v→bindL kindOf l m x = some v
  | (p,w) :: l,m,hn,h=>by
    rw [List.map_cons,List.nodup_cons] at hn
    rw [List.lookup_cons] at h
    show bindL kindOf l _ x = _
    cases e:x == p with
    | true=>rw [e] at h; cases h; have:=beq_iff_eq.mp e; subst this; rw [bindL_skip hn.1,if_pos hk]; exact if_pos rfl
    | false=>rw [e] at h; exact bindL_at hk hn.2 h
private theorem bindC_at (hk:kindOf x = some .cell):∀ {l:List (Str × Value)} {m:Str→Option Value},(l.map (·.1)).Nodup→l.lookup x = some v→bindC kindOf l m x = some v
  | (p,w) :: l,m,hn,h=>by
    rw [List.map_cons,List.nodup_cons] at hn
    rw [List.lookup_cons] at h
    show bindC kindOf l _ x = _
    cases e:x == p with
    | true=>rw [e] at h; cases h; have:=beq_iff_eq.mp e; subst this; rw [bindC_skip hn.1,if_neg (by rw [hk]; exact nofun)]; exact if_pos rfl
    | false=>rw [e] at h; exact bindC_at hk hn.2 h
end
private theorem cellsFrom_app:∀ (names:Names) (n:Nat) (acc:List (Str × Addr)),cellsFrom n names acc = cellsFrom n names []++acc
  | [],n,acc=>rfl
  | (x,k) :: r,n,acc=>by
    unfold cellsFrom
    split
    · rw [cellsFrom_app r (n + 1) ((x,n) :: acc),cellsFrom_app r (n + 1) [(x,n)],List.append_assoc]; rfl
    · exact cellsFrom_app r n acc
private theorem mem_cellsFrom {x:Str}:∀ {names:Names} {n:Nat},(x,NameKind.cell)∈names→∃ c,(x,c)∈cellsFrom n names []
  | (y,k) :: r,n,h=>by
    unfold cellsFrom
    rcases List.mem_cons.mp h with h | h
    · cases h; rw [if_pos (show (NameKind.cell == NameKind.cell) = true from rfl),cellsFrom_app]; exact ⟨n,List.mem_append_right _ List.mem_cons_self⟩
    · split
      · rw [cellsFrom_app]; exact (mem_cellsFrom h).imp fun c q=>List.mem_append_left _ q
      · exact mem_cellsFrom h
private theorem cellsFrom_sub {x:Str} {c:Addr}:∀ {names:Names} {n:Nat},(x,c)∈cellsFrom n names []→x∈names.map (·.1)
  | (y,k) :: r,n,h=>by
    unfold cellsFrom at h
    split at h
    · rw [cellsFrom_app] at h
      rcases List.mem_append.mp h with h | h
      · exact List.mem_cons_of_mem _ (cellsFrom_sub h)
      · cases List.mem_singleton.mp h; exact List.mem_cons_self
    · exact List.mem_cons_of_mem _ (cellsFrom_sub h)
private theorem cellsFrom_nd:∀ {names:Names} {n:Nat},(names.map (·.1)).Nodup→((cellsFrom n names []).map (·.1)).Nodup
  | [],n,_=>List.nodup_nil
  | (y,k) :: r,n,h=>by
    rw [List.map_cons,List.nodup_cons] at h
    unfold cellsFrom
    split
    · rw [cellsFrom_app,List.map_append,List.nodup_append]
      refine ⟨cellsFrom_nd h.2,List.nodup_cons.mpr ⟨List.not_mem_nil,List.nodup_nil⟩,fun a ha b hb e=>?_⟩
      obtain ⟨⟨a',c⟩,q,rfl⟩:=List.mem_map.mp ha
      cases List.mem_singleton.mp hb
      exact h.1 ((show a' = y from e) ▸ cellsFrom_sub q)
    · exact cellsFrom_nd h.2
structure Ent (X:Amb) (D:Nat) (sc:Names) (env:Env) (own:List Addr) (A:Around) (c d:Cf) (L:Lc) (m:Mem):Prop where
  l:c.M.le d.M
  fr:∀ a∈own,c.M.h a = none
  T:Now X D sc env own A d L m
private theorem zip_nd {α:Type} {x:Str}:∀ {ps:List Str} {vs:List α},ps.Nodup→((ps.zip vs).map (·.1)).Nodup∧(x∈(ps.zip vs).map (·.1)→x∈ps)
  | [],_,_=>⟨List.nodup_nil,fun h=>h⟩
  | _ :: _,[],_=>⟨List.nodup_nil,fun h=>absurd h List.not_mem_nil⟩
  | p :: ps,v :: vs,h=>by
    rw [List.nodup_cons] at h
    exact ⟨List.nodup_cons.mpr ⟨fun q=>h.1 ((zip_nd h.2).2 q),(zip_nd (x:=x) h.2).1⟩,fun q=>(List.mem_cons.mp q).elim (fun e=>e ▸ List.mem_cons_self) fun q=>List.mem_cons_of_mem _ ((zip_nd h.2).2 q)⟩
private theorem Room.deep {A:Around} (R:Room A (D + 1)) (env:Env):Room (A.deeper env) D:=⟨R.1,by have:=R.2.1; simp only [Around.deeper]; lia,by have:=R.2.2; simp only [Around.deeper]; lia⟩
private theorem enterC {c:Cf} {A:Around} {name:Str} {scope:Scope} {a:Addr} {cd:Value} {ps:List Str} {avs:List AV} {vs:List Value} {h₁:Heap} {tk:Nat} (ok:FnOk ps scope) (R:Room A (D + 1)) (S:Hp X c m) (rs:Reps c.M avs vs)
    (F:PyProof.Rows.Fr c.s.heap c.s.heap.objs.size h₁ (bindL (envOfC name scope c.s.heap.objs.size a cd).kindOf (ps.zip vs) fun zz=>none))
    (C:Cl c.s.heap.objs.size (cellsFrom (c.s.heap.objs.size + 1) scope.names []) h₁ (bindC (envOfC name scope c.s.heap.objs.size a cd).kindOf (ps.zip vs) fun zz=>none)) :
    Ent X D scope.names (envOfC name scope c.s.heap.objs.size a cd) (c.s.heap.objs.size :: (cellsFrom (c.s.heap.objs.size + 1) scope.names []).map (·.2)) (A.deeper (envOfC name scope c.s.heap.objs.size a cd)) c
      ⟨{ c.s with heap:=h₁,toks:=tk },c.M.pins h₁ (c.s.heap.objs.size :: (cellsFrom (c.s.heap.objs.size + 1) scope.names []).map (·.2))⟩ (ps.zip avs) m:=by
  generalize hown:c.s.heap.objs.size :: (cellsFrom (c.s.heap.objs.size + 1) scope.names []).map (·.2) = own
  have S1:Sep X { c.s with heap:=h₁,toks:=tk } c.M m:=S.keep fun b o zz e=>F.keep b o e
  have inown:∀ n b,(n,b)∈cellsFrom (c.s.heap.objs.size + 1) scope.names []→b∈own:=fun n b h=>hown ▸ List.mem_cons_of_mem _ (List.mem_map_of_mem (f:=(·.2)) h)
  have lown:c.s.heap.objs.size∈own:=hown ▸ List.mem_cons_self
  have cellc:∀ x b,(envOfC name scope c.s.heap.objs.size a cd).cells.lookup x = some b→(x,b)∈cellsFrom (c.s.heap.objs.size + 1) scope.names []:=fun x b h=>mem_of_lookup h
  have ge:∀ b∈own,c.M.h b = none∧∃ o,h₁.get? b = some o:=fun b hb=>by
    rw [← hown] at hb
    rcases List.mem_cons.mp hb with h | h
    · rw [h]; obtain ⟨o,_,_,e,_⟩:=F.ns; exact ⟨S.top,o,e⟩
    · obtain ⟨⟨n,b⟩,h1,rfl⟩:=List.mem_map.mp h
      obtain ⟨o,ho,_⟩:=C.cell n b (lookup_mem (cellsFrom_nd ok.nn) h1)
      refine ⟨S.fresh ?_,o,ho⟩
      cases e:c.s.heap.get? b with
      | none=>rfl
      | some o=>exact absurd (Heap.lt_size e) (Nat.not_lt.mpr (Nat.le_of_lt (C.above n b h1)))
  have fr:∀ b∈own,c.M.h b = none:=fun b hb=>(ge b hb).1
  have hst:∀ x,scope.names.lookup x = some .cell→∃ b,(cellsFrom (c.s.heap.objs.size + 1) scope.names []).lookup x = some b:=fun x h =>
    (mem_cellsFrom (mem_of_lookup h)).imp fun b q=>lookup_mem (cellsFrom_nd ok.nn) q
  refine ⟨Map.le_pins fr,fr,R.deep _,fun x hx=>hx.imp id fun hk=>⟨hk,(hst x hk).imp fun b q=>⟨q,inown x b (mem_of_lookup q)⟩⟩,{
    S:=S1.pins fr
    ow:=fun b hb=>⟨(ge b hb).2.imp fun o e=>Map.pins_in hb e,?_⟩
    ns:=⟨_,F.ns⟩
    L:=lown
    cell:=fun x b h zz=>⟨_,C.cell x b h⟩
    cL:=fun x b h zz=>Nat.ne_of_gt (C.above x b (cellc x b h))
    inj:=fun x y b hx hy zz=>name_of_addr C.apart (cellc x b hx) (cellc y b hy)
    N:={
      names:=.rf _
      kind:=ok.kind
      gl:=rfl
      bu:=rfl
      dbg:=ok.dbg
      cld:=ok.cld
      cel:=fun x b h=>(ge b (inown x b (cellc x b h))).2.imp fun o e=>.inr (Map.pins_in (inown x b (cellc x b h)) e)
      var:=fun x av h=>by
        obtain ⟨v,hv,r⟩:=zipRep rs h
        refine ⟨v,r.up (Map.le_pins fr),?_⟩
        rcases ok.kd x ((zip_nd ok.nd).2 (lookup_key h)) with hk | hk
        · obtain ⟨o,es,ep,q1,q2,q3,q4⟩:=F.ns
          exact .loc hk (Map.pins_in lown q1) q2 q3 (by rw [q4]; exact bindL_at hk (zip_nd (x:=x) ok.nd).1 hv)
        · obtain ⟨b,hb⟩:=hst x hk
          obtain ⟨o,q1,q2⟩:=C.cell x b hb
          exact .cel (.inl hk) hb (.inr (Map.pins_in (inown x b (mem_of_lookup hb)) q1)) (by rw [q2,bindC_at hk (zip_nd (x:=x) ok.nd).1 hv]) } }⟩
  cases e:X.B.h b with
  | none=>rfl
  | some y=>have:=S.x.h _ _ e; rw [fr b hb] at this; cases this
noncomputable def Ret (R:AV→Mem→Prop):RP
  | .ret v,_,m=>R v m
  | .next,_,m=>R .none m
  | _,_,_=>False
private theorem Ent.run {env:Env} {A:Around} {c d:Cf} {body:List Stmt} {R:AV→Mem→Prop} (e:Ent X D sc env own A c d L m) (hb:WE X D sc env.code env.qual body L m (Ret R)) {Q:Value→Shared→Prop} (k:∀ v d r m',R r m'→Got X c m' r v d→Q v d.s) :
    wpAny (model X.prog X.w) A (execs body env) (fun f s'=>Q (match f with | .ret v=>v | _=>.none) s') (fun zz zz=>False) d.s :=
  hb env own A d rfl rfl e.T _ _ fun v d2 fl L' m' f =>
    have l:c.M.le d2.M:=⟨fun a x q=>f.l.h a x (fun ha=>by rw [e.fr a ha] at q; cases q) (e.l.h a x q),fun i x q=>f.l.g i x (e.l.g i x q)⟩
    match fl,v,f.r,f.p with
    | _,_,.next,p=>k _ _ _ _ p ⟨l,f.F.S,.none⟩
    | _,_,.ret r,p=>k _ _ _ _ p ⟨l,f.F,r⟩
noncomputable def CallR (X:Amb) (D:Nat) (op:List Value→Sem Value) (m:Mem) (avs:List AV) (R:AV→Mem→Prop):Prop :=
  ∀ (A:Around) (c:Cf) (vs:List Value),Room A D→Hp X c m→Reps c.M avs vs→∀ Q E,(∀ v d r m',R r m'→Got X c m' r v d→Q v d.s)→wpAny (model X.prog X.w) A (op vs) Q E c.s
noncomputable def BindN (fd:FuncData):List Str→List (Str × Value)→List Value→Prop
  | [],bs,vs=>bindArgs fd ⟨vs,[]⟩ = pure bs
  | p :: ps,bs,vs=>∀ v,BindN fd ps (bs++[(p,v)]) (vs++[v])
private theorem BindN.to {fd:FuncData}:∀ {ps:List Str} {bs:List (Str × Value)} {us vs:List Value},BindN fd ps bs us→vs.length = ps.length→bindArgs fd ⟨us++vs,[]⟩ = pure (bs++ps.zip vs):=by
  intro ps
  induction ps with
  | nil =>
    intro bs us vs h hl
    cases List.eq_nil_of_length_eq_zero hl
    rw [List.append_nil,List.zip_nil_left,List.append_nil]; exact h
  | cons p ps ih =>
    intro bs us vs h hl
    obtain ⟨v,vs,rfl⟩:=List.exists_cons_of_length_eq_add_one hl
    have:=ih (h v) (Nat.succ.inj hl)
    rw [List.append_assoc,List.append_assoc] at this
    exact this
private theorem FnObj.call {F:Fd} {a:Addr} {ps:List Str} {avs:List AV} {R:AV→Mem→Prop} {o:Obj} {doc pm cd ct:Value} (h:FnObj X.B F F.name [] .none a o doc pm cd ct) (lim:NoLim X.B) (ok:FnOk ps F.scope) (hbind:∀ doc pm cd ct,BindN (fnXD F F.name [] .none doc pm cd ct) ps [] []) (hl:avs.length = ps.length) (hb:WE X D F.scope.names cd (F.name++".<locals>.") F.body (ps.zip avs) m (Ret R)) :
    CallR X (D + 1) (opF a) m avs R:=fun A c vs Ro S rs Q E k=>by
  refine wpAny_call (codeAny_call_cells (fd:=fnXD F F.name [] .none doc pm cd ct) (by have:=Ro.2.1; lia) (S.base h.m) h.data (lim.lim S) (h.code.go S) rfl ((hbind doc pm cd ct).to (rs.len.trans hl)) rfl (fun x hx=>?_) (fun s₁ I=>?_) ok.co ok.gen ok.kind)
  · rcases ok.kd _ (List.of_mem_zip hx).1 with h | h
    · exact .inl h
    · exact .inr ⟨h,((mem_cellsFrom (mem_of_lookup h)).elim fun b q=>by
        show ((cellsFrom _ F.scope.names []).lookup x.1).isSome = true
        rw [lookup_mem (cellsFrom_nd ok.nn) q]; rfl)⟩
  · obtain ⟨h₁,tk,rfl⟩:=I.toInCall.same
    exact wpAny_mono ((enterC (tk:=tk) ok Ro S rs ⟨I.toInCall.ns,I.toInCall.keep,I.toInCall.fresh⟩ ⟨I.cell,I.apart,I.above⟩).run hb k) (fun zz zz x=>x) fun zz zz x=>x.elim
private theorem FnAt.call {F:Fd} {a:Addr} {ps:List Str} {avs:List AV} {R:AV→Mem→Prop} (h:FnAt X.B F F.name [] .none a) (lim:NoLim X.B) (ok:FnOk ps F.scope) (hbind:∀ doc pm cd ct,BindN (fnXD F F.name [] .none doc pm cd ct) ps [] []) (hl:avs.length = ps.length) (hb:W X D F.scope.names F.body (ps.zip avs) m (Ret R)) :
    CallR X (D + 1) (opF a) m avs R:=by
  obtain ⟨o,doc,pm,cd,ct,h⟩:=h
  exact h.call lim ok hbind hl hb.e
end
end
section
open PySem PySem.W PyProof.Rows PySem.Calls PySem.SeqAt
class inductive Frz (M:Map) (n:Nat) (mem:Mem):AV→AV→Prop
  | none:Frz M n mem .none .none
  | bool (b:Bool):Frz M n mem (.bool b) (.bool b)
  | int (i:Int):Frz M n mem (.int i) (.int i)
  | str (l:List Nat):Frz M n mem (.str l) (.str l)
  | dct (ks:List (Int × Int)):Frz M n mem (.dct ks) (.dct ks)
  | rng (a b:Int):Frz M n mem (.rng a b) (.rng a b)
  | ext (v:Value):Frz M n mem (.ext v) (.ext v)
  | tup {xs ys:List AV}:xs.length = ys.length→(∀ (i:Nat) x y,xs[i]? = some x→ys[i]? = some y→Frz M n mem x y)→Frz M n mem (.tup xs) (.tup ys)
  | lst {xs ys:List AV}:xs.length = ys.length→(∀ (i:Nat) x y,xs[i]? = some x→ys[i]? = some y→Frz M n mem x y)→Frz M n mem (.lst xs) (.lst ys)
  | mref {i:Nat} {xs ys:List AV}:n≤i→mem[i]? = some (.lst xs)→xs.length = ys.length→(∀ (i:Nat) x y,xs[i]? = some x→ys[i]? = some y→Frz M n mem x y)→Frz M n mem (.mref i) (.lst ys)
  | mold {i:Nat} {a:Addr}:M.h a = some (.mu i)→Frz M n mem (.mref i) (.mref i)
  | iold {C:Addr} {i:Nat} {a:Addr}:M.h a = some (.mu i)→Frz M n mem (.inst C i) (.inst C i)
  | sold {L:LamS} {i:Nat} {a:Addr}:M.h a = some (.mu i)→Frz M n mem (.strm L i) (.strm L i)
structure FrzL (M:Map) (n:Nat) (mem:Mem) (xs ys:List AV):Prop where
  len:xs.length = ys.length
  at':∀ (i:Nat) x y,xs[i]? = some x→ys[i]? = some y→Frz M n mem x y
section
variable {M N:Map} {n:Nat} {mem:Mem}
private theorem FrzL.nil:FrzL M n mem [] []:=⟨rfl,fun zz zz zz h=>by cases h⟩
private theorem FrzL.cons {x y:AV} {xs ys:List AV} (h:Frz M n mem x y) (r:FrzL M n mem xs ys):FrzL M n mem (x :: xs) (y :: ys):=⟨congrArg (· + 1) r.len,fun i=>by
  cases i with
  | zero=>intro x v h1 h2; cases h1; cases h2; exact h
  | succ i=>exact r.at' i⟩
private theorem FrzL.map {α:Type} {f g:α→AV} (h:∀ x,Frz M n mem (f x) (g x)):∀ l:List α,FrzL M n mem (l.map f) (l.map g)
  | []=>.nil
  | x :: r=>.cons (h x) (FrzL.map h r)
private theorem Frz.tupL {xs ys:List AV} (h:FrzL M n mem xs ys):Frz M n mem (.tup xs) (.tup ys):=.tup h.len h.at'
private theorem Frz.lstL {xs ys:List AV} (h:FrzL M n mem xs ys):Frz M n mem (.lst xs) (.lst ys):=.lst h.len h.at'
private theorem Frz.mrefL {i:Nat} {xs ys:List AV} (l:n≤i) (e:mem[i]? = some (.lst xs)) (h:FrzL M n mem xs ys):Frz M n mem (.mref i) (.lst ys):=.mref l e h.len h.at'
private theorem Frz.ints {l:List Int}:FrzL M n mem (l.map .int) (l.map .int):=.map (fun zz=>.int _) l
private theorem Rep.old {x:AV} {v:Value} (r:Rep M x v):Frz M n mem x x:=by
  induction r with
  | none=>exact .none
  | bool b=>exact .bool b
  | int i t=>exact .int i
  | str l t=>exact .str l
  | @tup a xs vs k h1 h2 _ ih=>exact .tup rfl fun i x y e1 e2=>Option.some.inj (e1.symm.trans e2) ▸ ih i x _ e1 (List.getElem?_eq_getElem (h2 ▸ (List.getElem?_eq_some_iff.mp e1).1))
  | @lst a xs vs k h1 h2 _ ih=>exact .lst rfl fun i x y e1 e2=>Option.some.inj (e1.symm.trans e2) ▸ ih i x _ e1 (List.getElem?_eq_getElem (h2 ▸ (List.getElem?_eq_some_iff.mp e1).1))
  | dct h1 h2=>exact .dct _
  | rng h=>exact .rng _ _
  | mref h=>exact .mold h
  | inst h1 h2 h3 h4 h5=>exact .iold h5
  | strm h1 h2=>exact .sold h2
  | ext v=>exact .ext v
end
noncomputable def icy (h:Heap) (a:Addr):Cel→Option Cel
  | .mu _=>(h.get? a).map .frz
  | x=>some x
private theorem icy_of {h:Heap} {a:Addr} {x:Cel} (n:∀ i,x ≠ .mu i):icy h a x = some x:=by
  cases x with
  | mu i=>exact absurd rfl (n i)
  | _=>rfl
noncomputable def Map.ice (M N:Map) (h:Heap):Map:=⟨fun a=>(M.h a).elim ((N.h a).bind (icy h a)) some,N.g⟩
private theorem Map.ice_l {M N:Map} {h:Heap} {a:Addr} {x:Cel} (e:M.h a = some x):(M.ice N h).h a = some x:=by show (M.h a).elim _ _ = _; rw [e]; rfl
private theorem Map.ice_n {M N:Map} {h:Heap} {a:Addr} (e:M.h a = none):(M.ice N h).h a = (N.h a).bind (icy h a):=by show (M.h a).elim _ _ = _; rw [e]; rfl
section
variable {X:Amb} {D:Nat} {c d:Cf} {m g:Mem}
private theorem Map.ice_k {M N:Map} {h:Heap} (l:M.le N) {a:Addr} {x:Cel} (e:N.h a = some x) (n:∀ i,x ≠ .mu i):(M.ice N h).h a = some x:=by
  cases q:M.h a with
  | none=>rw [Map.ice_n q,e]; exact icy_of n
  | some y=>rw [Map.ice_l q]; rw [l.h a y q] at e; exact e
private theorem Map.ice_f {M N:Map} {h:Heap} (l:M.le N):N.lef (M.ice N h):=fun a o e=>Map.ice_k l e nofun
inductive IceAt (c d:Cf) (a:Addr):Cel→Prop
  | new {o:Obj}:d.s.heap.get? a = some o→IceAt c d a (.frz o)
  | keep {x:Cel}:d.M.h a = some x→(∀ i,x ≠ .mu i)∨c.M.h a = some x→IceAt c d a x
structure Froze (X:Amb) (c d:Cf) (m g:Mem):Prop where
  l:c.M.le d.M
  S:Hp X c m
  T:Hp X d (m++g)
variable (F:Froze X c d m g)
include F
private theorem Froze.old {a b:Addr} {i:Nat} (h1:c.M.h a = some (.mu i)) (h2:d.M.h b = some (.mu i)):c.M.h b = some (.mu i):=F.T.i _ _ _ (F.l.h _ _ h1) h2 ▸ h1
private theorem Froze.rep {x y:AV} (f:Frz c.M m.length (m++g) x y):∀ {v:Value},Rep d.M x v→Rep (c.M.ice d.M d.s.heap) y v:=by
  induction f with
  | none=>intro v r; rw [r.i_none]; exact .none
  | bool b=>intro v r; rw [r.i_bool]; exact .bool b
  | int i=>intro v r; obtain ⟨t,rfl⟩:=r.i_int; exact .int i t
  | str l=>intro v r; obtain ⟨t,rfl⟩:=r.i_str; exact .str l t
  | ext w=>intro v r; rw [r.i_ext]; exact .ext w
  | dct ks =>
    intro v r
    cases r.i_dct with
    | mk a b=>exact .dct (Map.ice_k F.l a nofun) b
  | rng x y =>
    intro v r
    cases r.i_rng with
    | mk a=>exact .rng (Map.ice_k F.l a nofun)
  | tup hl _ ih =>
    intro v r
    cases r.i_tup with
    | mk a b=>exact .tup (Map.ice_k F.l a nofun) (b.len.trans hl) fun i y v e1 e2=>(b.get' e2).elim fun x q=>ih i x y q.1 e1 q.2
  | lst hl _ ih =>
    intro v r
    cases r.i_lst with
    | mk a b=>exact .lst (Map.ice_k F.l a nofun) (b.len.trans hl) fun i y v e1 e2=>(b.get' e2).elim fun x q=>ih i x y q.1 e1 q.2
  | @mref i xs ys hi hm hl _ ih =>
    intro v r
    cases r.i_mref with
    | @mk a ha =>
      obtain ⟨vs,n,e,b⟩:=F.T.mlist ha hm
      have hn:c.M.h a = none:=by
        cases q:c.M.h a with
        | none=>rfl
        | some x=>have:=F.l.h _ _ q; rw [ha] at this; cases this; exact absurd (F.S.lt q) (Nat.not_lt.mpr hi)
      exact .lst (vs:=vs) (n:=n) (by rw [Map.ice_n hn,ha]; show (d.s.heap.get? a).map Cel.frz = _; rw [e]; rfl) (b.len.trans hl) fun i y v e1 e2=>(b.get' e2).elim fun x q=>ih i x y q.1 e1 q.2
  | mold h =>
    intro v r
    cases r.i_mref with
    | mk a=>exact .mref (Map.ice_l (F.old h a))
  | iold h =>
    intro v r
    cases r.i_inst with
    | mk a1 a2 a3 a4 a5=>exact .inst (Map.ice_k F.l a1 nofun) a2 a3 a4 (Map.ice_l (F.old h a5))
  | sold h =>
    intro v r
    cases r.i_strm with
    | mk a1 a2=>exact .strm (a1.up (Map.ice_f F.l)) (Map.ice_l (F.old h a2))
private theorem Froze.rep' {x:AV} {v w:Value} (r:Rep c.M x v) (q:Rep d.M x w):Rep (c.M.ice d.M d.s.heap) x w:=F.rep r.old q
private theorem Froze.reps {xs:List AV} {vs ws:List Value} (r:Reps c.M xs vs) (q:Reps d.M xs ws):Reps (c.M.ice d.M d.s.heap) xs ws:=⟨q.len,fun i x w h1 h2=>(r.get h1).elim fun v z=>F.rep' z.2 (q.at' i x w h1 h2)⟩
private theorem Froze.mem {h:Heap} {a:Addr} {ao:AObj} (r:MemAt c.M h a ao) (q:MemAt d.M d.s.heap a ao):MemAt (c.M.ice d.M d.s.heap) d.s.heap a ao:=by
  cases q with
  | lst e q=>cases r with
    | lst _ r=>exact .lst e (F.reps r q)
  | @ns l f e q=>cases r with
    | ns _ r=>exact .ns e fun x=>(q x).elim (fun ⟨av,v,h1,h2,h3⟩=>(r x).elim (fun ⟨av',v',k1,k2,k3⟩=>by rw [h1] at k1; cases k1; exact .inl ⟨av,v,h1,h2,F.rep' k3 h3⟩) fun k=>by rw [h1] at k; cases k.1) .inr
  | cit0 e=>exact .cit0 e
  | cit e b q=>cases r with
    | cit e' b' r=>exact .cit e (Map.ice_k F.l b nofun) (by
        cases r.i_inst with
        | mk _ _ _ _ h=>exact F.rep (.iold h) q)
private theorem Froze.sep:Sep X d.s (c.M.ice d.M d.s.heap) m :=
  have at':∀ a x,(c.M.ice d.M d.s.heap).h a = some x→IceAt c d a x:=fun a x e=>by
    cases q:c.M.h a with
    | some y=>rw [Map.ice_l q] at e; cases e; exact .keep (F.l.h _ _ q) (.inr q)
    | none =>
      rw [Map.ice_n q] at e
      obtain ⟨y,k,e⟩:=Option.bind_eq_some_iff.mp e
      cases y with
      | mu i=>obtain ⟨o,z,e⟩:=Option.map_eq_some_iff.mp (e:(d.s.heap.get? a).map Cel.frz = _); exact e ▸ .new z
      | _=>cases e; exact .keep k (.inl nofun)
  have mu:∀ a j,(c.M.ice d.M d.s.heap).h a = some (.mu j)→c.M.h a = some (.mu j):=fun a j e=>by
    cases at' a _ e with
    | keep _ n=>exact n.elim (fun n=>absurd rfl (n j)) id
  { F.T with
    c:=fun a x e=>by
      cases at' a x e with
      | new g=>exact .frz g
      | keep q n =>
        cases F.T.c a x q with
        | frz g=>exact .frz g
        | pin g=>exact .pin g
        | tab t=>exact .tab ⟨t.g,t.ok,fun pq h1 cv h2=>(t.r pq h1 cv h2).up (Map.ice_f F.l)⟩
        | @mu i ao hao g =>
          have q:=n.elim (fun n=>absurd rfl (n i)) id
          obtain ⟨ao,hao⟩:∃ ao,m[i]? = some ao:=⟨_,List.getElem?_eq_getElem (F.S.lt q)⟩
          exact .mu hao (F.mem (F.S.mu q hao) (F.T.mu (F.l.h _ _ q) ((List.getElem?_append_left (F.S.lt q)).trans hao)))
    i:=fun a b j h1 h2=>F.S.i a b j (mu a j h1) (mu b j h2)
    x:=⟨fun a x e=>Map.ice_l (F.S.x.h a x e),F.T.x.g⟩ }
omit F
inductive Kept (M:Map) (m:Mem) (r':AV) (r:AV):Mem→Prop
  | mk {g:Mem}:Frz M m.length (m++g) r' r→Kept M m r' r (m++g)
private theorem CallR.keep {op:List Value→Sem Value} {avs:List AV} {R:AV→Mem→Prop} {r:AV} (h:CallR X D op m avs R) (k:∀ r' m' M,R r' m'→Kept M m r' r m'):Call X D op m avs r m:=fun A c vs Ro S rs Q E q =>
  h A c vs Ro S rs Q E fun v d r' m' hr g=>by
    cases k r' m' c.M hr with
    | @mk g' f =>
      have F:Froze X c d m g':=⟨g.l,S,g.h⟩
      exact q v ⟨d.s,c.M.ice d.M d.s.heap⟩ ⟨⟨fun a x e=>Map.ice_l e,g.l.g⟩,F.sep,F.rep f g.r⟩
end
end
section
open PySem PySem.W PyProof.Rows PySem.Calls PySem.SeqAt
section
variable {X:Amb} {D:Nat} {sc:Names} {L:Lc} {m m1 m2 m3:Mem}
private theorem Call.of1 {op:List Value→Sem Value} {x r:AV} {m':Mem} (h:∀ (A:Around) (c:Cf) (v:Value),Room A D→Hp X c m→Rep c.M x v→∀ Q E,(∀ v d,Got X c m' r v d→Q v d.s)→wpAny (model X.prog X.w) A (op [v]) Q E c.s):Call X D op m [x] r m':=fun A c vs R S rs Q E k=>by
  cases rs.i_cons with
  | mk r1 r2=>cases r2.i_nil; exact h A c _ R S r1 Q E k
private theorem Call.of2 {op:List Value→Sem Value} {x y r:AV} {m':Mem} (h:∀ (A:Around) (c:Cf) (v w:Value),Room A D→Hp X c m→Rep c.M x v→Rep c.M y w→∀ Q E,(∀ v d,Got X c m' r v d→Q v d.s)→wpAny (model X.prog X.w) A (op [v,w]) Q E c.s):Call X D op m [x,y] r m':=fun A c vs R S rs Q E k=>by
  cases rs.i_cons with
  | mk r1 r2 =>
    cases r2.i_cons with
    | mk r3 r4=>cases r4.i_nil; exact h A c _ _ R S r1 r3 Q E k
private theorem Sep.upd {s:Shared} {M:Map} {a:Addr} {i:Nat} {ys:List AV} {vs ws:List Value} {n:Nat} {f:Array Value→Array Value} (S:Sep X s M m) (ha:M.h a = some (.mu i)) (hv:s.heap.get? a = some (lo vs n)) (hf:f vs.toArray = ws.toArray) (r:Reps M ys ws) (tk:Nat) :
    Sep X { s with heap:=s.heap.update a (Obj.mapSeq f),toks:=tk } M (m.set i (.lst ys)) :=
  S.setMut ha (fun b o hb e=>((Heap.SameBut.update ..).2 b hb).trans e) (.lst (hf ▸ IsL.update (h:=s.heap) (l:=a) (items:=vs.toArray) (n:=n) hv f) r)
private theorem lt25 {n:Nat} (h:n≤2 ^ 23):n + 1≤sizeLine:=Nat.le_trans (Nat.succ_le_succ h) (by decide)
private theorem le24 {n:Nat} (h:n≤2 ^ 23):n≤sizeLine:=Nat.le_trans h (by decide)
private theorem Call.append {i:Nat} {x:AV} {xs:List AV} (e:m[i]? = some (.lst xs)) (hz:xs.length≤2 ^ 23):Call X D (opB "list.append") m [.mref i,x] .none (m.set i (.lst (xs++[x]))):=.of2 fun A c v w R S r q Q E k=>by
  cases r.i_mref with
  | @mk a ha =>
    obtain ⟨us,n,h1,rx⟩:=S.mlist ha e
    refine call_meets F.slot_list_append ⟨_,h1,rfl⟩ F.entry_list_append (F.args_list_append_2 _ _) (PySem.list_append a us.toArray n w (le24 (rx.sz hz))) ⟨h1,?_⟩
    exact k _ ⟨{ c.s with heap:=_,toks:=c.s.toks },c.M⟩ ⟨.rf _,S.upd ha h1 (ws:=us++[w]) (List.push_toArray ..) (rx.app (.one q)) _,.none⟩
private theorem Reps.reverse {M:Map} {xs:List AV} {vs:List Value} (r:Reps M xs vs):Reps M xs.reverse vs.reverse:=by
  induction xs generalizing vs with
  | nil=>rw [r.i_nil]; exact .nil
  | cons x xs ih =>
    cases r.i_cons with
    | mk r1 rs=>rw [List.reverse_cons,List.reverse_cons]; exact (ih rs).app (.one r1)
private theorem Call.pop0 {i:Nat} {x:AV} {xs:List AV} (e:m[i]? = some (.lst (x :: xs))) (hz:xs.length≤2 ^ 23):Call X D (opB "list.pop") m [.mref i,.int 0] x (m.set i (.lst xs)):=.of2 fun A c v w R S r q Q E k=>by
  obtain ⟨t,rfl⟩:=q.i_int
  cases r.i_mref with
  | @mk a ha =>
    obtain ⟨us,n,h1,rx⟩:=S.mlist ha e
    cases rx.i_cons with
    | @mk v us rv rz =>
      refine call_meets PySem.F.slot_list_pop ⟨_,h1,rfl⟩ PySem.F.entry_list_pop (PySem.F.args_list_pop_2 _ _) (MeetsSeq.list_pop_at _ (v :: us).toArray n 0 _ 0 v (by decide) (by simp [seqIndex?]) (by simp) (by rw [List.size_toArray]; exact lt25 (rz.sz hz))) ⟨h1,?_⟩
      exact k _ ⟨{ c.s with heap:=_,toks:=c.s.toks },c.M⟩ ⟨.rf _,S.upd ha h1 (ws:=us) (by simp) rz _,rv⟩
private theorem Call.reverse {i:Nat} {xs:List AV} (e:m[i]? = some (.lst xs)) (hz:xs.length≤2 ^ 23):Call X D (opB "list.reverse") m [.mref i] .none (m.set i (.lst xs.reverse)):=.of1 fun A c v R S r Q E k=>by
  cases r.i_mref with
  | @mk a ha =>
    obtain ⟨us,n,h1,rx⟩:=S.mlist ha e
    refine call_meets PySem.F.slot_list_reverse ⟨_,h1,rfl⟩ PySem.F.entry_list_reverse (PySem.F.args_list_reverse_1 _) (AutoSeq1.list_reverse_list_0 _ us.toArray n (le24 (rx.sz hz))) ⟨h1,?_⟩
    exact k _ ⟨{ c.s with heap:=_,toks:=c.s.toks },c.M⟩ ⟨.rf _,S.upd ha h1 (ws:=us.reverse) (by simp) rx.reverse _,.none⟩
private theorem lt63 {n:Nat} (h:n≤2 ^ 40):(n:Int) < 2 ^ 63:=Int.lt_of_le_of_lt (Int.ofNat_le.mpr h) (by decide)
private theorem lenL {A:Around} {c:Cf} {a:Addr} {us:List Value} {xs:List AV} {n:Nat} (h:c.s.heap.get? a = some (lo us n)) (r:Reps c.M xs us) (S:Hp X c m) (hz:xs.length≤2 ^ 40) {Q E:Value→Shared→Prop} (k:∀ v d,Got X c m (.int xs.length) v d→Q v d.s):wpAny (model X.prog X.w) A (opB "len" [.ref a]) Q E c.s :=
  Calls.call_len_list (items:=us.toArray) ⟨_,h,rfl,n,rfl⟩ (lt63 (r.sz hz)) (by rw [List.size_toArray,r.len]; exact k _ _ (.tok S (.int _ _) _))
private theorem Call.lenL {xs:List AV} (hz:xs.length≤2 ^ 40):Call X D (opB "len") m [.lst xs] (.int xs.length) m:=.of1 fun A c v R S r Q E k=>by
  cases r.i_lst with
  | mk a b=>exact Mine.lenL (S.frz a) b S hz k
private theorem Call.lenM {i:Nat} {xs:List AV} (e:m[i]? = some (.lst xs)) (hz:xs.length≤2 ^ 40):Call X D (opB "len") m [.mref i] (.int xs.length) m:=.of1 fun A c v R S r Q E k=>by
  cases r.i_mref with
  | mk a=>obtain ⟨us,n,h1,rx⟩:=S.mlist a e; exact Mine.lenL h1 rx S hz k
private theorem Call.lenS {l:List Nat} (hz:l.length≤2 ^ 40):Call X D (opB "len") m [.str l] (.int l.length) m:=.of1 fun A c v R S r Q E k=>by
  obtain ⟨t,rfl⟩:=r.i_str
  exact PySem.P.len_str (Int.not_le.mpr (lt63 hz)) (k (.int (l.length:Nat) _) _ (.tok S (.int _ _) _))
private theorem Call.range {n:Int}:Call X D (opT "range") m [.int n] (.rng 0 n) m:=.of1 fun A c v R S r Q E k=>by
  obtain ⟨t,rfl⟩:=r.i_int
  exact PySem.call_range_1 (k _ _ (Got.new S (rngObj 0 _ 1 _ _ _) rfl _ fun M zz e=>.rng e))
private theorem Call.divmod {a b:Int} (h0:b ≠ 0) (h1:b.natAbs < 1073741824):Call X D (opB "divmod") m [.int a,.int b] (.tup [.int (a.fdiv b),.int (a.fmod b)]) m:=.of2 fun A c v w R S r q Q E k=>by
  obtain ⟨t,rfl⟩:=r.i_int
  obtain ⟨u,rfl⟩:=q.i_int
  exact PyProof.Rows.divmod_int h0 (k _ _ (Got.newTup S (xs:=[.int (a.fdiv b),.int (a.fmod b)]) (.cons (.int _ _) (.one (.int _ _))) (c.s.toks + 1 + 1))) (.inl (PyProof.noPylong_small h1))
private theorem Call.bits {a:Int}:Call X D (opB "int.bit_length") m [.int a] (.int (Builtin.Int.intBits a)) m:=.of1 fun A c v R S r Q E k=>by
  obtain ⟨t,rfl⟩:=r.i_int
  exact PyProof.Rows.call_int_bit_length (k _ _ (.tok S (.int _ _) _))
end
end
section
open PySem PySem.W PyProof.Rows PySem.Calls PySem.SeqAt
private theorem occCount (x:Str) (c:Nat):∀ (n i:Nat) (st:Array Nat × Nat),i + n = x.length + 1→st.snd≤i→st.fst.size≤i →
    (forIn (List.range' i n) st (StrLaws.occBody x ⟨#[c]⟩ x.length (x.length + 1))).run.fst.size = st.fst.size + ((x.cps.toList.drop i).count c)
  | 0,i,st,hi,hf,hs=>by
    have:x.cps.toList.length≤i:=by simp [Str.length] at hi ⊢; lia
    rw [List.drop_eq_nil_of_le this]
    simp [List.range']
  | n + 1,i,st,hi,hf,hs=>by
    rw [List.range'_succ,List.forIn_cons]
    unfold StrLaws.occBody
    have hx:(⟨#[c]⟩:Str).length = 1:=rfl
    have iff:=StrLaws.subAt_one x c i
    cases hget:x.cps.toList[i]? with
    | some d =>
      obtain ⟨hlt,hd0⟩:=List.getElem?_eq_some_iff.mp hget
      have hd:x.cps.toList.drop i = d :: x.cps.toList.drop (i + 1):=by rw [← hd0]; exact List.drop_eq_getElem_cons hlt
      rw [hget] at iff
      by_cases hc:d = c
      · subst hc
        have h1:=iff.mpr rfl
        rw [if_pos ⟨⟨⟨by (clear iff hx; lia),hf⟩,h1.1⟩,h1.2⟩]
        refine (occCount x d n (i + 1) (st.fst.push i,i + (⟨#[d]⟩:Str).length) (by lia) (Nat.le_refl _) (by rw [Array.size_push]; exact Nat.succ_le_succ hs)).trans ?_
        rw [hd,List.count_cons_self,Array.size_push,Nat.add_assoc,Nat.add_comm 1]
      · rw [if_neg (fun h=>hc (Option.some.inj (iff.mp ⟨h.1.2,h.2⟩)))]
        refine (occCount x c n (i + 1) _ (by lia) (Nat.le_succ_of_le hf) (Nat.le_succ_of_le hs)).trans ?_
        rw [hd,List.count_cons_of_ne hc]
    | none =>
      have hlen:=List.getElem?_eq_none_iff.mp hget
      rw [hget] at iff
      rw [if_neg (fun h=>nomatch iff.mp ⟨h.1.2,h.2⟩)]
      refine (occCount x c n (i + 1) _ (by lia) (Nat.le_succ_of_le hf) (Nat.le_succ_of_le hs)).trans ?_
      rw [List.drop_eq_nil_of_le (Nat.le_succ_of_le hlen),List.drop_eq_nil_of_le hlen]
private theorem txtCount (l:List Nat) (c:Nat):Txt.count ⟨l.toArray⟩ ⟨#[c]⟩ = (l.count c:Int):=by
  unfold Txt.count
  rw [StrLaws.occ_eq]
  have:=occCount ⟨l.toArray⟩ c ((⟨l.toArray⟩:Str).length + 1 - 0) 0 (#[],0) (by lia) (Nat.le_refl _) (Nat.le_refl _)
  rw [Array.length_toList,this]
  simp
private theorem txtJoin (ys:List (List Nat)):Txt.join ⟨#[]⟩ (ys.map fun l=>(⟨l.toArray⟩:Str)) = ⟨ys.flatten.toArray⟩:=by
  show Builtin.Str.glued _ _ = _
  rw [StrLaws.glued_eq_join]
  induction ys with
  | nil=>rfl
  | cons y r ih =>
    cases r with
    | nil=>simp [Str.join]
    | cons z r =>
      simp only [List.map_cons] at ih ⊢
      show (⟨y.toArray⟩++⟨#[]⟩++Str.join ⟨#[]⟩ (⟨z.toArray⟩ :: r.map fun l=>(⟨l.toArray⟩:Str))) = _
      rw [ih]
      show (⟨(y.toArray++#[])++_⟩:Str) = _
      simp
section
variable {X:Amb} {D:Nat} {sc:Names} {L:Lc} {m m1 m2 m3:Mem} {M:Map}
private theorem Reps.strsAre:∀ {ys:List (List Nat)} {vs:List Value},Reps M (ys.map .str) vs→StrsAre vs (ys.map fun l=>(⟨l.toArray⟩:Str))
  | [],_,r=>by rw [r.i_nil]; exact .nil
  | y :: ys,vs,r=>by
    cases r.i_cons with
    | mk r1 r2=>obtain ⟨t,rfl⟩:=r1.i_str; exact .cons _ _ (Reps.strsAre r2)
private theorem Call.count {l:List Nat} {x:Nat}:Call X D (opB "str.count") m [.str l,.str [x]] (.int (l.count x)) m:=.of2 fun A c v w R S r q Q E k=>by
  obtain ⟨t,rfl⟩:=r.i_str
  obtain ⟨u,rfl⟩:=q.i_str
  refine SC.count ?_
  rw [show (⟨[x].toArray⟩:Str) = ⟨#[x]⟩ from rfl,txtCount]
  exact k _ _ (.tok S (.int _ _) _)
private theorem joinGo {A:Around} {c:Cf} {a:Addr} {us:List Value} {ys:List (List Nat)} {n:Nat} {t:Tok} (h:c.s.heap.get? a = some (lo us n)) (r:Reps c.M (ys.map .str) us) (S:Hp X c m) (hz:(ys.map List.length).sum≤2 ^ 24) {Q E:Value→Shared→Prop} (k:∀ v d,Got X c m (.str ys.flatten) v d→Q v d.s):wpAny (model X.prog X.w) A (opB "str.join" [.str ⟨([]:List Nat).toArray⟩ t,.ref a]) Q E c.s:=by
  refine PyProof.Rows.join_list (items:=us.toArray) ⟨_,h,rfl,n,rfl⟩ r.strsAre ?_ fun t' zz=>?_
  · rw [List.map_map,show ((fun x:Str=>x.length)∘fun l:List Nat=>(⟨l.toArray⟩:Str)) = List.length from rfl]
    simp [Str.length]; exact hz
  · rw [show (⟨([]:List Nat).toArray⟩:Str) = ⟨#[]⟩ from rfl,txtJoin]
    exact k _ _ (.tok S (.str _ _) _)
private theorem Call.join {ys:List (List Nat)} (hz:(ys.map List.length).sum≤2 ^ 24):Call X D (opB "str.join") m [.str [],.lst (ys.map .str)] (.str ys.flatten) m:=.of2 fun A c v w R S r q Q E k=>by
  obtain ⟨t,rfl⟩:=r.i_str
  cases q.i_lst with
  | mk a b=>exact joinGo (S.frz a) b S hz k
private theorem Call.joinM {i:Nat} {ys:List (List Nat)} (e:m[i]? = some (.lst (ys.map .str))) (hz:(ys.map List.length).sum≤2 ^ 24):Call X D (opB "str.join") m [.str [],.mref i] (.str ys.flatten) m:=.of2 fun A c v w R S r q Q E k=>by
  obtain ⟨t,rfl⟩:=r.i_str
  cases q.i_mref with
  | mk a=>obtain ⟨us,n,h1,rx⟩:=S.mlist a e; exact joinGo h1 rx S hz k
private theorem Sep.join {s:Shared} {h':Heap} {tk:Nat} (S:Sep X s M m) {us:Array Value} {n:Nat} {xs:List AV} (hk:∀ b o,s.heap.get? b = some o→h'.get? b = some o) (ho:h'.get? s.heap.objs.size = some { cls:=.type "list",dict:=none,data:=.seq us n,slots:=#[] }) (r:Reps M xs us.toList) :
    Sep X { s with heap:=h',toks:=tk } (M.set s.heap.objs.size (.mu m.length)) (m++[.lst xs]) :=
  S.putNew S.top (fun b o zz e=>hk b o e) (fun b j zz e=>List.getElem?_append_left (S.lt e)) (fun j q b e=>by cases q; exact absurd (S.lt e) (Nat.lt_irrefl _)) (.mu (get_app0 _ _) (.lst (vs:=us.toList) (n:=n) ho (r.up (Map.le_set _ S.top))))
private theorem Got.join {c:Cf} (S:Hp X c m) {h':Heap} {tk:Nat} {us:Array Value} {n:Nat} {xs:List AV} (hk:∀ b o,c.s.heap.get? b = some o→h'.get? b = some o) (ho:h'.get? c.s.heap.objs.size = some { cls:=.type "list",dict:=none,data:=.seq us n,slots:=#[] }) (r:Reps c.M xs us.toList) :
    Got X c (m++[.lst xs]) (.mref m.length) (.ref c.s.heap.objs.size) ⟨{ c.s with heap:=h',toks:=tk },c.M.set c.s.heap.objs.size (.mu m.length)⟩:=⟨Map.le_set _ S.top,S.join hk ho r,.mref (Map.set_at _ _ _)⟩
private theorem listSeq {A:Around} {c:Cf} {a:Addr} {us:List Value} {xs:List AV} {n:Nat} (h:c.s.heap.get? a = some (lo us n)) (r:Reps c.M xs us) (S:Hp X c m) (hz:xs.length≤2 ^ 23) {Q E:Value→Shared→Prop} (k:∀ v d,Got X c (m++[.lst xs]) (.mref m.length) v d→Q v d.s):wpAny (model X.prog X.w) A (opT "list" [.ref a]) Q E c.s :=
  call_list_seq a (.inl rfl) h rfl rfl (fun h' c' hk ho=>k _ ⟨{ c.s with heap:=h',toks:=c.s.toks },_⟩ (Got.join S hk ho r)) (le24 (r.sz hz))
private theorem itemsReps {Pv:Nat→Value→Prop} {acc:Array Value} {xs:List AV} (h:PySem.ItemsOf Pv acc xs.length) (hx:∀ (i:Nat) v x,xs[i]? = some x→Pv i v→Rep M x v):Reps M xs acc.toList :=
  ⟨h.1,fun i x v h1 h2=>hx i v x h1 (h.2 i v (by simpa using h2))⟩
private theorem Call.listS {l:List Nat} (hz:l.length≤2 ^ 23):Call X D (opT "list") m [.str l] (.mref m.length) (m++[.lst (l.map fun c=>.str [c])]):=.of1 fun A c v R S r Q E k=>by
  obtain ⟨t,rfl⟩:=r.i_str
  refine call_list_str R.1 _ _ (fun h' tk acc' c' hk ho hi=>?_) (le24 hz)
  refine k _ ⟨{ c.s with heap:=h',toks:=tk },_⟩ (Got.join S hk ho (itemsReps (by simpa using hi) fun i v x hx pv=>?_))
  obtain ⟨d,u,hc,hv⟩:=pv
  rw [List.getElem?_map] at hx
  have hc:l[i]? = some d:=by simpa using hc
  rw [hc] at hx; cases hx
  rw [hv]; exact .str [d] _
end
end
section
open PySem PySem.W PyProof.Rows PySem.Calls PySem.SeqAt
section
variable {X:Amb} {D:Nat} {sc:Names} {L:Lc} {m m1 m2 m3:Mem} {M:Map}
private theorem preSum_take (ns:List Int):∀ j,j≤ns.length→preSum (fun i=>ns.getD i 0) j = (ns.take j).sum
  | 0,_=>by simp [preSum]
  | j + 1,h=>by
    show preSum (fun i=>ns.getD i 0) j + ns.getD j 0 = _
    rw [preSum_take ns j (Nat.le_of_succ_le h)]
    have e:ns.take (j + 1) = ns.take j++[ns[j]]:=by rw [List.take_add_one,List.getElem?_eq_getElem h]; rfl
    rw [e,List.sum_append,List.getD_eq_getElem?_getD,List.getElem?_eq_getElem h]
    simp only [Option.getD_some,List.sum_cons,List.sum_nil,Int.add_zero]
private theorem Reps.int {ns:List Int} {vs:List Value} (r:Reps M (ns.map .int) vs) {i:Nat} {v:Value} (h:vs[i]? = some v):∃ t,v = .int (ns.getD i 0) t:=by
  obtain ⟨x,h1,q⟩:=r.get' h
  rw [List.getElem?_map] at h1
  obtain ⟨n,h2,rfl⟩:=Option.map_eq_some_iff.mp h1
  rw [List.getD_eq_getElem?_getD,h2]
  exact q.i_int
private theorem Sep.keepBut {s:Shared} (S:Sep X s M m) {a:Addr} {h':Heap} {tk:Nat} (ha:M.h a = none) (hs:∀ b o,b ≠ a→s.heap.get? b = some o→h'.get? b = some o):Sep X { s with heap:=h',toks:=tk } M m :=
  S.keep fun b o n e=>hs b o (fun q=>n (q ▸ ha)) e
private theorem Call.sum {ns:List Int}:Call X D (opB "sum") m [.lst (ns.map .int)] (.int ns.sum) m:=.of1 fun A c v R S r Q E k=>by
  cases r.i_lst with
  | @mk a us n hk rx =>
    have hl:c.s.heap.IsList a us.toArray:=⟨_,S.frz hk,rfl,n,rfl⟩
    have hlt:=Heap.lt_size (S.frz hk)
    refine call_sum_walkG (wpAny_pyIter_list hl ⟨_,_,_,_,_,_,fun i=>ns.getD i 0,rfl,Walks.list (A:=A.in1) R.1 _ a (Nat.ne_of_lt hlt) us.toArray,⟨⟨_,Heap.get?_push_size _ rfl,rfl,rfl⟩,hl.push _⟩,?_,?_,?_⟩)
    · intro b hb
      rw [Heap.size_push]
      rcases List.mem_cons.mp hb with h | h
      · rw [h]; exact Nat.lt_succ_self _
      · rw [List.mem_singleton.mp h]; exact Nat.lt_succ_of_lt hlt
    · intro i v hv; exact rx.int (by simpa using hv)
    · intro h' tk t' hk'
      have e1:preSum (fun i=>ns.getD i 0) us.toArray.size = ns.sum:=by
        have:us.toArray.size = ns.length:=rx.len.trans (List.length_map _)
        rw [this,preSum_take ns _ (Nat.le_refl _),List.take_length]
      rw [e1]
      have S':Sep X { c.s with heap:=c.s.heap.push { cls:=.type "list_iterator",data:=.fields #[.ref a,.int 0 0] } } c.M m:=S.keep (tk:=c.s.toks) fun b o zz e=>Heap.get?_push_of_some _ e
      exact k _ ⟨{ c.s with heap:=h',toks:=tk },c.M⟩ ⟨.rf _,S'.keepBut S.top fun b o hb e=>hk' b o (by simpa using hb) e,.int _ _⟩
private theorem Bin.inS {x:Nat} {l:List Nat}:Bin X D (compareOp .In) m (.str [x]) (.str l) (.bool (decide (x∈l))):=fun A c v w R S r q Q E k=>by
  obtain ⟨t,rfl⟩:=r.i_str
  obtain ⟨u,rfl⟩:=q.i_str
  refine PySem.P.in_str ?_
  rw [show (⟨[x].toArray⟩:Str) = ⟨#[x]⟩ from rfl,StrLaws.found_one]
  exact k _ _ (.now S (.bool _))
private theorem Bin.notInS {x:Nat} {l:List Nat}:Bin X D (compareOp .NotIn) m (.str [x]) (.str l) (.bool (!decide (x∈l))):=fun A c v w R S r q Q E k=>by
  obtain ⟨t,rfl⟩:=r.i_str
  obtain ⟨u,rfl⟩:=q.i_str
  refine PySem.P.notIn_str ?_
  rw [show (⟨[x].toArray⟩:Str) = ⟨#[x]⟩ from rfl,StrLaws.found_one]
  exact k _ _ (.now S (.bool _))
private theorem Reps.repl {xs:List AV} {vs:List Value} (r:Reps M xs vs):∀ n:Nat,Reps M (List.replicate n xs).flatten (List.replicate n vs).flatten
  | 0=>.nil
  | n + 1=>by simp only [List.replicate_succ,List.flatten_cons]; exact r.app (r.repl n)
private theorem replFoldV (x:Array Value):∀ (n:Nat) (acc:Array Value),(List.replicate n x).foldl (fun a b=>a++b) acc = acc++(List.replicate n x.toList).flatten.toArray
  | 0,acc=>by simp
  | n + 1,acc=>by
    rw [List.replicate_succ,List.foldl_cons,replFoldV x n,List.replicate_succ,List.flatten_cons]
    apply Array.ext'
    simp
private theorem mulGo {A:Around} {c:Cf} {va vb:Value} {xs:List AV} {n:Int} (S:Hp X c m) (r:Rep c.M (.lst xs) va) (q:Rep c.M (.int n) vb) (h0:xs ≠ []) (h1:n≤2 ^ 20) (h2:-(2 ^ 60)≤n) (h3:xs.length * n.toNat≤2 ^ 23) {Q E:Value→Shared→Prop} (k:∀ us,Reps c.M (List.replicate n.toNat xs).flatten us→Q (.ref c.s.heap.objs.size) { c.s with heap:=c.s.heap.push (lo us) }) :
    wpAny (model X.prog X.w) A (binaryOp .Mult va vb) Q E c.s:=by
  obtain ⟨t,rfl⟩:=q.i_int
  cases r.i_lst with
  | @mk a vs j hk rx =>
    have hl:=rx.len
    have hne:vs.toArray.isEmpty = false:=by
      cases vs with
      | nil=>exact absurd (List.eq_nil_of_length_eq_zero hl.symm) h0
      | cons _ _=>rfl
    have ho:=S.frz hk
    refine wpAny_binaryOp_repeat_ref (T:="list") (U:="int") (by decide) ⟨_,ho,rfl⟩ (fun s'=>typeIs_int s' n t) noFill_list_mul F.fills_int_mul F.slot_int_rmul repeat_list F.slot_int_index.lookup
      (call_meets F.slot_int_rmul (typeIs_int c.s n t) F.entry_int_rmul (F.args_int_rmul_2 _ _) (int___rmul___int_list n t a vs.toArray j)
        ⟨ho,rfl,⟨_,ho,rfl⟩,call_meets F.slot_list_mul ⟨_,ho,rfl⟩ F.entry_list_mul (F.args_list_mul_2 _ _)
          (AutoListH.list___mul___list_int_3 a vs.toArray j n t (by simp [Builtin.List.listFitsIndex]; lia) (by simp [hl]; exact dB h3 rfl) (by simp [Builtin.List.listTooLong,sizeLine_is,hl]; exact dB h3 rfl))
          ⟨ho,?_⟩⟩)
    rw [hne]
    simp only [Bool.false_eq_true,if_false]
    rw [replFoldV]
    have e1:(#[]++(List.replicate n.toNat vs.toArray.toList).flatten.toArray:Array Value) = (List.replicate n.toNat vs).flatten.toArray:=by simp
    rw [e1]
    exact k _ (rx.repl _)
private theorem Bin.mulL {xs:List AV} {n:Int} (h0:xs ≠ []) (h1:n≤2 ^ 20) (h2:-(2 ^ 60)≤n) (h3:xs.length * n.toNat≤2 ^ 23):Bin X D (binaryOp .Mult) m (.lst xs) (.int n) (.lst (List.replicate n.toNat xs).flatten):=fun A c v w R S r q Q E k =>
  mulGo S r q h0 h1 h2 h3 fun us ru=>k _ _ (Got.newLst S ru c.s.toks)
end
end
section
open PySem PySem.W PyProof.Rows PySem.Calls PySem.SeqAt
structure Map.leW (W M N:Map):Prop where
  h:∀ a x,W.h a = none→M.h a = some x→N.h a = some x
  g:∀ i x,W.g i = none→M.g i = some x→N.g i = some x
structure Pins (C W:Map):Prop where
  p:∀ a x,W.h a = some x→∃ o,x = .pin o
  v:∀ a x,C.h a = some x→W.h a = none
  g:∀ i x,C.g i = some x→W.g i = none
private theorem Pins.l0 {C W M N:Map} (p:Pins C W) (w:W.le M) (l:Map.leW W M N):M.le0 N:=fun a x e n=>by
  cases q:W.h a with
  | none=>exact l.h a x q e
  | some y =>
    obtain ⟨o,rfl⟩:=p.p a y q
    have:=w.h _ _ q
    rw [e] at this; cases this; exact absurd rfl (n o)
private theorem Pins.on {C W M N:Map} {own:List Addr} (p:Pins C W) (l:Map.leB own C M) (w:Map.leW W M N):Map.leB own C N:=⟨fun a x n e=>w.h a x (p.v a x e) (l.h a x n e),fun i x e=>w.g i x (p.g i x e) (l.g i x e)⟩
structure NextW (M W V:Map):Prop where
  p:∀ a x,V.h a = some x→∃ o,x = .pin o
  v:∀ a x,M.h a = some x→W.h a = none→V.h a = none
  g:∀ i x,M.g i = some x→W.g i = none→V.g i = none
private theorem NextW.pins {C M W V:Map} {own:List Addr} (n:NextW M W V) (p:Pins C W) (l:Map.leB own C M) (ho:∀ a∈own,∃ x,M.h a = some x):Pins C V :=
  ⟨n.p,fun a x e=>by
    by_cases h:a∈own
    · exact (ho a h).elim fun y q=>n.v a y q (p.v a x e)
    · exact n.v a x (l.h a x h e) (p.v a x e),fun i x e=>n.g i x (l.g i x e) (p.g i x e)⟩
structure StepW (X:Amb) (W:Map) (c d:Cf) (m:Mem):Prop where
  l:Map.leW W c.M d.M
  h:Hp X d m
noncomputable def Feeds (X:Amb) (D:Nat) (tgt:Expr) (itv:Value) (M0:Map):List AV→Map→Prop
  | [],W=>∀ (A:Around) (c:Cf) (m:Mem) (Q:Option Value→Shared→Prop) (E:Value→Shared→Prop),Room A D→M0.le0 c.M→Hp X c m→W.le c.M→(∀ d,StepW X W c d m→Q none d.s)→wpAny (model X.prog X.w) A (pyNext itv) Q E c.s
  | x :: r,W=>∀ (A:Around) (c:Cf) (m:Mem) (Q:Option Value→Shared→Prop) (E:Value→Shared→Prop),Room A D→M0.le0 c.M→Hp X c m→W.le c.M →
      (∀ (v:Value) (d:Cf),(∀ (A2:Around) (Q2:Unit→Shared→Prop) (E2:Value→Shared→Prop),Room A2 D→(∀ d2 W2,StepW X W c d2 m→Rep d2.M x v→W2.le d2.M→NextW c.M W W2→Feeds X D tgt itv M0 r W2→Q2 () d2.s)→wpAny (model X.prog X.w) A2 (letOwnedTupleGo tgt itv v) Q2 E2 d.s)→Q (some v) d.s) →
      wpAny (model X.prog X.w) A (pyNext itv) Q E c.s
structure Iter (X:Amb) (D:Nat) (tgt:Expr) (C:Map) (m:Mem) (xs:List AV) (itv:Value) (d:Cf) (W:Map):Prop where
  l:C.le d.M
  h:Hp X d m
  w:W.le d.M
  p:Pins C W
  f:Feeds X D tgt itv d.M xs W
  self:∀ (A:Around) (e:Cf) (m:Mem) (Q E:Value→Shared→Prop),W.le e.M→Hp X e m→Q itv e.s→wpAny (model X.prog X.w) A (pyIter itv) Q E e.s
noncomputable def PI (X:Amb) (D:Nat) (sc:Names) (tgt iter:Expr) (L:Lc) (m:Mem) (xs:List AV) (m':Mem):Prop :=
  ∀ (env:Env) (A:Around) (c:Cf),At X D sc env A c L m→∀ (Q E:Value→Shared→Prop),(∀ itv d W,Iter X D tgt c.M m' xs itv d W→Q itv d.s)→wpAny (model X.prog X.w) A (eval iter env) (fun x s₁=>wpAny (model X.prog X.w) A (pyIter x) Q E s₁) E c.s
noncomputable def Asg (X:Amb) (D:Nat) (sc st:Names) (tgt:Expr) (L:Lc) (av:AV) (L':Lc):Prop :=
  ∀ (env:Env) (own:List Addr) (A:Around) (c:Cf) (m:Mem) (v:Value),Room A D→Stos st env own→FS X env sc own c m L→Rep c.M av v→∀ (Q:Unit→Shared→Prop) (E:Value→Shared→Prop),(∀ d,Map.leB own c.M d.M→FS X env sc own d m L'→Q () d.s)→wpAny (model X.prog X.w) A (assign tgt env v) Q E c.s
class inductive NamesT (sc:Names):List Expr→List Str→Prop
  | nil:NamesT sc [] []
  | cons {x:Str} {p:Pos} {es:List Expr} {xs:List Str}:okB sc x = true→NamesT sc es xs→NamesT sc (.Name x p :: es) (x :: xs)
noncomputable def binds:List Str→List AV→Lc→Lc
  | x :: xs,a :: as,L=>binds xs as ((x,a) :: L)
  | _,_,L=>L
section
variable {X:Amb} {D:Nat} {sc st:Names} {L L':Lc} {m m1 m2:Mem} {P:RP} {rest:List Stmt} {tgt:Expr} {env:Env} {own:List Addr} {A:Around} {c d:Cf}
private theorem Asg.name {x:Str} {p:Pos} {av:AV} (hx:okB st x = true):Asg X D sc st (.Name x p) L av ((x,av) :: L):=fun env own A c m v R T F r Q E k=>by
  rw [PySem.assign_Name]
  exact wpAny_bind (wpAny_standAt (wpAny_bindName (F.store (T x (nameOk hx)) r k)))
private theorem NamesT.len {es:List Expr} {xs:List Str} (h:NamesT st es xs) (env:Env):(assignEach es env).length = xs.length∧(assignEach es env).findIdx? (·.1) = none:=by
  induction h with
  | nil=>exact ⟨rfl,rfl⟩
  | @cons x p es xs _ h ih =>
    rw [show assignEach (.Name x p :: es) env = (false,assign (.Name x p) env) :: assignEach es env from rfl]
    refine ⟨congrArg (· + 1) ih.1,?_⟩
    rw [List.findIdx?_cons,ih.2]; rfl
private theorem FS.l0 (F:FS X env sc own c m L) (l:Map.leB own c.M d.M):c.M.le0 d.M:=fun b y e n=>l.h b y (fun hb=>by
  obtain ⟨o,q⟩:=(F.ow b hb).1
  rw [e] at q; cases q; exact n o rfl) e
private theorem assignNames {es:List Expr} {xs:List Str} (hn:NamesT st es xs) (R:Room A D) (T:Stos st env own):∀ {avs:List AV} {vs:List Value} {c:Cf} {L:Lc},FS X env sc own c m L→Reps c.M avs vs→avs.length = xs.length →
    ∀ {Q:Unit→Shared→Prop} {E:Value→Shared→Prop},(∀ d,Map.leB own c.M d.M→FS X env sc own d m (binds xs avs L)→Q () d.s)→wpAny (model X.prog X.w) A (assignInOrder ((assignEach es env).map (·.2)) vs) Q E c.s:=by
  induction hn with
  | nil =>
    intro avs vs c L F r hl Q E k
    cases avs with
    | nil=>rw [r.i_nil]; exact wpAny_pure (k c (.rf _) F)
    | cons _ _=>cases hl
  | @cons x p es xs hx hn ih =>
    intro avs vs c L F r hl Q E k
    cases avs with
    | nil=>cases hl
    | cons a avs =>
      cases r.i_cons with
      | @mk v vs r1 r2 =>
        show wpAny _ A (do holding vs (assign (.Name x p) env v); assignInOrder ((assignEach es env).map (·.2)) vs) Q E c.s
        refine wpAny_bind (wpAny_holding (Asg.name hx env own A c m v R T F r1 _ _ fun d l F'=>?_))
        exact ih F' (r2.up0 (F.l0 l)) (Nat.succ.inj hl) fun d2 l2 F2=>k d2 (l.tr l2) F2
private theorem FS.new (F:FS X env sc own c m L) {h':Heap} {tk:Nat} (hk:∀ b o,c.s.heap.get? b = some o→h'.get? b = some o):FS X env sc own ⟨{ c.s with heap:=h',toks:=tk },c.M⟩ m L:=F.keep (d:=⟨{ c.s with heap:=h',toks:=tk },c.M⟩) (.rf _) (F.S.keep fun b o zz e=>hk b o e)
private theorem Asg.tup {es:List Expr} {xs:List Str} {avs:List AV} {k:Nat} {p:Pos} (hn:NamesT st es xs) (hl:avs.length = xs.length):Asg X D sc st (.Tuple es k p) L (.tup avs) (binds xs avs L):=fun env own A c m v R T F r Q E q=>by
  cases r.i_tup with
  | @mk a vs n hk rs =>
    refine wpAny_assign_Tuple (items:=vs.toArray) R.1 ⟨_,F.S.frz hk,rfl,n,rfl⟩ (by rw [(hn.len env).1,← hl,← rs.len]; exact List.size_toArray) (hn.len env).2 fun h' hx'=>?_
    have F2:=F.new (h':=h') (tk:=c.s.toks) fun b o e=>hx' b o (Nat.ne_of_lt (Heap.lt_size e)) e
    exact assignNames hn R T (c:=⟨{ c.s with heap:=h' },c.M⟩) F2 rs hl q
private theorem EnvOk.upB {M N:Map} (E:EnvOk env sc M L) (l0:M.le0 N) (hL:∀ x,M.h env.locals = some x→N.h env.locals = some x) (hc:∀ n a,env.cells.lookup n = some a→∀ x,M.h a = some x→N.h a = some x):EnvOk env sc N L :=
  { E with
    cel:=fun x a h=>(E.cel x a h).imp fun zz q=>q.imp (hc x a h _) (hc x a h _)
    var:=fun x av h=>(E.var x av h).imp fun zz q=>⟨q.1.up0 l0,by
      cases q.2 with
      | loc a b c d e=>exact .loc a (hL _ b) c d e
      | cel a b c d=>exact .cel a b (c.imp (hc _ _ b _) (hc _ _ b _)) d⟩ }
private theorem FS.keepB (F:FS X env sc own c m L) (l0:c.M.le0 d.M) (ho:∀ a∈own,∀ x,c.M.h a = some x→d.M.h a = some x) (hc:∀ n a,env.cells.lookup n = some a→∀ x,c.M.h a = some x→d.M.h a = some x) (h:Hp X d m1):FS X env sc own d m1 L :=
  have k:∀ a∈own,∀ o,c.s.heap.get? a = some o→d.s.heap.get? a = some o:=fun a ha o e=>(F.ow a ha).1.elim fun q e'=>by rw [F.S.pin e'] at e; cases e; exact h.pin (ho a ha _ e')
  { F with
    S:=h
    N:=F.N.upB l0 (ho _ F.L) hc
    ow:=fun a ha=>⟨(F.ow a ha).1.imp fun o e=>ho a ha _ e,(F.ow a ha).2⟩
    ns:=F.ns.imp fun m h=>by obtain ⟨o,es,ep,e,r⟩:=h; exact ⟨o,es,ep,k _ F.L o e,r⟩
    cell:=fun x a e ha=>(F.cell x a e ha).imp fun v h=>by obtain ⟨o,e,r⟩:=h; exact ⟨o,k a ha o e,r⟩ }
structure Has (env:Env) (own:List Addr) (C:Map):Prop where
  o:∀ a∈own,∃ x,C.h a = some x
  c:∀ n a,env.cells.lookup n = some a→∃ x,C.h a = some x
private theorem FS.has (F:FS X env sc own c m L):Has env own c.M :=
  ⟨fun a ha=>(F.ow a ha).1.elim fun o q=>⟨_,q⟩,fun x a h=>(F.N.cel x a h).elim fun o q=>q.elim (fun q=>⟨_,q⟩) fun q=>⟨_,q⟩⟩
private theorem FS.step {C W:Map} (F:FS X env sc own c m L) (a:Has env own C) (p:Pins C W) (w:W.le c.M) (s:StepW X W c d m1):FS X env sc own d m1 L :=
  F.keepB (p.l0 w s.l) (fun b hb x=>(a.o b hb).elim fun y q=>s.l.h b x (p.v b y q)) (fun n b hb x=>(a.c n b hb).elim fun y q=>s.l.h b x (p.v b y q)) s.h
private theorem forLoop {R:Result→Shared→Prop} {s:Shared} {target:Expr} {it:Value} {body orelse:List Stmt} {env:Env} (I:Nat→Shared→Prop)
    (turn:∀ n s,I n s→wpAny (model X.prog X.w) A (pyNext it) (fun r s₁=>match r with
      | none=>wpAny (model X.prog X.w) A (execs orelse env) (fun f s₃=>R (.ok f) s₃) (notedBy (model X.prog X.w) A env fun e s'=>R (.error e) s') s₁
      | some v=>wpAny (model X.prog X.w) A (letOwnedTupleGo target it v) (fun zz s₀=>wpAny (model X.prog X.w) A (assign target env v) (fun zz s₂=>wpAny (model X.prog X.w) A (execs body env) (fun f s₃=>match f with
          | .next | .cont=>∃ m,m < n∧I m s₃
          | .brk=>R (.ok .next) s₃
          | .ret v=>R (.ok (.ret v)) s₃) (notedBy (model X.prog X.w) A env fun e s'=>R (.error e) s') s₂) (notedBy (model X.prog X.w) A env fun e s'=>R (.error e) s') s₀) (notedBy (model X.prog X.w) A env fun e s'=>R (.error e) s') s₁) (notedBy (model X.prog X.w) A env fun e s'=>R (.error e) s') s)
    (n:Nat) (h:I n s):codeAny (model X.prog X.w) A (.forLoop target it body orelse env) R s:=by
  refine codeAny_loop' rfl I (fun n s hI=>?_) n h
  show wpAny _ _ ((forTurn target it body orelse env).onRaise (fun x=>do noteFrame x env; theTreesLotGoes x)) _ _ s
  refine wpAny_noted ?_
  simp only [forTurn]
  refine wpAny_bind (wpAny_standAt (wpAny_bind (wpAny_onRaise (wpAny_mono (turn n s hI) (fun r s₁ h₁=>?_) fun zz zz h'=>wpAny_standAt h'))))
  cases r with
  | none=>exact wpAny_pure (.inr ⟨rfl,codeAny_block h₁⟩)
  | some v =>
    refine wpAny_bind (wpAny_mono h₁ (fun zz s₀ h₀=>?_) fun zz zz h'=>h')
    refine wpAny_bind (wpAny_mono h₀ (fun zz s₂ h₂=>wpAny_bind (wpAny_mono h₂ (fun f s₃ h₃=>?_) fun zz zz h'=>h')) fun zz zz h'=>h')
    cases f with
    | next=>exact wpAny_pure (.inl ⟨rfl,h₃⟩)
    | cont=>exact wpAny_pure (.inl ⟨rfl,h₃⟩)
    | brk=>exact wpAny_pure h₃
    | ret v=>exact wpAny_pure h₃
noncomputable def Loop (J:Lc→Mem→Prop) (P:RP):RP
  | .next,L,m=>J L m
  | .cont,L,m=>J L m
  | .brk,L,m=>P .next L m
  | .ret v,L,m=>P (.ret v) L m
structure ForAt (X:Amb) (D:Nat) (sc:Names) (tgt:Expr) (env:Env) (own:List Addr) (itv:Value) (C M0:Map) (c2:Cf) (xs:List AV) (W:Map) (L:Lc) (m:Mem):Prop where
  l:Map.leB own C c2.M
  l0:M0.le0 c2.M
  F:FS X env sc own c2 m L
  w:W.le c2.M
  p:Pins C W
  f:Feeds X D tgt itv M0 xs W
inductive Turn (X:Amb) (D:Nat) (sc:Names) (tgt:Expr) (body:List Stmt) (L:Lc) (m:Mem) (x:AV) (P:RP):Prop
  | mk {L':Lc}:Asg X D sc sc tgt L x L'→W X D sc body L' m P→Turn X D sc tgt body L m x P
inductive Loops {α:Type} (f:α→AV) (xs:List α) (I:Nat→Lc→Mem→Prop) (F:Cf→List AV→Map→Lc→Mem→Prop) (n:Nat) (s:Shared):Prop
  | mk {c2 k W L m}:s = c2.s→n = xs.length - k→k≤xs.length→I k L m→F c2 ((xs.drop k).map f) W L m→Loops f xs I F n s
private theorem W.for {α:Type} {f:α→AV} {xs:List α} {p:Pos} {iter:Expr} {body:List Stmt} (hi:PI X D sc tgt iter L m (xs.map f) m1) (I:Nat→Lc→Mem→Prop) (h0:I 0 L m1)
    (hs:∀ k x L m,xs[k]? = some x→I k L m→Turn X D sc tgt body L m (f x) (Loop (I (k + 1)) (Then X D sc rest P))) (he:∀ L m,I xs.length L m→W X D sc rest L m P) (hf:∀ env x,foldedSetIterable iter env x = pure x):W X D sc (.For tgt iter body [] p :: rest) L m P :=
  .seq fun env own A c T Q E q=>by
    refine wpAny_For (hi env A c (T.F.at' T.R) _ _ fun itv d V it=>?_) (hf env)
    have ap:=T.F.has
    refine forLoop (Loops f xs I fun c2 xs W L m=>ForAt X D sc tgt env own itv c.M d.M c2 xs W L m) (fun n s i=>?_) xs.length (.mk (k:=0) rfl rfl (Nat.zero_le _) h0 ⟨it.l.b own,fun zz zz e zz=>e,T.F.keep it.l it.h,it.w,it.p,it.f⟩)
    cases i with
    | @mk c2 k W L m hs' hn' hk i F0 =>
      subst hs'; subst hn'
      have ff:=F0.f
      rcases Nat.lt_or_ge k xs.length with hk | hk
      · rw [List.drop_eq_getElem_cons hk] at ff
        refine ff A c2 m _ _ T.R F0.l0 F0.F.S F0.w fun v d1 go=>go _ _ _ T.R fun d2 W2 s2 r2 w2 p2 f2=>?_
        have F2:=F0.F.step ap F0.p F0.w s2
        have p2:=p2.pins F0.p F0.l fun a ha=>(F0.F.ow a ha).1.imp' _ fun zz q=>q
        cases hs k _ L m (List.getElem?_eq_getElem hk) i with
        | @mk L' ha hb =>
          refine ha env own A d2 m v T.R T.T F2 r2 _ _ fun d3 l3 F3=>hb env own A d3 (T.on F3) _ _ fun v4 d4 fl L4 m4 g=>?_
          have l4:=l3.tr g.l
          have lc:Map.leB own c.M d4.M:=(F0.p.on F0.l s2.l).tr l4
          have key:FS X env sc own d4 m4 L4→I (k + 1) L4 m4→∃ m,m < xs.length - k∧Loops f xs I (fun c2 xs W L m=>ForAt X D sc tgt env own itv c.M d.M c2 xs W L m) m d4.s:=fun gF i=>⟨xs.length - (k + 1),Nat.sub_succ_lt_self _ _ hk,.mk rfl rfl hk i
            ⟨lc,fun a x e n=>F2.l0 l4 a x ((F0.p.l0 F0.w s2.l) a x (F0.l0 a x e n) n) n,gF,⟨fun a x e=>l4.h a x (fun ha=>(ap.o a ha).elim fun y q=>by rw [p2.v a y q] at e; cases e) (w2.h a x e),fun i x e=>l4.g i x (w2.g i x e)⟩,p2,f2⟩⟩
          cases g.r with
          | next=>exact key g.F g.p
          | cont=>exact key g.F g.p
          | brk=>exact q _ d4 .next L4 m4 ⟨lc,g.F,.next,g.p⟩
          | ret r=>exact q _ d4 (.ret _) L4 m4 ⟨lc,g.F,.ret r,g.p⟩
      · rw [List.drop_eq_nil_of_le hk] at ff
        have e:k = xs.length:=Nat.le_antisymm ‹_› hk
        subst e
        exact ff A c2 m _ _ T.R F0.l0 F0.F.S F0.w fun d1 s1=>wpAny_execs_nil (q _ d1 .next L m ⟨F0.p.on F0.l s1.l,F0.F.step ap F0.p F0.w s1,.next,he L m i⟩)
inductive Whl (X:Amb) (D:Nat) (sc:Names) (t:Expr) (body rest:List Stmt) (I:Nat→Lc→Mem→Prop) (P:RP) (k:Nat) (L:Lc) (m:Mem):Prop
  | go {m1:Mem}:PT X D sc t L m true m1→W X D sc body L m1 (Loop (fun L m=>∃ j,j < k∧I j L m) (Then X D sc rest P))→Whl X D sc t body rest I P k L m
  | no {m1:Mem}:PT X D sc t L m false m1→W X D sc rest L m1 P→Whl X D sc t body rest I P k L m
private theorem W.while {p:Pos} {t:Expr} {body:List Stmt} (I:Nat→Lc→Mem→Prop) (n:Nat) (h0:I n L m) (hs:∀ k L m,I k L m→Whl X D sc t body rest I P k L m):W X D sc (.While t body [] p :: rest) L m P :=
  .seq fun env own A c T Q E q=>by
    refine wpAny_While (codeAny_whileLoop (fun k s=>∃ c2 L m,s = c2.s∧Map.leB own c.M c2.M∧FS X env sc own c2 m L∧I k L m) ?_ n ⟨c,L,m,rfl,.rf _,T.F,h0⟩)
    rintro k _ ⟨c2,L,m,rfl,l2,F2,i⟩
    cases hs k L m i with
    | no ht hr=>exact ht.go (T.on F2) fun d l F=>wpAny_execs_nil (q _ d .next _ _ ⟨l2.tr l,F,.next,hr⟩)
    | go ht hb =>
      exact ht.go (T.on F2) fun d l F=>hb env own A d (T.on F) _ _ fun v d4 fl L4 m4 g=>by
        have lc:=(l2.tr l).tr g.l
        cases g.r with
        | next=>exact g.p.elim fun j h=>⟨j,h.1,d4,L4,m4,rfl,lc,g.F,h.2⟩
        | cont=>exact g.p.elim fun j h=>⟨j,h.1,d4,L4,m4,rfl,lc,g.F,h.2⟩
        | brk=>exact q _ d4 .next L4 m4 ⟨lc,g.F,.next,g.p⟩
        | ret r=>exact q _ d4 (.ret _) L4 m4 ⟨lc,g.F,.ret r,g.p⟩
end
end
section
open PySem PySem.W PyProof.Rows PySem.Calls PySem.SeqAt
noncomputable def one (I:Addr) (o:Obj):Map:=⟨fun a=>if a = I then some (.pin o) else none,fun zz=>none⟩
private theorem one_at (I:Addr) (o:Obj):(one I o).h I = some (.pin o):=if_pos rfl
private theorem one_ne {I a:Addr} {o:Obj} (h:(one I o).h a = none):a ≠ I:=fun e=>by rw [e,one_at] at h; cases h
private theorem one_no {I a:Addr} {o:Obj} (h:a ≠ I):(one I o).h a = none:=if_neg h
private theorem one_is {I a:Addr} {o:Obj} {x:Cel} (h:(one I o).h a = some x):a = I∧x = .pin o:=by
  by_cases e:a = I
  · rw [e,one_at] at h; cases h; exact ⟨e,rfl⟩
  · rw [one_no e] at h; cases h
private theorem one_le {I:Addr} {o:Obj} {M:Map} (h:M.h I = some (.pin o)):(one I o).le M:=⟨fun a x e=>by obtain ⟨rfl,rfl⟩:=one_is e; exact h,fun i x (e:none = some x)=>by cases e⟩
private theorem one_pins {C:Map} {I:Addr} {o:Obj} (h:C.h I = none):Pins C (one I o):=⟨fun a x e=>⟨o,(one_is e).2⟩,fun a x n=>one_no fun e=>(by rw [e,h] at n; cases n),fun zz zz zz=>rfl⟩
noncomputable def Map.del (M:Map) (a:Addr):Map:=⟨fun b=>if b = a then none else M.h b,M.g⟩
private theorem Map.del_at (M:Map) (a:Addr):(M.del a).h a = none:=if_pos rfl
private theorem Map.del_ne (M:Map) {a b:Addr} (h:b ≠ a):(M.del a).h b = M.h b:=if_neg h
private theorem Map.del_is {M:Map} {a b:Addr} {x:Cel} (h:(M.del a).h b = some x):b ≠ a∧M.h b = some x:=by
  by_cases e:b = a
  · rw [e,Map.del_at] at h; cases h
  · exact ⟨e,Map.del_ne M e ▸ h⟩
section
variable {X:Amb} {D:Nat} {sc:Names} {L:Lc} {m m1:Mem} {tgt iter:Expr} {s:Shared} {M:Map}
private theorem Sep.del (S:Sep X s M m) {a:Addr} {o:Obj} {h':Heap} {tk:Nat} (ha:M.h a = some (.pin o)) (hb:X.B.h a = none) (hs:∀ b o,b ≠ a→s.heap.get? b = some o→h'.get? b = some o):Sep X { s with heap:=h',toks:=tk } (M.del a) m :=
  have l0:M.le0 (M.del a):=fun b x e n=>by
    rw [Map.del_ne _ fun q=>by rw [q,ha] at e; cases e; exact n _ rfl]; exact e
  { S with
    c:=fun b x e=>(S.c b x (Map.del_is e).2).go l0 (fun o=>hs b o (Map.del_is e).1) fun zz zz=>rfl
    i:=fun b d j e1 e2=>S.i b d j (Map.del_is e1).2 (Map.del_is e2).2
    x:=⟨fun b x e=>by rw [Map.del_ne _ fun q=>by rw [q,hb] at e; cases e]; exact S.x.h b x e,S.x.g⟩ }
private theorem Sep.btop (S:Sep X s M m):X.B.h s.heap.objs.size = none:=by
  cases q:X.B.h s.heap.objs.size with
  | none=>rfl
  | some x=>have:=S.x.h _ _ q; rw [S.top] at this; cases this
noncomputable abbrev Owned:List String:=["enumerate","zip","dict_itemiterator","dict_reverseitemiterator","odict_iterator","itertools.zip_longest","itertools.pairwise"]
private theorem letOwned_no {I:Addr} {o:Obj} {T:String} {v:Value} {A:Around} {Q:Unit→Shared→Prop} {E:Value→Shared→Prop} (ho:s.heap.get? I = some o) (hc:o.cls = .type T)
    (hT:Owned.contains T = false) (h:Q () s):wpAny (model X.prog X.w) A (letOwnedTupleGo tgt (.ref I) v) Q E s:=by
  have key:wpAny (model X.prog X.w) A (match (Value.ref I,v) with
    | (.ref r,.ref a)=>(do
      let o ← load r
      match o.cls,o.data with
      | .type n,.fields vs =>
        if ["enumerate","zip","dict_itemiterator","dict_reverseitemiterator","odict_iterator","itertools.zip_longest","itertools.pairwise"].contains n && vs[0]? == some (rawInt a) then
          rule "for.unpacks-the-owned-tuple"
          updateField r 0 .none
      | _,_=>pure ())
    | _=>pure ()) Q E s:=by
    cases v with
    | ref a =>
      dsimp only
      refine wpAny_bind (wpAny_load ho ?_)
      rw [hc]
      cases o.data with
      | fields vs=>simp only [hT,Bool.false_and,Bool.false_eq_true,if_false]; exact wpAny_pure h
      | _=>exact wpAny_pure h
    | _=>exact wpAny_pure h
  cases tgt with
  | Tuple es k p=>exact key
  | List es p=>exact key
  | _=>exact wpAny_pure h
structure WalkOk (X:Amb) (M0:Map) (I:Addr) (fp:List Addr) (n:Nat) (Pv:Nat→Value→Prop) (St:Nat→Heap→Prop) (xs:List AV) (T:String):Prop where
  k:∀ A:Around,A.handled = none→Walks X.prog X.w A I fp [I] n Pv St
  i:∀ i h,St i h→∃ o,h.get? I = some o∧o.cls = .type T
  t:Owned.contains T = false
  fp:∀ b∈fp,b ≠ I→∃ o,M0.h b = some (.frz o)
  len:xs.length = n
  x:∀ (i:Nat) v x,xs[i]? = some x→Pv i v→Rep M0 x v
  b:X.B.h I = none
private theorem feedsOf {M0:Map} {I:Addr} {fp:List Addr} {n:Nat} {Pv:Nat→Value→Prop} {St:Nat→Heap→Prop} {xs:List AV} {T:String} (K:WalkOk X M0 I fp n Pv St xs T) :
    ∀ (r:List AV) (i:Nat) (h0:Heap) (o:Obj),xs.drop i = r→i≤n→St i h0→h0.get? I = some o→(∀ b q,M0.h b = some (.frz q)→h0.get? b = some q)→Feeds X D tgt (.ref I) M0 r (one I o):=by
  have frame:∀ {i:Nat} {h0:Heap} {o:Obj} {A:Around} {c:Cf} {m:Mem},Room A D→St i h0→h0.get? I = some o→(∀ b q,M0.h b = some (.frz q)→h0.get? b = some q)→M0.le0 c.M→Hp X c m→(one I o).le c.M→St i c.s.heap:=fun R st ho hk l0 S w =>
    (K.k _ R.1).frame _ _ _ st fun b hb q e=>by
      by_cases hbI:b = I
      · subst hbI; rw [ho] at e; cases e; exact S.pin (w.h _ _ (one_at _ _))
      · obtain ⟨q',e'⟩:=K.fp b hb hbI
        have:=hk b q' e'; rw [this] at e; cases e
        exact S.frz (l0 _ _ e' Cel.fnp)
  intro r
  induction r with
  | nil =>
    intro i h0 o hr hi st ho hk A c m Q E R l0 S w q
    have hin:i = n:=by have:=List.drop_eq_nil_iff.mp hr; rw [K.len] at this; exact Nat.le_antisymm hi this
    subst hin
    have hp:=w.h _ _ (one_at I o)
    exact (K.k A R.1).done c.s Q E (frame R st ho hk l0 S w) fun h' tk hk'=>q ⟨{ c.s with heap:=h',toks:=tk },c.M.del I⟩ ⟨⟨fun a x n e=>(Map.del_ne _ (one_ne n)).trans e,fun zz zz zz e=>e⟩,S.del hp K.b fun b q hb e=>hk' b q (by simpa using hb) e⟩
  | cons x r ih =>
    intro i h0 o hr hi st ho hk A c m Q E R l0 S w q
    have hp:=w.h _ _ (one_at I o)
    have hxi : xs[i]? = some x := by have : (xs.drop i)[0]? = some x := by rw [hr]; rfl
                                     simpa using this
    have hlt:i < n:=K.len ▸ (List.getElem?_eq_some_iff.mp hxi).1
    refine (K.k A R.1).item i c.s Q E hlt (frame R st ho hk l0 S w) fun v h' tk pv st' hk'=>?_
    refine q v ⟨{ c.s with heap:=h',toks:=tk },c.M⟩ fun A2 Q2 E2 zz q2=>?_
    obtain ⟨o',ho',hc'⟩:=K.i _ _ st'
    have S':=S.put (a:=I) (x:=.pin o') (h':=h') (tk:=tk) (mem':=m) (fun y e n=>by rw [hp] at e; cases e; exact absurd rfl (n o)) (fun y e=>by rw [K.b] at e; cases e) (fun b q hb e=>hk' b q (by simpa using hb) e) (fun zz zz zz zz=>rfl) nofun (.pin ho')
    have l1:=Map.set_le0 (.pin o') hp
    have l2:M0.le0 (c.M.set I (.pin o')):=fun a x e n=>l1 a x (l0 a x e n) n
    exact letOwned_no (o:=o') ho' hc' K.t (q2 ⟨{ c.s with heap:=h',toks:=tk },c.M.set I (.pin o')⟩ (one I o') ⟨⟨fun a x n e=>(Map.set_ne _ _ (one_ne n)).trans e,fun zz zz zz e=>e⟩,S'⟩ ((K.x i v x hxi pv).up0 l2) (one_le (Map.set_at _ _ _)) ⟨fun a x e=>⟨o',(one_is e).2⟩,fun a x zz n=>one_no (one_ne n),fun zz zz zz zz=>rfl⟩
      (ih (i + 1) h' o' (by rw [← List.drop_drop,hr]; rfl) hlt st' ho' fun b q e=>by
        have hbI:b ≠ I:=fun z=>by have:=l0 b _ e Cel.fnp; rw [z,hp] at this; cases this
        exact hk' b q (by simpa using hbI) (S.frz (l0 b _ e Cel.fnp))))
noncomputable def ItV (X:Amb) (D:Nat) (tgt:Expr) (m:Mem) (av:AV) (xs:List AV):Prop:=∀ (A:Around) (c:Cf) (C:Map) (v:Value),Room A D→C.le c.M→Hp X c m→Rep c.M av v→∀ (Q E:Value→Shared→Prop),(∀ itv d W,Iter X D tgt C m xs itv d W→Q itv d.s)→wpAny (model X.prog X.w) A (pyIter v) Q E c.s
private theorem PI.of {av:AV} {xs:List AV} (h:PE X D sc iter L m av m1) (hv:ItV X D tgt m1 av xs):PI X D sc tgt iter L m xs m1:=fun env A c T Q E k=>h env A c T _ _ fun v d g=>hv A d c.M v T.R g.l g.h g.r Q E k
private theorem Iter.new {c:Cf} {C:Map} {fp:List Addr} {n:Nat} {Pv:Nat→Value→Prop} {St:Nat→Heap→Prop} {xs:List AV} {T:String} {io:Obj} {tk:Nat} (hC:C.le c.M) (S:Hp X c m) (hf:io.isFreed = false)
    (k:∀ A:Around,A.handled = none→Walks X.prog X.w A c.s.heap.objs.size fp [c.s.heap.objs.size] n Pv St) (hi:∀ i h,St i h→∃ o,h.get? c.s.heap.objs.size = some o∧o.cls = .type T) (t:Owned.contains T = false)
    (hfp:∀ b∈fp,b ≠ c.s.heap.objs.size→∃ o,c.M.h b = some (.frz o)) (len:xs.length = n) (hx:∀ (i:Nat) v x,xs[i]? = some x→Pv i v→Rep c.M x v) (st:St 0 (c.s.heap.push io))
    (hself:∀ (A:Around) (s2:Shared) (Q E:Value→Shared→Prop),s2.heap.get? c.s.heap.objs.size = some io→Q (.ref c.s.heap.objs.size) s2→wpAny (model X.prog X.w) A (pyIter (.ref c.s.heap.objs.size)) Q E s2) :
    Iter X D tgt C m xs (.ref c.s.heap.objs.size) ⟨{ c.s with heap:=c.s.heap.push io,toks:=tk },c.M.set c.s.heap.objs.size (.pin io)⟩ (one c.s.heap.objs.size io) :=
  have l:=Map.le_set (.pin io) S.top
  have nt:C.h c.s.heap.objs.size = none:=by
    cases e:C.h c.s.heap.objs.size with
    | none=>rfl
    | some x=>have:=hC.h _ _ e; rw [S.top] at this; cases this
  { l:=hC.tr l
    h:=S.newPin io hf tk
    w:=one_le (Map.set_at _ _ _)
    p:=one_pins nt
    f := feedsOf { k := k, i := hi, t := t, fp := fun b hb n => (hfp b hb n).imp fun o e => l.h _ _ e, len := len, x := fun i v x h1 h2 => (hx i v x h1 h2).up l, b := S.btop } xs 0 _ io rfl (Nat.zero_le _) st (Heap.get?_push_size _ hf) fun b q e => by
          refine push_ne (S.frz ?_)
          rw [Map.set_ne _ _ fun z=>by rw [z,Map.set_at] at e; cases e] at e; exact e
    self:=fun A e m Q E w S2 h=>hself A e.s Q E (S2.pin (w.h _ _ (one_at _ _))) h }
end
end
section
open PySem PySem.W PyProof.Rows PySem.Calls PySem.SeqAt
section
variable {X:Amb} {D:Nat} {sc:Names} {L:Lc} {m m1:Mem} {tgt iter:Expr}
noncomputable def signs (l:List Nat):List AV:=l.map fun c=>.str [c]
noncomputable def upTo (n:Nat):List AV:=(List.range n).map fun (i:Nat)=>.int i
private theorem ItV.lst {xs:List AV}:ItV X D tgt m (.lst xs) xs:=fun A c C v R hC S r Q E k=>by
  cases r.i_lst with
  | @mk a vs n hk rs =>
    have hl:c.s.heap.IsList a vs.toArray:=⟨_,S.frz hk,rfl,n,rfl⟩
    have hne:a ≠ c.s.heap.objs.size:=Nat.ne_of_lt (Heap.lt_size (S.frz hk))
    exact wpAny_pyIter_list hl (k _ _ _ (Iter.new (T:="list_iterator") (tk:=c.s.toks) hC S rfl (fun A' hA=>Walks.list hA _ a hne vs.toArray) (fun i h st=>let ⟨o,ho,hc,_⟩:=st.1; ⟨o,ho,hc⟩) (by decide)
      (fun b hb hbn=>by
        rcases List.mem_cons.mp hb with e | e
        · exact absurd e hbn
        · rw [List.mem_singleton.mp e]; exact ⟨_,hk⟩) (rs.len.symm.trans (by simp)) (fun i v x hx (pv:vs.toArray[i]? = some v)=>rs.at' i x v hx (by simpa using pv)) ⟨⟨_,Heap.get?_push_size _ rfl,rfl,rfl⟩,hl.push _⟩
      (fun A2 s2 Q2 E2 he hq=>wpAny_pyIter_listiter ⟨_,he,rfl,rfl⟩ hq)))
private theorem ItV.tup {xs:List AV}:ItV X D tgt m (.tup xs) xs:=fun A c C v R hC S r Q E k=>by
  cases r.i_tup with
  | @mk a vs n hk rs =>
    have hl:c.s.heap.IsTuple a vs.toArray:=⟨_,S.frz hk,rfl,n,rfl⟩
    have hne:a ≠ c.s.heap.objs.size:=Nat.ne_of_lt (Heap.lt_size (S.frz hk))
    exact wpAny_pyIter_tuple hl (k _ _ _ (Iter.new (T:="tuple_iterator") (tk:=c.s.toks) hC S rfl (fun A' hA=>Walks.tuple hA _ a hne vs.toArray) (fun i h st=>let ⟨o,ho,hc,_⟩:=st.1; ⟨o,ho,hc⟩) (by decide)
      (fun b hb hbn=>by
        rcases List.mem_cons.mp hb with e | e
        · exact absurd e hbn
        · rw [List.mem_singleton.mp e]; exact ⟨_,hk⟩) (rs.len.symm.trans (by simp)) (fun i v x hx (pv:vs.toArray[i]? = some v)=>rs.at' i x v hx (by simpa using pv)) ⟨⟨_,Heap.get?_push_size _ rfl,rfl,rfl⟩,hl.at fun o e=>Heap.get?_push_of_some _ e⟩
      (fun A2 s2 Q2 E2 he hq=>wpAny_pyIter_tupleiter ⟨_,he,rfl,rfl⟩ hq)))
private theorem signAt {M:Map} {l:List Nat} (i:Nat) (v:Value) (x:AV) (hx:(signs l)[i]? = some x) (h:SignAt ⟨l.toArray⟩ i v):Rep M x v:=by
  obtain ⟨c,u,hc,hv⟩:=h
  unfold signs at hx
  rw [List.getElem?_map] at hx
  obtain ⟨c',h1,h2⟩:=Option.map_eq_some_iff.mp hx
  have hc:l[i]? = some c:=by simpa using hc
  rw [h1] at hc; cases hc
  rw [hv,← h2]; exact .str [_] _
private theorem ItV.str {l:List Nat}:ItV X D tgt m (.str l) (signs l):=fun A c C v R hC S r Q E k=>by
  obtain ⟨t,rfl⟩:=r.i_str
  have len:(signs l).length = (⟨l.toArray⟩:Str).length:=List.length_map _
  cases ha:(⟨l.toArray⟩:Str).cps.all (· < 128) with
  | false =>
    exact wpAny_pyIter_wide ha (k _ _ _ (Iter.new (T:="str_iterator") (tk:=c.s.toks) hC S rfl (fun A' hA=>Walks.strWide hA _ _ t) (fun i h st=>let ⟨o,ho,hc,_⟩:=st; ⟨o,ho,hc⟩) (by decide) (fun b hb hbn=>absurd (List.mem_singleton.mp hb) hbn) len signAt ⟨_,Heap.get?_push_size _ rfl,rfl,rfl⟩
      (fun A2 s2 Q2 E2 he hq=>wpAny_pyIter_striter_wide ⟨_,he,rfl,rfl⟩ hq)))
  | true =>
    exact wpAny_pyIter_ascii ha (k _ _ _ (Iter.new (T:="str_ascii_iterator") (tk:=c.s.toks) hC S rfl (fun A' hA=>Walks.strAscii hA _ _ t) (fun i h st=>let ⟨o,ho,hc,_⟩:=st; ⟨o,ho,hc⟩) (by decide) (fun b hb hbn=>absurd (List.mem_singleton.mp hb) hbn) len signAt ⟨_,Heap.get?_push_size _ rfl,rfl,rfl⟩
      (fun A2 s2 Q2 E2 he hq=>wpAny_pyIter_striter_ascii ⟨_,he,rfl,rfl⟩ hq)))
private theorem ItV.rng {n:Nat} (hn:n≤2 ^ 40):ItV X D tgt m (.rng 0 n) (upTo n):=fun A c C v R hC S r Q E k=>by
  cases r.i_rng with
  | @mk a t u w hk =>
    have hsz:Builtin.Range.rangeSize 0 n 1 = (n:Int):=by rw [rangeSize_one]; split <;> lia
    refine wpAny_pyIter_range (S.frz hk) (small_one (by decide) (by decide) (Int.natCast_nonneg _) (by lia)) ?_
    rw [hsz]
    refine k _ _ _ (Iter.new (T:="range_iterator") (tk:=c.s.toks) hC S rfl (fun A' hA=>Walks.range hA _ 0 1 n) (fun i h st=>⟨_,st,rfl⟩) (by decide) (fun b hb hbn=>absurd (List.mem_singleton.mp hb) hbn) (by unfold upTo; simp) (fun i v x hx pv=>?_) ?_ (fun A2 s2 Q2 E2 he hq=>wpAny_pyIter_rangeiter he hq))
    · obtain ⟨t,rfl⟩:=pv
      unfold upTo at hx
      rw [List.getElem?_map] at hx
      obtain ⟨j,hj,rfl⟩:=Option.map_eq_some_iff.mp hx
      obtain ⟨hj1,hj2⟩:=List.getElem?_eq_some_iff.mp hj
      rw [List.getElem_range] at hj2
      subst hj2
      simpa using Rep.int _ _
    · simpa using Heap.get?_push_size c.s.heap rfl
private theorem PI.reversed {e:Expr} {p pos:Pos} {xs:List AV} (hg:Glo X.B "reversed" (.type "reversed")) (hes:PA X D sc [e] L m [.lst xs] m1) (hx:sc.lookup ("reversed":Str) = some .globalImplicit):PI X D sc tgt (.Call (.Name "reversed" p) [e] [] pos) L m xs.reverse m1:=fun env A c T Q E k=>by
  refine evalCallT T hx hg hes fun vs d g=>?_
  cases g.r.i_cons with
  | @mk v vs r1 r2 =>
    cases r2.i_nil
    cases r1.i_lst with
    | @mk a us n hk rs =>
      have hl:d.s.heap.IsList a us.toArray:=⟨_,g.h.frz hk,rfl,n,rfl⟩
      have hne:a ≠ d.s.heap.objs.size:=Nat.ne_of_lt (Heap.lt_size (g.h.frz hk))
      have hlen:=rs.len
      refine call_reversed_list hl (wpAny_pyIter_revIter (i:=((us.toArray.size:Int) - 1)) (l:=a) ⟨_,Heap.get?_push_size _ rfl,rfl,rfl⟩ ?_)
      refine k _ _ _ (Iter.new (tk:=d.s.toks) (io:=revObj a ((us.toArray.size:Int) - 1)) (T:="list_reverseiterator") g.l g.h rfl (fun A' hA=>Walks.listRev hA _ a hne us.toArray) (fun i h st=>let ⟨o,ho,hc,_⟩:=st.2.1; ⟨o,ho,hc⟩) (by decide) (fun b hb hbn=>?_) (by simp [hlen]) (fun i v x hx pv=>?_) ⟨Nat.zero_le _,⟨_,Heap.get?_push_size _ rfl,rfl,by simp [revObj]⟩,hl.push _⟩ (fun A2 s2 Q2 E2 he hq=>wpAny_pyIter_revIter ⟨_,he,rfl,rfl⟩ hq))
      · rcases List.mem_cons.mp hb with e | e
        · exact absurd e hbn
        · rw [List.mem_singleton.mp e]; exact ⟨_,hk⟩
      · have hi:=(List.getElem?_eq_some_iff.mp hx).1
        rw [List.length_reverse] at hi
        rw [List.getElem?_reverse hi] at hx
        obtain ⟨v',h1,h2⟩:=rs.get hx
        have pv:us.toArray[us.toArray.size - 1 - i]? = some v:=pv
        simp only [List.getElem?_toArray,List.size_toArray,hlen] at pv
        rw [h1] at pv; cases pv; exact h2
end
end
section
open PySem PySem.W PyProof.Rows PySem.Calls PySem.SeqAt
noncomputable def relK (sc:Names) (p:Str × NameKind):NameKind:=if (p.2 == NameKind.free && sc.lookup p.1 == some .cell) then .cell else p.2
noncomputable def relN (sc names:Names):Names:=names.map fun p=>(p.1,relK sc p)
private theorem relN_eq {env : Env} (scope : Scope) (hk : env.scope.kind = .function) : (relabel scope env).names = relN env.scope.names scope.names := by
  have h:(env.scope.kind == ScopeKind.function) = true:=by rw [hk]; rfl
  simp only [relabel, relN, relK, Env.kindOf, h, Bool.and_true]
  refine List.map_congr_left fun p zz=>?_
  split <;> rfl
private theorem relN_lookup (sc:Names) (x:Str):∀ names:Names,(relN sc names).lookup x = (names.lookup x).map fun k=>relK sc (x,k)
  | []=>rfl
  | (n,k) :: r=>by
    show List.lookup x ((n,relK sc (n,k)) :: relN sc r) = _
    rw [List.lookup_cons,List.lookup_cons]
    cases hx:x == n with
    | true=>rw [beq_iff_eq.mp hx]; rfl
    | false=>exact relN_lookup sc x r
private theorem NmR.rel {a b:Names} (h:NmR a b) (names:Names):NmR (relN a names) (relN b names):=fun x=>by
  rw [relN_lookup,relN_lookup]
  cases names.lookup x with
  | none=>exact .inl rfl
  | some k =>
    show some (relK a (x,k)) = some (relK b (x,k))∨(some (relK a (x,k)) = _∧some (relK b (x,k)) = _)
    unfold relK
    rcases h x with e | ⟨e1,e2⟩
    · left; dsimp only; rw [e]
    · dsimp only; rw [e1,e2]; cases k <;> first | exact .inl rfl | exact .inr ⟨rfl,rfl⟩
noncomputable def frC (cells:List (Str × Addr)) (p:Str × NameKind):Option (Str × Addr):=if p.2 == NameKind.free then (cells.lookup p.1).map fun c=>(p.1,c) else none
noncomputable def closL (cells:List (Str × Addr)) (names:Names) (acc:List (Str × Addr)):List (Str × Addr):=(names.filterMap (frC cells)).reverse++acc
private theorem closureFor_eq {env:Env} {scope:Scope} (h:∀ x,(x,NameKind.free)∈scope.names→∃ c,env.cells.lookup x = some c):closureFor scope env = pure (closL env.cells scope.names []):=by
  have key:∀ (f:Str × NameKind→List (Str × Addr)→Sem (ForInStep (List (Str × Addr)))),(∀ n k acc,f (n,k) acc = if k == NameKind.free then (do let c ← cellOf env n; pure (.yield ((n,c) :: acc))) else pure (.yield acc)) →
      ∀ (names:Names) (acc:List (Str × Addr)),(∀ x,(x,NameKind.free)∈names→∃ c,env.cells.lookup x = some c)→(forIn names acc f:Sem _) = pure (closL env.cells names acc):=by
    intro f hf names
    induction names with
    | nil=>intro acc _; rfl
    | cons p r ih =>
      obtain ⟨n,k⟩:=p
      intro acc hr
      rw [List.forIn_cons,hf]
      cases hk:k == NameKind.free with
      | true =>
        obtain ⟨c,hc⟩:=hr n (beq_iff_eq.mp hk ▸ List.mem_cons_self)
        have e:closL env.cells ((n,k) :: r) acc = closL env.cells r ((n,c) :: acc):=by
          unfold closL
          rw [List.filterMap_cons,show frC env.cells (n,k) = some (n,c) by unfold frC; rw [if_pos hk,hc]; rfl,List.reverse_cons,List.append_assoc]; rfl
        rw [e,if_pos rfl]
        simp only [cellOf,hc,pure_bind]
        exact ih _ fun x hx=>hr x (List.mem_cons_of_mem _ hx)
      | false =>
        have e:closL env.cells ((n,k) :: r) acc = closL env.cells r acc:=by
          unfold closL
          rw [List.filterMap_cons,show frC env.cells (n,k) = none by unfold frC; rw [hk]; rfl]
        rw [e,if_neg Bool.false_ne_true,pure_bind]
        exact ih _ fun x hx=>hr x (List.mem_cons_of_mem _ hx)
  unfold closureFor
  refine (congrArg (· >>= fun cs=>pure cs) (key _ (fun n k acc=>?_) scope.names [] h)).trans (by simp)
  rfl
private theorem mem_closL {cells:List (Str × Addr)} {x:Str} {c:Addr} {names:Names} (h:(x,c)∈closL cells names []):(x,NameKind.free)∈names∧cells.lookup x = some c:=by
  unfold closL at h
  rw [List.append_nil,List.mem_reverse] at h
  obtain ⟨⟨n,k⟩,h1,h2⟩:=List.mem_filterMap.mp h
  unfold frC at h2
  split at h2
  · obtain ⟨d,h3,h4⟩:=Option.map_eq_some_iff.mp h2
    cases h4
    exact ⟨(beq_iff_eq.mp ‹_›:k = .free) ▸ h1,h3⟩
  · cases h2
private theorem closL_mem {cells:List (Str × Addr)} {x:Str} {c:Addr} {names:Names} (h:(x,NameKind.free)∈names) (hc:cells.lookup x = some c):(x,c)∈closL cells names []:=by
  unfold closL
  rw [List.append_nil,List.mem_reverse]
  exact List.mem_filterMap.mpr ⟨_,h,by show (cells.lookup x).map _ = _; rw [hc]; rfl⟩
private theorem cellsFrom_sub' {x:Str} {c:Addr}:∀ {names:Names} {n:Nat},(x,c)∈cellsFrom n names []→(x,NameKind.cell)∈names
  | (y,k) :: r,n,h=>by
    unfold cellsFrom at h
    split at h
    · rename_i hk
      rw [cellsFrom_app] at h
      rcases List.mem_append.mp h with h | h
      · exact List.mem_cons_of_mem _ (cellsFrom_sub' h)
      · cases List.mem_singleton.mp h; exact (beq_iff_eq.mp hk:k = .cell) ▸ List.mem_cons_self
    · exact List.mem_cons_of_mem _ (cellsFrom_sub' h)
section
variable {names:Names} {cells:List (Str × Addr)} {n:Nat} {x:Str} {c:Addr}
private theorem comp_cells_mem (h:(x,c)∈cellsFrom n names (closL cells names [])):(x,c)∈cellsFrom n names []∨((x,NameKind.free)∈names∧cells.lookup x = some c):=by
  rw [cellsFrom_app] at h
  exact (List.mem_append.mp h).imp id mem_closL
private theorem lookup_app {α:Type} {x:Str} {v:α}:∀ {l r:List (Str × α)},x ∉ l.map (·.1)→r.lookup x = some v→(l++r).lookup x = some v
  | [],_,_,h=>h
  | (y,d) :: l,r,hn,h=>by
    rw [List.map_cons,List.mem_cons,not_or] at hn
    rw [List.cons_append,List.lookup_cons,show (x == y) = false from beq_eq_false_iff_ne.mpr hn.1]
    exact lookup_app hn.2 h
private theorem lookup_front {α:Type} {x:Str} {v:α}:∀ {l r:List (Str × α)},l.lookup x = some v→(l++r).lookup x = some v
  | (y,d) :: l,r,h=>by
    rw [List.lookup_cons] at h
    rw [List.cons_append,List.lookup_cons]
    cases e:x == y with
    | true=>rw [e] at h; exact h
    | false=>rw [e] at h; exact lookup_front h
private theorem kind_one (hn:(names.map (·.1)).Nodup) {k k':NameKind} (h:(x,k)∈names) (h':(x,k')∈names):k = k':=Option.some.inj ((lookup_mem hn h).symm.trans (lookup_mem hn h'))
private theorem lookup_first {α:Type} {x:Str} {v:α}:∀ {l:List (Str × α)},(x,v)∈l→(∀ d,(x,d)∈l→d = v)→l.lookup x = some v
  | (y,d) :: r,h,h'=>by
    rw [List.lookup_cons]
    cases e:x == y with
    | true=>exact congrArg some (h' d (beq_iff_eq.mp e ▸ List.mem_cons_self))
    | false =>
      refine lookup_first ?_ fun d' hd=>h' d' (List.mem_cons_of_mem _ hd)
      rcases List.mem_cons.mp h with h | h
      · cases h; rw [beq_self_eq_true] at e; cases e
      · exact h
private theorem comp_cells_free (hn:(names.map (·.1)).Nodup) (h:(x,NameKind.free)∈names) (hc:cells.lookup x = some c):(cellsFrom n names (closL cells names [])).lookup x = some c:=by
  rw [cellsFrom_app]
  refine lookup_app (fun q=>?_) (lookup_first (closL_mem h hc) fun d hd=>Option.some.inj ((mem_closL hd).2.symm.trans hc))
  obtain ⟨⟨y,d⟩,h1,rfl⟩:=List.mem_map.mp q
  cases kind_one hn h (cellsFrom_sub' h1)
private theorem comp_cells_cell (hn:(names.map (·.1)).Nodup) (h:(x,NameKind.cell)∈names):∃ c,(cellsFrom n names (closL cells names [])).lookup x = some c∧(x,c)∈cellsFrom n names [] :=
  (mem_cellsFrom h).imp fun c q=>⟨by rw [cellsFrom_app]; exact lookup_front (lookup_mem (cellsFrom_nd hn) q),q⟩
end
private theorem newCompEnv {M:Model} {A:Around} {E:Value→Shared→Prop} {s:Shared} {scope:Scope} {env:Env} {cl:List (Str × Addr)} {g:Addr} {qual:Str} {Q:Env→Shared→Prop}
    (h:Q { scope:=scope,locals:=s.heap.objs.size,globals:=g,cells:=cellsFrom (s.heap.objs.size + 1) scope.names cl,qual:=qual,func:=none,code:=env.code,frame:=env.frame,builtins:=env.builtins }
      { s with heap:=pushCells (s.heap.push { cls:=.type "dict",data:=.dict #[] }) scope.names }) :
    wpAny M A (newFunctionEnv scope g cl [] qual none .none (some env)) Q E s:=by
  simp only [newFunctionEnv,Option.isSome_some,if_true]
  refine wpAny_bind (wpAny_alloc ?_)
  refine wpAny_bind (wpAny_layCells _ (fun name kind cells=>by cases hkc:kind == NameKind.cell <;> simp [hkc]) _ _ _ _ ?_)
  rw [show ({ s with heap:=s.heap.push { cls:=.type "dict",data:=.dict #[] } }:Shared).heap.objs.size = s.heap.objs.size + 1 from Heap.size_push ..]
  simp only [List.forIn_nil]
  exact wpAny_bind (wpAny_pure (wpAny_pure h))
structure CompOk (sc names:Names):Prop where
  nd:(names.map (·.1)).Nodup
  fr:∀ x,(x,NameKind.free)∈names→sc.lookup x = some .cell∨sc.lookup x = some .free
  dbg:names.lookup ("__debug__":Str) = none
  cld:names.lookup ("__classdict__":Str) = none
noncomputable def compOkB (sc names:Names):Bool:=decide (names.map (·.1)).Nodup && names.all (fun p=>p.2 != .free || sc.lookup p.1 == some .cell || sc.lookup p.1 == some .free) && (names.lookup ("__debug__":Str)).isNone && (names.lookup ("__classdict__":Str)).isNone
private theorem compOk {sc names:Names} (h:compOkB sc names = true):CompOk sc names:=by
  unfold compOkB at h
  simp only [Bool.and_eq_true,Option.isNone_iff_eq_none,decide_eq_true_eq] at h
  refine ⟨h.1.1.1,fun x hx=>?_,h.1.2,h.2⟩
  have:=List.all_eq_true.mp h.1.1.2 _ hx
  simpa using this
noncomputable def seen (names:Names) (L:Lc):Lc:=L.filter fun p=>names.lookup p.1 == some .free
noncomputable def seenOk (names:Names) (L:Lc):Bool:=names.all fun p=>p.2 != .free || (L.lookup p.1).isSome
private theorem seen_lookup {names:Names} {x:Str} {v:AV}:∀ {L:Lc},(seen names L).lookup x = some v→L.lookup x = some v∧names.lookup x = some .free
  | (y,w) :: L,h=>by
    unfold seen at h
    rw [List.lookup_cons]
    rw [List.filter_cons] at h
    cases e:names.lookup y == some .free with
    | true =>
      rw [if_pos e,List.lookup_cons] at h
      cases q:x == y with
      | true=>rw [q] at h; exact ⟨h,beq_iff_eq.mp q ▸ beq_iff_eq.mp e⟩
      | false=>rw [q] at h; exact seen_lookup h
    | false =>
      rw [if_neg (by rw [e]; exact Bool.false_ne_true)] at h
      have:=seen_lookup h
      cases q:x == y with
      | true=>have e':=this.2; rw [beq_iff_eq.mp q] at e'; rw [e'] at e; cases e
      | false=>exact this
noncomputable def compEnv (scope : Scope) (env : Env) (C : Addr) : Env := { scope := relabel scope env, locals := C, globals := env.globals, cells := cellsFrom (C + 1) scope.names (closL env.cells scope.names []), qual := env.qual, func := none, code := env.code, frame := env.frame, builtins := env.builtins }
noncomputable def compOwn (scope:Scope) (C:Addr):List Addr:=C :: (cellsFrom (C + 1) scope.names []).map (·.2)
noncomputable def compHeap (scope:Scope) (h:Heap):Heap:=pushCells (h.push { cls:=.type "dict",data:=.dict #[] }) scope.names
private theorem compHeap_keeps {scope:Scope} {h:Heap} {b:Addr} {o:Obj} (e:h.get? b = some o):(compHeap scope h).get? b = some o:=pushCells_keeps _ _ b o (Heap.get?_push_of_some _ e)
section
variable {X:Amb} {D:Nat} {sc:Names} {env:Env} {m:Mem} {L:Lc} {scope:Scope} {c:Cf}
private theorem seen_cells {M:Map} (ok:CompOk sc scope.names) (N:EnvOk env sc M L) (hf:seenOk scope.names L = true) {x:Str} (hx:(x,NameKind.free)∈scope.names):∃ c,env.cells.lookup x = some c:=by
  obtain ⟨v,hv⟩:=Option.isSome_iff_exists.mp (show (L.lookup x).isSome = true from List.all_eq_true.mp hf _ hx)
  obtain ⟨u,_,z⟩:=N.var x v hv
  cases z with
  | loc k=>have k:=N.names.back k nofun; rcases ok.fr x hx with h | h <;> rw [h] at k <;> cases k
  | cel _ h=>exact ⟨_,h⟩
private theorem compKind {M:Map} (N:EnvOk env sc M L) (C:Addr) (x:Str):(compEnv scope env C).kindOf x = (scope.names.lookup x).map fun k=>relK env.scope.names (x,k):=by
  unfold Env.kindOf compEnv; dsimp only
  rw [relN_eq scope N.kind,relN_lookup]
private theorem compEnter (ok:CompOk sc scope.names) (N:EnvOk env sc c.M L) (S:Hp X c m) (hk:scope.kind = .function):∀ own,compOwn scope c.s.heap.objs.size = own →
    (∀ a∈own,c.s.heap.objs.size≤a∧c.M.h a = none)∧FS X (compEnv scope env c.s.heap.objs.size) (relN sc scope.names) own ⟨{ c.s with heap:=compHeap scope c.s.heap },c.M.pins (compHeap scope c.s.heap) own⟩ m (seen scope.names L):=by
  rintro own rfl
  have hC:(compHeap scope c.s.heap).get? c.s.heap.objs.size = some { cls:=.type "dict",data:=.dict #[] }:=pushCells_keeps _ _ _ _ (Heap.get?_push_size _ rfl)
  have okc:=cellsFrom_ok scope.names (c.s.heap.push { cls:=.type "dict",data:=.dict #[] }) (c.s.heap.objs.size + 1) [] ⟨fun zz zz hm=>(nomatch hm),List.Pairwise.nil⟩ (by rw [Heap.size_push]; exact Nat.le_refl _)
  rw [Heap.size_push] at okc
  have inown:∀ n b,(n,b)∈cellsFrom (c.s.heap.objs.size + 1) scope.names []→b∈compOwn scope c.s.heap.objs.size:=fun n b h=>List.mem_cons_of_mem _ (List.mem_map_of_mem (f:=(·.2)) h)
  have ownd:∀ a∈compOwn scope c.s.heap.objs.size,(c.s.heap.objs.size≤a∧c.M.h a = none)∧∃ o,(compHeap scope c.s.heap).get? a = some o:=fun a ha=>by
    have fr (hl:c.s.heap.objs.size≤a):c.M.h a = none:=S.fresh (by
      cases e:c.s.heap.get? a with
      | none=>rfl
      | some o=>exact absurd (Heap.lt_size e) (Nat.not_lt.mpr hl))
    rcases List.mem_cons.mp ha with h | h
    · subst h; exact ⟨⟨Nat.le_refl _,fr (Nat.le_refl _)⟩,_,hC⟩
    · obtain ⟨⟨n,b⟩,h1,h2⟩:=List.mem_map.mp h
      subst h2
      obtain ⟨⟨o,h3,_⟩,h4⟩:=okc.empty n b h1
      exact ⟨⟨Nat.le_of_lt h4,fr (Nat.le_of_lt h4)⟩,o,h3⟩
  have S1:Sep X { c.s with heap:=compHeap scope c.s.heap } c.M m:=S.keep (tk:=c.s.toks) fun b o zz e=>compHeap_keeps e
  have le:=Map.le_pins (M:=c.M) (own:=compOwn scope c.s.heap.objs.size) (h:=compHeap scope c.s.heap) fun a ha=>(ownd a ha).1.2
  have pin:∀ a∈compOwn scope c.s.heap.objs.size,∃ o,(c.M.pins (compHeap scope c.s.heap) (compOwn scope c.s.heap.objs.size)).h a = some (.pin o):=fun a ha=>(ownd a ha).2.imp fun o e=>Map.pins_in ha e
  have old:∀ a x,c.M.h a = some x→a ∉ compOwn scope c.s.heap.objs.size:=fun a x e ha=>by rw [(ownd a ha).1.2] at e; cases e
  have mem:∀ x b,(compEnv scope env c.s.heap.objs.size).cells.lookup x = some b→(x,b)∈cellsFrom (c.s.heap.objs.size + 1) scope.names []∨((x,NameKind.free)∈scope.names∧env.cells.lookup x = some b):=fun x b h=>comp_cells_mem (mem_of_lookup h)
  have mine:∀ x b,(compEnv scope env c.s.heap.objs.size).cells.lookup x = some b→b∈compOwn scope c.s.heap.objs.size→(x,b)∈cellsFrom (c.s.heap.objs.size + 1) scope.names []:=fun x b h hb=>(mem x b h).elim id fun q=>(N.cel x b q.2).elim fun o e=>e.elim (fun e=>absurd hb (old b _ e)) fun e=>absurd hb (old b _ e)
  exact ⟨fun a ha=>(ownd a ha).1,{
    S:=S1.pins fun a ha=>(ownd a ha).1.2
    N:={
      names:=relN_eq scope N.kind ▸ N.names.rel scope.names
      kind:=hk
      gl:=N.gl
      bu:=N.bu
      dbg:=by rw [relN_lookup,ok.dbg]; rfl
      cld:=by rw [relN_lookup,ok.cld]; rfl
      cel:=fun x b h=>(mem x b h).elim (fun h=>(pin b (inown x b h)).imp fun o e=>.inr e) fun h=>(N.cel x b h.2).imp fun o e=>e.up le
      var:=fun x av h=>by
        obtain ⟨h,hf⟩:=seen_lookup h
        have hm:=mem_of_lookup hf
        obtain ⟨v,r,z⟩:=N.var x av h
        refine ⟨v,r.up le,?_⟩
        cases z with
        | loc k=>have k:=N.names.back k nofun; rcases ok.fr x hm with h | h <;> rw [h] at k <;> cases k
        | cel k h1 h2 h3 =>
          refine .cel ?_ (comp_cells_free ok.nd hm h1) (h2.up le) h3
          rw [compKind N,hf]
          show some (relK env.scope.names (x,.free)) = _∨some (relK env.scope.names (x,.free)) = _
          unfold relK
          split
          · exact .inl rfl
          · exact .inr rfl }
    ow:=fun a ha=>⟨pin a ha,by
      cases e:X.B.h a with
      | none=>rfl
      | some y=>exact absurd ha (old a y (S.x.h _ _ e))⟩
    ns:=⟨_,_,#[],0,hC,rfl,fun e he=>by simp at he,fun zz=>rfl⟩
    L:=List.mem_cons_self
    cell:=fun x b h hb=>⟨_,(okc.empty x b (mine x b h hb)).1⟩
    cL:=fun x b h hb=>Nat.ne_of_gt (okc.empty x b (mine x b h hb)).2
    inj:=fun x y b hx hy hb=>name_of_addr okc.apart (mine x b hx hb) (mine y b hy hb) }⟩
private theorem compStos {M:Map} (ok:CompOk sc scope.names) (N:EnvOk env sc M L) (C:Addr):Stos scope.names (compEnv scope env C) (compOwn scope C):=fun x h=>by
  have hk:=compKind (scope:=scope) N C x
  rcases h with h | h
  · exact .inl (by rw [hk,h]; rfl)
  · obtain ⟨b,h1,h2⟩:=comp_cells_cell (n:=C + 1) (cells:=env.cells) ok.nd (mem_of_lookup h)
    exact .inr ⟨by rw [hk,h]; rfl,b,h1,List.mem_cons_of_mem _ (List.mem_map_of_mem (f:=(·.2)) h2)⟩
end
end
section
open PySem PySem.W PyProof.Rows PySem.Calls PySem.SeqAt
noncomputable def PTs (X:Amb) (D:Nat) (sc:Names) (ifs:List Expr) (L:Lc) (m:Mem) (b:Bool) (m':Mem):Prop :=
  ∀ (env:Env) (A:Around) (c:Cf),At X D sc env A c L m→∀ Q E,(∀ d,Gt X c m' d→Q b d.s)→wpAny (model X.prog X.w) A (forIn ifs true fun c r=>if r = true then do let ok ← isTrue c env (eval c env); pure (ForInStep.yield ok) else pure (ForInStep.yield r)) Q E c.s
structure AsgC (X:Amb) (D:Nat) (sc names:Names) (tgt:Expr) (L:Lc) (av:AV) (L':Lc):Prop where
  a:Asg X D sc names tgt L av L'
  s:∀ x v,L.lookup x = some v→L'.lookup x = some v
structure AccAt {β:Type} (AccO:β→Map→Obj→Prop) (b:β) (M:Map) (a:Addr) (o:Obj):Prop where
  h:M.h a = some (.pin o)
  a:AccO b M o
noncomputable def Mono {β:Type} (AccO:β→Map→Obj→Prop):Prop:=∀ b M N o,AccO b M o→M.le0 N→AccO b N o
structure Own1 (X:Amb) (env:Env) (own:List Addr) (a:Addr):Prop where
  no:a ∉ own
  ce:∀ x,env.cells.lookup x ≠ some a
  b:X.B.h a = none
noncomputable def Emit {β:Type} (X:Amb) (D:Nat) (sc:Names) (AccO:β→Map→Obj→Prop) (emit:Addr→Env→Sem Unit) (L:Lc) (m:Mem) (b b':β) (m':Mem):Prop :=
  ∀ (env:Env) (own:List Addr) (A:Around) (c:Cf) (a:Addr) (o:Obj),Room A D→FS X env sc own c m L→Own1 X env own a→AccAt AccO b c.M a o →
    ∀ (Q:Unit→Shared→Prop) (E:Value→Shared→Prop),(∀ d o',Map.leB [a] c.M d.M→FS X env sc own d m' L→AccAt AccO b' d.M a o'→Q () d.s)→wpAny (model X.prog X.w) A (emit a env) Q E c.s
class inductive CL {β:Type} (X:Amb) (D:Nat) (sc names:Names) (tgt:Expr) (ifs:List Expr) (L:Lc) (AccO:β→Map→Obj→Prop) (emit:Addr→Env→Sem Unit):List AV→β→Mem→β→Mem→Prop
  | nil {b m}:CL X D sc names tgt ifs L AccO emit [] b m b m
  | turn {x r b m L' q m2 b' m3 bF mF}:AsgC X D sc names tgt L x L'→PTs X D sc ifs L' m q m2→Emit X D sc AccO (fun a env=>if q = true then emit a env else pure ()) L' m2 b b' m3→CL X D sc names tgt ifs L AccO emit r b' m3 bF mF→CL X D sc names tgt ifs L AccO emit (x :: r) b m bF mF
noncomputable def Map.sub (M W:Map):Map:=⟨fun a=>(W.h a).elim (M.h a) fun zz=>none,fun i=>(W.g i).elim (M.g i) fun zz=>none⟩
private theorem Map.sub_h {M W:Map} {a:Addr} (h:W.h a = none):(M.sub W).h a = M.h a:=congrArg (fun o=>Option.elim o (M.h a) fun zz=>none) h
private theorem Map.sub_g {M W:Map} {i:Nat} (h:W.g i = none):(M.sub W).g i = M.g i:=congrArg (fun o=>Option.elim o (M.g i) fun zz=>none) h
private theorem Map.sub_W {M W:Map} {a:Addr} {x:Cel} (h:(M.sub W).h a = some x):W.h a = none:=by
  cases e:W.h a with
  | none=>rfl
  | some y=>have h:(W.h a).elim (M.h a) (fun zz=>none) = some x:=h; rw [e] at h; cases h
private theorem Map.sub_Wg {M W:Map} {a:Nat} {x:GenState} (h:(M.sub W).g a = some x):W.g a = none:=by
  cases e:W.g a with
  | none=>rfl
  | some y=>have h:(W.g a).elim (M.g a) (fun zz=>none) = some x:=h; rw [e] at h; cases h
private theorem Map.sub_le {M W:Map}:(M.sub W).le M:=⟨fun zz zz e=>(Map.sub_h (Map.sub_W e)) ▸ e,fun zz zz e=>(Map.sub_g (Map.sub_Wg e)) ▸ e⟩
structure CAt {β:Type} (X:Amb) (D:Nat) (sc:Names) (tgt:Expr) (env:Env) (own:List Addr) (itv:Value) (C M0:Map) (a:Addr) (AccO:β→Map→Obj→Prop) (L:Lc) (c:Cf) (r:List AV) (W:Map) (b:β) (o:Obj) (m:Mem):Prop where
  l:Map.leB (a :: own) C c.M
  l0:M0.le0 c.M
  F:FS X env sc own c m L
  w:W.le c.M
  p:Pins C W
  f:Feeds X D tgt itv M0 r W
  a:AccAt AccO b c.M a o
structure CSpec (X:Amb) (e:Expr) (tgt:Expr) (ifs:List Expr) (newAcc:Sem Value) (obj0:Obj) (emit:Addr→Env→Sem Unit) (p:Pos):Prop where
  turn:∀ itv a env,compTurn e 0 itv (.ref a) env = (do
      standAt p
      match ← pyNext itv with
      | none=>pure (.done .next)
      | some v =>
        letOwnedTupleGo tgt itv v
        assign tgt env v
        let mut ok:=true
        for c in ifs do
          if ok then ok ← isTrue c env (eval c env)
        if ok then
          emit a env
        again (.compLoop e 0 itv (.ref a) env))
  den:∀ itv a env (A:Around) (Q:PySem.Fin→Shared→Prop) (E:Value→Shared→Prop) (s:Shared),wpAny (model X.prog X.w) A ((compTurn e 0 itv (.ref a) env).onRaise (fun x=>do noteFrame x env; theTreesLotGoes x)) Q E s →
      wpAny (model X.prog X.w) (A.under (.compLoop e 0 itv (.ref a) env)) ((model X.prog X.w).den (.compLoop e 0 itv (.ref a) env)) Q E s
  quiet:∀ itv a env,(Code.compLoop e 0 itv (.ref a) env).quiet = true
  start:∀ (A:Around) (R:Result→Shared→Prop) (s:Shared) (it:Value) (a:Addr) (env:Env),codeAny (model X.prog X.w) A (.compLoop e 0 it (.ref a) env) R s →
      wpAny (model X.prog X.w) A (pyIter it) (fun it' s'=>codeAny (model X.prog X.w) A (.compLoop e 0 it' (.ref a) env) R s') (notedBy (model X.prog X.w) A env fun x s'=>R (.error x) s') s →
      codeAny (model X.prog X.w) A (.compStart e 0 it (.ref a) env) R s
  new:∀ (A:Around) (Q E:Value→Shared→Prop) (s:Shared),Q (.ref s.heap.objs.size) { s with heap:=s.heap.push obj0 }→wpAny (model X.prog X.w) A newAcc Q E s
  live:obj0.isFreed = false
inductive CInv {β:Type} (X:Amb) (D:Nat) (sc names:Names) (tgt:Expr) (ifs:List Expr) (emit:Addr→Env→Sem Unit) (env:Env) (own:List Addr) (itv:Value) (C M0:Map) (a:Addr) (AccO:β→Map→Obj→Prop) (L:Lc) (bF:β) (mF:Mem) (n:Nat) (s:Shared):Prop
  | mk {c r W b o m}:s = c.s→n = r.length→CL X D sc names tgt ifs L AccO emit r b m bF mF→CAt X D sc tgt env own itv C M0 a AccO L c r W b o m→CInv X D sc names tgt ifs emit env own itv C M0 a AccO L bF mF n s
section
variable {β:Type} {X:Amb} {D:Nat} {sc names:Names} {tgt iter:Expr} {ifs:List Expr} {AccO:β→Map→Obj→Prop} {emit:Addr→Env→Sem Unit} {L:Lc} {bF:β} {m mF:Mem} {e:Expr} {newAcc:Sem Value} {obj0:Obj} {p:Pos}
private theorem jp_if {M:Model} {A:Around} {q:Bool} {x:Sem Unit} {k:Sem PySem.Fin} {Q:PySem.Fin→Shared→Prop} {E:Value→Shared→Prop} {s:Shared} (h:wpAny M A (if q = true then x else pure ()) (fun zz s'=>wpAny M A k Q E s') E s):wpAny M A (if q = true then x >>= fun zz=>k else k) Q E s:=by
  cases q with
  | true=>exact wpAny_bind h
  | false=>exact (pure_bind () fun zz=>k) ▸ wpAny_bind h
private theorem Emit.skip {b:β}:Emit X D sc AccO (fun a env=>if false = true then emit a env else pure ()) L m b b m:=fun env own A c a o R F o1 ac Q E k=>wpAny_pure (k c o (.rf _) F ac)
private theorem PTs.nil:PTs X D sc [] L m true m:=fun env A c T Q E k=>wpAny_tests_nil (k c ⟨.rf _,T.S⟩)
private theorem PTs.one {t:Expr} {b:Bool} (h:PT X D sc t L m b mF):PTs X D sc [t] L m b mF:=fun env A c T Q E k=>wpAny_tests_one (h env A c T Q E k)
private theorem AccAt.up (mono:Mono AccO) {b:β} {M N:Map} {a:Addr} {o:Obj} (h:AccAt AccO b M a o) (l:M.le0 N) (e:N.h a = some (.pin o)):AccAt AccO b N a o:=⟨e,mono _ _ _ _ h.a l⟩
private theorem compLoop (S:CSpec X e tgt ifs newAcc obj0 emit p) (mono:Mono AccO) {env:Env} {own:List Addr} {itv:Value} {a:Addr} {A:Around} (R:Room A D) (T:Stos names env own) {C M0:Map} (ap:Has env own C) (aC:∃ x,C.h a = some x) (o1:Own1 X env own a) {RR:Result→Shared→Prop}
    (hR:∀ d o,Map.leB (a :: own) C d.M→FS X env sc own d mF L→AccAt AccO bF d.M a o→RR (.ok .next) d.s) {n:Nat} {s:Shared} (h:CInv X D sc names tgt ifs emit env own itv C M0 a AccO L bF mF n s):codeAny (model X.prog X.w) A (.compLoop e 0 itv (.ref a) env) RR s:=by
  refine codeAny_loop (S.quiet _ _ _) (CInv X D sc names tgt ifs emit env own itv C M0 a AccO L bF mF) (fun n s i=>?_) n h
  cases i with
  | @mk c r W b o m hs hn cl F0 =>
    subst hs; subst hn
    refine S.den _ _ _ A _ _ _ (wpAny_noted ?_)
    rw [S.turn]
    refine wpAny_bind (wpAny_standAt (wpAny_bind ?_))
    have ff:=F0.f
    have Wa:W.h a = none:=aC.elim fun x q=>F0.p.v a x q
    cases cl with
    | nil=>exact ff A c _ _ _ R F0.l0 F0.F.S F0.w fun d s=>wpAny_pure (hR d o (F0.p.on F0.l s.l) (F0.F.step ap F0.p F0.w s) (F0.a.up mono (F0.p.l0 F0.w s.l) (s.l.h a _ Wa F0.a.h)))
    | @turn x r b _ L' q m2 b' m3 _ _ ha ht he cl =>
      refine ff A c _ _ _ R F0.l0 F0.F.S F0.w fun v d1 go=>wpAny_bind (go _ _ _ R fun d2 W2 s2 r2 w2 p2 f2=>wpAny_bind ?_)
      have F2:=F0.F.step ap F0.p F0.w s2
      have p3:=p2.pins F0.p F0.l fun b hb=>(List.mem_cons.mp hb).elim (fun e=>e ▸ ⟨_,F0.a.h⟩) fun hb=>(F0.F.ow b hb).1.imp' _ fun zz q=>q
      have a2:=F0.a.up mono (F0.p.l0 F0.w s2.l) (s2.l.h a _ Wa F0.a.h)
      refine ha.a env own A d2 _ v R T F2 r2 _ _ fun d3 l3 F3=>wpAny_bind (ht env A d3 (F3.at' R) _ _ fun d4 g=>?_)
      have l4:=l3.tr (g.l.b own)
      have a4:=a2.up mono (F2.l0 l4) (l4.h a _ o1.no a2.h)
      refine jp_if (he env own A d4 a o R (F3.keep g.l g.h) o1 a4 _ _ fun d5 o5 l5 F5 a5=>?_)
      have lz:d4.M.le0 d5.M:=fun b x e n=>l5.h b x (fun hb=>by rw [List.mem_singleton.mp hb,a4.h] at e; cases e; exact n o rfl) e
      have l6:Map.leB (a :: own) d2.M d5.M:=⟨fun b x n e=>l5.h b x (fun q=>n (by rw [List.mem_singleton.mp q]; exact List.mem_cons_self)) (l4.h b x (fun q=>n (List.mem_cons_of_mem _ q)) e),fun i x e=>l5.g i x (l4.g i x e)⟩
      exact wpAny_pure ⟨rfl,_,Nat.lt_succ_self _,.mk rfl rfl cl ⟨(F0.p.on F0.l s2.l).tr l6,
        fun b x e n=>lz b x (F2.l0 l4 b x ((F0.p.l0 F0.w s2.l) b x (F0.l0 b x e n) n) n) n,F5.weak ha.s,⟨fun b x e=>l6.h b x (fun hb=>(List.mem_cons.mp hb).elim (fun q=>by rw [q] at e; rw [aC.elim fun x q=>p3.v a x q] at e; cases e) fun hb=>(ap.o b hb).elim fun y q=>by rw [p3.v b y q] at e; cases e) (w2.h b x e),fun i x e=>l6.g i x (w2.g i x e)⟩,p3,f2,a5⟩⟩
private theorem compBlock (S:CSpec X e tgt ifs newAcc obj0 emit p) (mono:Mono AccO) {scope:Scope} {b0:β} {xs:List AV} {m1:Mem} (a0:∀ M,AccO b0 M obj0) (ok:CompOk sc scope.names) (hk:scope.kind = .function) (hi:PI X D sc tgt iter L m xs m1)
    (cl:CL X D (relN sc scope.names) scope.names tgt ifs (seen scope.names L) AccO emit xs b0 m1 bF mF) {env:Env} {A:Around} {c:Cf} (T:At X D sc env A c L m) {RR:Value→Addr→Result→Shared→Prop} {E:Value→Shared→Prop}
    (hR:∀ a C d o oC,c.M.le d.M→Hp X d mF→AccAt AccO bF d.M a o→d.M.h C = some (.pin oC)→(∃ f,d.s.heap.Ns C f)→a ≠ C→c.M.h a = none→c.M.h C = none→X.B.h a = none→X.B.h C = none→(∀ x b,env.cells.lookup x = some b→b ≠ C)→RR (.ref a) C (.ok .next) d.s) :
    wpAny (model X.prog X.w) A (eval iter env) (fun x s₁=>wpAny (model X.prog X.w) A (pyIter x) (fun it s₂=>wpAny (model X.prog X.w) A newAcc (fun acc s₃ =>
      wpAny (model X.prog X.w) A (newFunctionEnv scope env.globals (closL env.cells scope.names []) [] env.qual none .none (some env)) (fun cenv s₄ =>
        codeAny (model X.prog X.w) A (.compStart e 0 it acc { cenv with scope := relabel scope env }) (RR acc cenv.locals) s₄) E s₃) E s₂) E s₁) E c.s := by
  refine hi env A c T _ _ fun itv d W it=>S.new A _ _ _ (newCompEnv ?_)
  dsimp only
  have ha:=it.h.top
  have ac:=it.h.newPin obj0 S.live d.s.toks
  have la:=Map.le_set (.pin obj0) ha
  obtain ⟨fr,F⟩:=compEnter (scope:=scope) (c:=⟨{ d.s with heap:=d.s.heap.push obj0,toks:=d.s.toks },d.M.set d.s.heap.objs.size (.pin obj0)⟩) ok (T.N.up (it.l.tr la)) ac hk _ rfl
  have hsz:(d.s.heap.push obj0).objs.size = d.s.heap.objs.size + 1:=Heap.size_push ..
  generalize hown:compOwn scope (d.s.heap.push obj0).objs.size = own at fr F
  have lp:=Map.le_pins (own:=own) (h:=compHeap scope (d.s.heap.push obj0)) fun a ha=>(fr a ha).2
  have dn:∀ b∈own,d.M.h b = none:=fun b hb=>by
    cases e:d.M.h b with
    | none=>rfl
    | some x=>have:=la.h _ _ e; rw [(fr b hb).2] at this; cases this
  have cn:∀ b x,c.M.h b = some x→b ∉ own∧b ≠ d.s.heap.objs.size:=fun b x e=>⟨fun hb=>(by have:=it.l.h _ _ e; rw [dn b hb] at this; cases this),fun q=>(by have:=it.l.h _ _ e; rw [q,ha] at this; cases this)⟩
  have Wn:∀ b,d.M.h b = none→W.h b = none:=fun b h=>by
    cases e:W.h b with
    | none=>rfl
    | some x=>have:=it.w.h _ _ e; rw [h] at this; cases this
  have M3a:=Map.pins_out (h:=compHeap scope (d.s.heap.push obj0)) (M:=d.M.set d.s.heap.objs.size (.pin obj0)) (own:=own) (a:=d.s.heap.objs.size)
  generalize (d.M.set d.s.heap.objs.size (.pin obj0)).pins (compHeap scope (d.s.heap.push obj0)) own = M3 at F lp M3a
  have no:d.s.heap.objs.size ∉ own:=fun h=>absurd (fr _ h).1 (by show ¬ (d.s.heap.push obj0).objs.size≤_; rw [hsz]; exact Nat.not_succ_le_self _)
  have mem:∀ x b,(compEnv scope env (d.s.heap.push obj0).objs.size).cells.lookup x = some b→b∈own∨∃ y,c.M.h b = some y:=fun x b h=>(comp_cells_mem (mem_of_lookup h)).imp (fun h=>hown ▸ List.mem_cons_of_mem _ (List.mem_map_of_mem (f:=(·.2)) h)) fun h=>(T.N.cel x b h.2).elim fun o q=>q.elim (fun q=>⟨_,q⟩) fun q=>⟨_,q⟩
  have hC0:(d.s.heap.push obj0).objs.size∈own:=hown ▸ List.mem_cons_self
  have keepC:∀ b x,c.M.h b = some x→(M3.sub W).h b = some x:=fun b x e=>(Map.sub_h (it.p.v b x e)).trans (lp.h _ _ (la.h _ _ (it.l.h _ _ e)))
  have loop:=compLoop (names:=scope.names) (itv:=itv) (a:=d.s.heap.objs.size) (M0:=d.M) (C:=M3.sub W) (RR:=RR (.ref d.s.heap.objs.size) (d.s.heap.push obj0).objs.size) S mono T.R (hown ▸ compStos ok (T.N.up (it.l.tr la)) _)
    ⟨fun b hb=>(F.ow b hb).1.elim fun o e=>⟨_,(Map.sub_h (Wn b (dn b hb))).trans e⟩,fun n b h=>(mem n b h).elim (fun hb=>(F.ow b hb).1.elim fun o e=>⟨_,(Map.sub_h (Wn b (dn b hb))).trans e⟩) fun q=>q.imp fun y e=>keepC b y e⟩
    ⟨_,(Map.sub_h (Wn _ ha)).trans ((M3a no).trans (Map.set_at _ _ _))⟩ ⟨no,fun x h=>(mem x _ h).elim no fun ⟨y,e⟩=>(cn _ _ e).2 rfl,it.h.btop⟩
    (fun d' o l' F' a'=>(F'.ow _ hC0).1.elim fun oC hC=>hR _ _ d' o oC ⟨fun b x e=>l'.h b x (fun hb=>(List.mem_cons.mp hb).elim (cn b x e).2 (cn b x e).1) (keepC b x e),fun i x e=>l'.g i x ((Map.sub_g (it.p.g i x e)).trans (lp.g _ _ (la.g _ _ (it.l.g _ _ e))))⟩
      F'.S a' hC F'.ns (by rw [hsz]; exact Nat.ne_of_lt (Nat.lt_succ_self _)) (by
        cases e:c.M.h d.s.heap.objs.size with
        | none=>rfl
        | some x=>exact absurd rfl (cn _ _ e).2) (by
        cases e:c.M.h (d.s.heap.push obj0).objs.size with
        | none=>rfl
        | some x=>exact absurd hC0 (cn _ _ e).1) it.h.btop (F'.ow _ hC0).2 fun x b h q=>(T.N.cel x b h).elim fun o e=>e.elim (fun e=>(cn _ _ e).1 (q ▸ hC0)) fun e=>(cn _ _ e).1 (q ▸ hC0))
    (.mk (c:=⟨{ d.s with heap:=compHeap scope (d.s.heap.push obj0) },M3⟩) rfl rfl cl ⟨⟨fun b x zz e=>Map.sub_le.h b x e,fun i x e=>Map.sub_le.g i x e⟩,(la.tr lp).l0,F,(it.w.tr la).tr lp,⟨it.p.p,fun b x e=>Map.sub_W e,fun i x e=>Map.sub_Wg e⟩,it.f,⟨(M3a no).trans (Map.set_at _ _ _),a0 _⟩⟩)
  exact S.start A _ _ itv _ _ loop (it.self A ⟨{ d.s with heap:=compHeap scope (d.s.heap.push obj0) },M3⟩ _ _ _ ((it.w.tr la).tr lp) F.S loop)
end
end
section
open PySem PySem.W PyProof.Rows PySem.Calls PySem.SeqAt
noncomputable def AccL (ys:List AV) (M:Map) (o:Obj):Prop:=∃ ws n,o = lo ws n∧Reps M ys ws
noncomputable def emitL (elt:Expr) (a:Addr) (env:Env):Sem Unit:=do let _ ← call (.builtin "list.append") [.ref a,← eval elt env]
private theorem AccL.mono:Mono AccL:=fun zz zz zz zz h l=>h.imp fun zz h=>h.imp fun zz h=>⟨h.1,h.2.up0 l⟩
section
variable {X:Amb} {D:Nat} {sc:Names} {L:Lc} {m m1 m2 mF:Mem} {tgt iter elt:Expr} {ifs:List Expr} {scope:Scope} {pos p p':Pos} {P:RP} {rest:List Stmt}
private theorem FS.acc {env:Env} {own:List Addr} {c:Cf} {a:Addr} {o o':Obj} {h':Heap} {tk:Nat} (F:FS X env sc own c m L) (o1:Own1 X env own a) (ha:c.M.h a = some (.pin o)) (hs:∀ b q,b ≠ a→c.s.heap.get? b = some q→h'.get? b = some q) (ho:h'.get? a = some o') :
    FS X env sc own ⟨{ c.s with heap:=h',toks:=tk },c.M.set a (.pin o')⟩ m L :=
  F.keepB (d:=⟨{ c.s with heap:=h',toks:=tk },c.M.set a (.pin o')⟩) (Map.set_le0 _ ha) (fun b hb x e=>(Map.set_ne _ _ fun (q:b = a)=>o1.no (q ▸ hb)).trans e) (fun n b hb x e=>(Map.set_ne _ _ fun (q:b = a)=>o1.ce n (q ▸ hb)).trans e)
    (F.S.put (fun y e n=>by rw [ha] at e; cases e; exact absurd rfl (n o)) (fun y e=>by rw [o1.b] at e; cases e) hs (fun zz zz zz zz=>rfl) nofun (.pin ho))
private theorem Map.set_leB {M:Map} {a:Addr} (x:Cel):Map.leB [a] M (M.set a x):=.set x List.mem_cons_self
private theorem emit_list {y:AV} {ys:List AV} (h:PE X D sc elt L m y m1) (hz:ys.length≤2 ^ 23):Emit X D sc AccL (fun a env=>if true = true then emitL elt a env else pure ()) L m ys (ys++[y]) m1:=fun env own A c a o R FF o1 ac Q E k =>
  wpAny_bind (h env A c (FF.at' R) _ _ fun v d g=>wpAny_bind (by
    obtain ⟨ws,n,rfl,ra⟩:=ac.a
    have ha:=g.l.h _ _ ac.h
    have h1:=g.h.pin ha
    have ra:=ra.up g.l
    refine call_meets F.slot_list_append ⟨_,h1,rfl⟩ F.entry_list_append (F.args_list_append_2 _ _) (PySem.list_append _ ws.toArray n _ (le24 (ra.sz hz))) ⟨h1,wpAny_pure ?_⟩
    have h2:=IsL.update (h:=d.s.heap) (l:=a) (items:=ws.toArray) (n:=n) h1 (fun xs=>xs.push v)
    exact k ⟨{ d.s with heap:=_,toks:=d.s.toks },_⟩ _ ⟨fun b x n e=>Map.set_leB _ |>.h b x n (g.l.h b x e),fun i x e=>g.l.g i x e⟩ ((FF.keep g.l g.h).acc o1 ha (fun b q hb e=>((Heap.SameBut.update ..).2 b hb).trans e) h2)
      ⟨Map.set_at _ _ _,ws++[v],_,(by rw [List.push_toArray]),(ra.app (.one g.r)).up0 (Map.set_le0 _ ha)⟩))
private theorem specL:CSpec X (.ListComp elt [⟨tgt,iter,ifs,0⟩] scope pos) tgt ifs (newList []) (lo []) (emitL elt) iter.pos where
  turn:=fun itv a env=>compTurn_list elt tgt iter ifs scope pos itv (.ref a) env
  den:=fun itv a env A Q E s h=>h
  quiet:=fun zz zz zz=>rfl
  start:=fun A R s it a env h0 h=>codeAny_compStart_list h0 h
  new:=fun A Q E s h=>wpAny_newObj_type h
  live:=rfl
private theorem CompOk.names {names:Names} (ok:CompOk sc names):∀ y∈names,y.2 = .local→names.lookup y.1 = some .local:=fun y hy h=>lookup_mem ok.nd (h ▸ hy)
private theorem Sep.done {s:Shared} {M:Map} {a C:Addr} {o oC:Obj} {h':Heap} (S:Sep X s M m) (ha:M.h a = some (.pin o)) (hb:X.B.h a = none) (hC:M.h C = some (.pin oC)) (hbC:X.B.h C = none) (ne:a ≠ C) (hs:Heap.SameBut C s.heap h'):Sep X { s with heap:=h' } ((M.set a (.frz o)).del C) m :=
  (S.put (x:=.frz o) (h':=s.heap) (tk:=s.toks) (mem':=m) (fun y e n=>by rw [ha] at e; cases e; exact absurd rfl (n o)) (fun y e=>by rw [hb] at e; cases e) (fun zz zz zz e=>e) (fun zz zz zz zz=>rfl) nofun (.frz (S.pin ha))).del (tk:=s.toks) ((Map.set_ne _ _ ne.symm).trans hC) hbC fun b o hb e=>(hs.2 b hb).trans e
private theorem Map.done_le {M N:Map} {a C:Addr} {x:Cel} (l:M.le N) (ha:M.h a = none) (hC:M.h C = none):M.le ((N.set a x).del C) :=
  ⟨fun b y e=>(Map.del_ne _ fun q=>by rw [q,hC] at e; cases e).trans ((Map.set_ne _ _ fun q=>by rw [q,ha] at e; cases e).trans (l.h b y e)),l.g⟩
private theorem Map.del_le0 {M:Map} {a:Addr} {o:Obj} (h:M.h a = some (.pin o)):M.le0 (M.del a):=fun b x e n=>by
  rw [Map.del_ne _ fun q=>by rw [q,h] at e; cases e; exact n _ rfl]; exact e
private theorem Map.done_le0 {M:Map} {a C:Addr} {x:Cel} {o oC:Obj} (ha:M.h a = some (.pin o)) (hC:M.h C = some (.pin oC)) (ne:a ≠ C):M.le0 ((M.set a x).del C):=fun b y e n=>Map.del_le0 ((Map.set_ne _ _ ne.symm).trans hC) b y (Map.set_le0 x ha b y e n) n
structure CNames (sc:Names) (scope:Scope) (iter:Expr) (L:Lc):Prop where
  ok:CompOk sc scope.names
  kind:scope.kind = .function
  seen:seenOk scope.names L = true
  set:∀ env x,foldedSetIterable iter env x = pure x
private theorem CNames.mk' (h:(compOkB sc scope.names && (scope.kind == .function && seenOk scope.names L)) = true) (set:∀ env x,foldedSetIterable iter env x = pure x):CNames sc scope iter L:=by
  rw [Bool.and_eq_true,Bool.and_eq_true] at h
  exact ⟨compOk h.1,beq_iff_eq.mp h.2.1,h.2.2,set⟩
private theorem PE.lc {xs ys:List AV} (n:CNames sc scope iter L) (hi:PI X D sc tgt iter L m xs m1) (cl:CL X D (relN sc scope.names) scope.names tgt ifs (seen scope.names L) AccL (emitL elt) xs [] m1 ys mF):PE X D sc (.ListComp elt [⟨tgt,iter,ifs,0⟩] scope pos) L m (.lst ys) mF:=fun env A c T Q E k=>by
  rw [eval_ListComp]
  refine wpAny_comprehension_free (use:=Option.none) rfl (n.set env) (closureFor_eq fun x hx=>seen_cells n.ok T.N n.seen hx) n.kind n.ok.names (compBlock (RR:=fun acc C=>compPost (model X.prog X.w) A E Option.none Q acc C) (specL (pos:=pos)) AccL.mono (fun zz=>⟨[],0,rfl,.nil⟩) n.ok n.kind hi cl T ?_)
  intro a C d o oC l S ac hC ns ne na nC ba bC _
  refine ns.imp fun f hf=>⟨hf,fun h' hs=>?_⟩
  obtain ⟨ws,j,rfl,ra⟩:=ac.a
  exact k _ ⟨{ d.s with heap:=h' },_⟩ ⟨Map.done_le l na nC,S.done ac.h ba hC bC ne hs,.lstOf ((Map.del_ne _ ne).trans (Map.set_at _ _ _)) (ra.up0 (Map.done_le0 ac.h hC ne))⟩
private theorem W.lcSwap {x:Str} {xs ys:List AV} (n:CNames sc scope iter L) (hi:PI X D sc tgt iter L m xs m1) (cl:CL X D (relN sc scope.names) scope.names tgt ifs (seen scope.names L) AccL (emitL elt) xs [] m1 ys mF)
    (hsw:∀ env:Env,NmR env.scope.names sc→env.scope.kind = .function→swapsWith (.ListComp elt [⟨tgt,iter,ifs,0⟩] scope pos) (some (.Name x p')) p.line env = pure true) (hx:okB sc x = true) (h:W X D sc rest ((x,.lst ys) :: L) mF P) :
    W X D sc (.Assign [.Name x p'] (.ListComp elt [⟨tgt,iter,ifs,0⟩] scope pos) p :: rest) L m P:=.seq fun env own A c T Q E k=>by
  rw [exec_Assign_Name_used _ _ _ _ (hsw env T.F.N.names T.F.N.kind)]
  refine wpAny_bind (wpAny_standAt (wpAny_bind ?_))
  show wpAny _ A (do let _ ← comprehension (.ListComp elt [⟨tgt,iter,ifs,0⟩] scope pos) scope env _ (newList []) false (eval iter env) (some (assign (.Name x p') env))) _ _ c.s
  refine wpAny_bind (wpAny_mono (wpAny_comprehension_free (use:=some (assign (.Name x p') env)) (Q:=fun zz s'=>Q .next s') rfl (n.set env) (closureFor_eq fun x hx=>seen_cells n.ok T.F.N n.seen hx) n.kind n.ok.names
    (compBlock (RR:=fun acc C=>compPost (model X.prog X.w) A E (some (assign (.Name x p') env)) (fun zz s'=>Q .next s') acc C) (specL (pos:=pos)) AccL.mono (fun zz=>⟨[],0,rfl,.nil⟩) n.ok n.kind hi cl (T.F.at' T.R) ?_)) (fun zz s' hq=>wpAny_pure (wpAny_pure hq)) fun zz zz e=>e)
  intro a C d o oC l S ac hC ns ne na nC ba bC ceC
  obtain ⟨ws,j,rfl,ra⟩:=ac.a
  have no:∀ b∈own,b ≠ a∧b ≠ C:=fun b hb=>(T.F.ow b hb).1.elim fun o e=>⟨fun q=>(by rw [q,na] at e; cases e),fun q=>(by rw [q,nC] at e; cases e)⟩
  have la:c.M.le (d.M.set a (.frz (lo ws j))):=⟨fun b y e=>(Map.set_ne _ _ fun q=>by rw [q,na] at e; cases e).trans (l.h b y e),l.g⟩
  have S1:Sep X d.s (d.M.set a (.frz (lo ws j))) mF:=S.put (x:=.frz (lo ws j)) (h':=d.s.heap) (tk:=d.s.toks) (mem':=mF) (fun y e n=>by rw [ac.h] at e; cases e; exact absurd rfl (n _)) (fun y e=>by rw [ba] at e; cases e) (fun zz zz zz e=>e) (fun zz zz zz zz=>rfl) nofun (.frz (S.pin ac.h))
  have F1:=T.F.keep (d:=⟨d.s,d.M.set a (.frz (lo ws j))⟩) la S1
  have hC1:(d.M.set a (.frz (lo ws j))).h C = some (.pin oC):=(Map.set_ne _ _ ne.symm).trans hC
  show wpAny _ A (assign (.Name x p') env (.ref a)) _ _ _
  refine wpAny_assign_Name (F1.store (T.T x (nameOk hx)) (.lstOf (Map.set_at _ _ _) (ra.up0 (Map.set_le0 _ ac.h))) fun e l2 F2=>?_)
  have hC2:=l2.h C _ (fun h=>(no C h).2 rfl) hC1
  obtain ⟨f,o',es,ep,q1,q2⟩:=ns
  cases (S.pin hC).symm.trans q1
  refine ⟨f,⟨_,es,ep,F2.S.pin hC2,q2⟩,fun h' hs=>?_⟩
  have l3:Map.leB own c.M (e.M.del C):=⟨fun b y nb q=>(Map.del_ne _ fun z=>by rw [z,nC] at q; cases q).trans (l2.h b y nb (la.h b y q)),fun i y q=>l2.g i y (la.g i y q)⟩
  exact k _ ⟨{ e.s with heap:=h' },e.M.del C⟩ .next _ _ ⟨l3,F2.keepB (d:=⟨{ e.s with heap:=h' },e.M.del C⟩) (Map.del_le0 hC2) (fun b hb y q=>(Map.del_ne _ (no b hb).2).trans q) (fun i b hb y q=>(Map.del_ne _ (ceC i b hb)).trans q) (F2.S.del (tk:=e.s.toks) hC2 bC fun b o hb q=>(hs.2 b hb).trans q),.next,h⟩
end
end
section
open PySem PySem.W PyProof.Rows PySem.Calls PySem.SeqAt
section
variable {kvs:List (Int × Value)} {ks:List (Int × Int)} {k v:Int} {t:Tok}
end
section
variable {X:Amb} {D:Nat} {sc:Names} {L:Lc} {m m1 m2 mF:Mem} {tgt iter kx vx:Expr} {ifs:List Expr} {scope:Scope} {pos:Pos}
end
end
section
open PySem PySem.W PyProof.Rows PySem.Calls PySem.SeqAt
set_option backward.match.sparseCases false
noncomputable def notStar:Expr→Bool
  | .Starred _ _=>false
  | _=>true
noncomputable def notCall:Expr→Bool
  | .Call _ _ _ _=>false
  | _=>true
noncomputable def plainL (es:List Expr):Bool:=es.all notStar && decide (es.length < 29)
section
variable (X:Amb) (D:Nat)
noncomputable def Fn (x:Str) (m:Mem) (avs:List AV) (r:AV) (m':Mem):Prop :=
  ∀ (sc:Names) (L:Lc) (m0:Mem) (p:Pos) (es:List Expr) (pos:Pos),sc.lookup x = some .globalImplicit→PA X D sc es L m0 avs m→PE X D sc (.Call (.Name x p) es [] pos) L m0 r m'
noncomputable def FnV (f:AV) (m:Mem) (avs:List AV) (r:AV) (m':Mem):Prop :=
  ∀ (sc:Names) (L:Lc) (m0:Mem) (x:Str) (p:Pos) (es:List Expr) (pos:Pos),L.lookup x = some f→PA X D sc es L m0 avs m→PE X D sc (.Call (.Name x p) es [] pos) L m0 r m'
noncomputable def Mt (name:Str) (m1 m2:Mem) (a:AV) (avs:List AV) (r:AV) (m3:Mem):Prop :=
  ∀ (sc:Names) (L:Lc) (m:Mem) (o:Expr) (es:List Expr) (apos pos:Pos),(∀ env,attributeBase o name env (eval o env) = eval o env)→Few es pos→(apos.endLine == pos.line) = true→PE X D sc o L m a m1→PA X D sc es L m1 avs m2→PE X D sc (.Call (.Attribute o name apos) es [] pos) L m r m3
noncomputable def GloV (x:Str) (av:AV):Prop:=∃ v,Glo X.B x v∧∀ M,X.B.le M→Rep M av v
end
structure Cx where
  X:Amb
  D:Nat
  sc:Names
  mu:List Nat
noncomputable def bd (x:Str) (v:AV) (L:Lc):Lc:=(x,v) :: L
noncomputable def sn (m:Mem) (x:AObj):Mem:=m++[x]
inductive IsV {α:Type} (v:α) (m:Mem):α→Mem→Prop
  | mk:IsV v m v m
section
variable (G:Cx)
inductive BinK (op:Value→Value→Sem Value) (m:Mem) (x y:AV) (K:AV→Prop):Prop
  | mk {r}:Bin G.X G.D op m x y r→K r→BinK op m x y K
inductive BinKM (op:Value→Value→Sem Value) (m:Mem) (x y:AV) (K:AV→Mem→Prop):Prop
  | mk {r m3}:BinM G.X G.D op m x y r m3→K r m3→BinKM op m x y K
inductive BinT (op:Value→Value→Sem Value) (m:Mem) (x y:AV) (K:Bool→Prop):Prop
  | mk {b}:Bin G.X G.D op m x y (.bool b)→K b→BinT op m x y K
inductive UnK (op:Value→Sem Value) (m:Mem) (x:AV) (K:AV→Prop):Prop
  | mk {r}:Un G.X G.D op m x r→K r→UnK op m x K
inductive TruK (m:Mem) (x:AV) (K:Bool→Prop):Prop
  | mk {b}:Tru G.X m x b→K b→TruK m x K
inductive SubK (m:Mem) (x y:AV) (K:AV→Prop):Prop
  | mk {r}:Sub G.X G.D m x y r→K r→SubK m x y K
inductive SlcK (m:Mem) (l u st:Option Int) (x:AV) (K:AV→Prop):Prop
  | mk {r}:Slc G.X m l u st x r→K r→SlcK m l u st x K
inductive FnK (x:Str) (m:Mem) (xs:List AV) (K:AV→Mem→Prop):Prop
  | mk {r m2}:Fn G.X G.D x m xs r m2→K r m2→FnK x m xs K
inductive FnVK (f:AV) (m:Mem) (xs:List AV) (K:AV→Mem→Prop):Prop
  | mk {r m2}:FnV G.X G.D f m xs r m2→K r m2→FnVK f m xs K
inductive MtK (name:Str) (m1 m2:Mem) (a:AV) (xs:List AV) (K:AV→Mem→Prop):Prop
  | mk {r m3}:Mt G.X G.D name m1 m2 a xs r m3→K r m3→MtK name m1 m2 a xs K
inductive GloK (x:Str) (K:AV→Prop):Prop
  | mk {av}:GloV G.X x av→K av→GloK x K
end
inductive IfE (q:Bool) (A B K:AV→Mem→Prop):Prop
  | mk (v m):(q = true→A v m)→(q = false→B v m)→K v m→IfE q A B K
inductive AndK (a:Bool) (A K:Bool→Prop):Prop
  | mk {b}:(a = true→A b)→K (a && b)→AndK a A K
inductive OrK (a:Bool) (A K:Bool→Prop):Prop
  | mk {b}:(a = false→A b)→K (a || b)→OrK a A K
inductive IfS (q:Bool) (A B:Prop):Prop
  | mk:(q = true→A)→(q = false→B)→IfS q A B
inductive NoneK (A:Prop):AV→Prop
  | mk:A→NoneK A .none
private theorem IfS.d {p:Prop} [Decidable p] {A B:Prop} (h:p→A) (k:¬ p→B):IfS (decide p) A B:=⟨fun e=>h (of_decide_eq_true e),fun e=>k (of_decide_eq_false e)⟩
private theorem IfS.n {p:Prop} [Decidable p] {A B:Prop} (h:¬ p→A) (k:p→B):IfS (!decide p) A B:=⟨fun e=>h (of_decide_eq_false (by rw [← Bool.not_not (decide p),e]; rfl)),fun e=>k (of_decide_eq_true (by rw [← Bool.not_not (decide p),e]; rfl))⟩
private theorem IfS.t {q:Bool} {A B:Prop} (e:q = true) (h:A):IfS q A B:=⟨fun zz=>h,fun e'=>by rw [e] at e'; cases e'⟩
private theorem IfS.f {q:Bool} {A B:Prop} (e:q = false) (h:B):IfS q A B:=⟨fun e'=>(by rw [e] at e'; cases e'),fun zz=>h⟩
noncomputable def toI:AV→Option Int
  | .int i=>some i
  | _=>none
noncomputable def i2 (op:Operator) (a b:Int):Option Int:=match op with
  | .Add=>some (a + b)
  | .Sub=>some (a - b)
  | _=>none
noncomputable def c2 (op:CmpOp) (a b:Int):Option Bool:=match op with
  | .Lt=>some (decide (a < b))
  | .LtE=>some (decide (a≤b))
  | .Gt=>some (decide (b < a))
  | .Eq=>some (decide (a = b))
  | .NotEq=>some (!decide (a = b))
  | _=>none
noncomputable def on2 {α:Type} (f:Int→Int→Option α) (x y:AV):Option α:=(toI x).elim none fun a=>(toI y).elim none fun b=>f a b
section
variable (G:Cx)
noncomputable def binP (op:Operator) (m:Mem) (x y:AV) (K:AV→Prop):Prop:=(on2 (i2 op) x y).elim (BinK G (binaryOp op) m x y K) fun c=>K (.int c)
noncomputable def iopP (op:Operator) (m:Mem) (x y:AV) (K:AV→Prop):Prop:=(on2 (i2 op) x y).elim (BinK G (inplaceOp op) m x y K) fun c=>K (.int c)
noncomputable def cmpP (op:CmpOp) (m:Mem) (x y:AV) (K:AV→Prop):Prop:=(on2 (c2 op) x y).elim (BinK G (compareOp op) m x y K) fun c=>K (.bool c)
noncomputable def cmpT (op:CmpOp) (m:Mem) (x y:AV) (K:Bool→Prop):Prop:=(on2 (c2 op) x y).elim (BinT G (compareOp op) m x y K) K
noncomputable def t1:AV→Option Bool
  | .bool b=>some b
  | .int i=>some (i != 0)
  | .none=>some false
  | _=>none
noncomputable def truP (m:Mem) (x:AV) (K:Bool→Prop):Prop:=(t1 x).elim (TruK G m x K) K
noncomputable def isGlo (sc:Names) (x:Str):Bool:=sc.lookup x == some .globalImplicit
noncomputable def okM (o:Expr) (es:List Expr) (apos pos:Pos):Bool:=plainL es && (notCall o && (apos.endLine == pos.line))
noncomputable def nilL:List Expr→Bool
  | []=>true
  | _=>false
noncomputable def OkE (e:Expr) (L:Lc) (m:Mem) (K:AV→Mem→Prop):Prop:=∃ v m',PE G.X G.D G.sc e L m v m'∧K v m'
noncomputable def OkT (e:Expr) (L:Lc) (m:Mem) (K:Bool→Mem→Prop):Prop:=∃ b m',PT G.X G.D G.sc e L m b m'∧K b m'
noncomputable abbrev EvE:=Expr→Lc→Mem→(AV→Mem→Prop)→Prop
noncomputable abbrev EvL:=List Expr→Lc→Mem→(List AV→Mem→Prop)→Prop
noncomputable def kR (K:AV→Mem→Prop) (m:Mem) (r:AV):Prop:=K r m
noncomputable def kQ (K:Bool→Mem→Prop) (m:Mem) (r:Bool):Prop:=K r m
noncomputable def kB2 (op:Operator) (p:Pos) (K:AV→Mem→Prop) (x y:AV) (m2:Mem):Prop:=cond (decide (p.line + 100000∈G.mu)) (BinKM G (binaryOp op) m2 x y K) (binP G op m2 x y (kR K m2))
noncomputable def kB1 (ev:EvE) (op:Operator) (b:Expr) (p:Pos) (L:Lc) (K:AV→Mem→Prop) (x:AV) (m1:Mem):Prop:=ev b L m1 (kB2 G op p K x)
noncomputable def kU (op:UnaryOp) (K:AV→Mem→Prop) (x:AV) (m1:Mem):Prop:=UnK G (unaryOp op) m1 x (kR K m1)
noncomputable def kC2 (op:CmpOp) (K:AV→Mem→Prop) (x y:AV) (m2:Mem):Prop:=cmpP G op m2 x y (kR K m2)
noncomputable def kC1 (ev:EvE) (op:CmpOp) (b:Expr) (L:Lc) (K:AV→Mem→Prop) (x:AV) (m1:Mem):Prop:=ev b L m1 (kC2 G op K x)
noncomputable def kIv (ev:EvE) (a:Expr) (L:Lc) (m1:Mem) (v:AV) (m':Mem):Prop:=ev a L m1 (IsV v m')
noncomputable def kIf (ev:EvE) (a b:Expr) (L:Lc) (K:AV→Mem→Prop) (q:Bool) (m1:Mem):Prop:=IfE q (kIv ev a L m1) (kIv ev b L m1) K
noncomputable def kTu (K:AV→Mem→Prop) (xs:List AV) (m1:Mem):Prop:=K (.tup xs) m1
noncomputable def kLi (p:Pos) (es:List Expr) (K:AV→Mem→Prop) (xs:List AV) (m1:Mem):Prop:=cond (decide (p.line∈G.mu) || nilL es) (K (.mref m1.length) (sn m1 (.lst xs))) (K (.lst xs) m1)
noncomputable def kP (K:Option Int→Mem→Prop) (x:AV) (m1:Mem):Prop:=(toI x).elim False fun i=>K (some i) m1
noncomputable abbrev EvP:=Option Expr→Lc→Mem→(Option Int→Mem→Prop)→Prop
noncomputable def kS3 (K:AV→Mem→Prop) (x:AV) (i1 i2:Option Int) (m3:Mem):Prop:=SlcK G m3 i1 i2 none x (kR K m3)
noncomputable def kS2 (ev:EvP) (u:Option Expr) (L:Lc) (K:AV→Mem→Prop) (x:AV) (i1:Option Int) (m2:Mem):Prop:=ev u L m2 (kS3 G K x i1)
noncomputable def kS1 (ev:EvP) (l u:Option Expr) (L:Lc) (K:AV→Mem→Prop) (x:AV) (m1:Mem):Prop:=ev l L m1 (kS2 G ev u L K x)
noncomputable def kZ4 (K:AV→Mem→Prop) (x:AV) (i1 i2:Option Int) (s:AV) (m4:Mem):Prop:=(toI s).elim False fun k=>SlcK G m4 i1 i2 (some k) x (kR K m4)
noncomputable def kZ3 (ee:EvE) (st:Expr) (L:Lc) (K:AV→Mem→Prop) (x:AV) (i1 i2:Option Int) (m3:Mem):Prop:=ee st L m3 (kZ4 G K x i1 i2)
noncomputable def kZ2 (ee:EvE) (ev:EvP) (u:Option Expr) (st:Expr) (L:Lc) (K:AV→Mem→Prop) (x:AV) (i1:Option Int) (m2:Mem):Prop:=ev u L m2 (kZ3 G ee st L K x i1)
noncomputable def kZ1 (ee:EvE) (ev:EvP) (l u:Option Expr) (st:Expr) (L:Lc) (K:AV→Mem→Prop) (x:AV) (m1:Mem):Prop:=ev l L m1 (kZ2 G ee ev u st L K x)
noncomputable def kX2 (K:AV→Mem→Prop) (x y:AV) (m2:Mem):Prop:=SubK G m2 x y (kR K m2)
noncomputable def kX1 (ev:EvE) (b:Expr) (L:Lc) (K:AV→Mem→Prop) (x:AV) (m1:Mem):Prop:=ev b L m1 (kX2 G K x)
noncomputable def kCa (L:Lc) (x:Str) (K:AV→Mem→Prop) (xs:List AV) (m1:Mem):Prop:=(L.lookup x).elim (cond (isGlo G.sc x) (FnK G x m1 xs K) False) fun f=>FnVK G f m1 xs K
noncomputable def kA2 (name:Str) (m1:Mem) (a:AV) (K:AV→Mem→Prop) (xs:List AV) (m2:Mem):Prop:=MtK G name m1 m2 a xs K
noncomputable def kA1 (evs:EvL) (name:Str) (es:List Expr) (L:Lc) (K:AV→Mem→Prop) (a:AV) (m1:Mem):Prop:=evs es L m1 (kA2 G name m1 a K)
noncomputable def kE2 (K:List AV→Mem→Prop) (x:AV) (xs:List AV) (m2:Mem):Prop:=K (x :: xs) m2
noncomputable def kE1 (evs:EvL) (es:List Expr) (L:Lc) (K:List AV→Mem→Prop) (x:AV) (m1:Mem):Prop:=evs es L m1 (kE2 K x)
noncomputable def kN (K:Bool→Mem→Prop) (b:Bool) (m1:Mem):Prop:=K (!b) m1
noncomputable def kD2 (op:CmpOp) (K:Bool→Mem→Prop) (x y:AV) (m2:Mem):Prop:=cmpT G op m2 x y (kQ K m2)
noncomputable def kD1 (ev:EvE) (op:CmpOp) (b:Expr) (L:Lc) (K:Bool→Mem→Prop) (x:AV) (m1:Mem):Prop:=ev b L m1 (kD2 G op K x)
noncomputable def kV (K:Bool→Mem→Prop) (v:AV) (m1:Mem):Prop:=truP G m1 v (kQ K m1)
noncomputable abbrev EvB:=BoolOp→List Expr→Lc→Mem→(Bool→Mem→Prop)→Prop
noncomputable def kBv (ev:EvB) (op:BoolOp) (es:List Expr) (L:Lc) (m1:Mem) (b:Bool):Prop:=ev op es L m1 (IsV b m1)
noncomputable def kBo (ev:EvB) (op:BoolOp) (es:List Expr) (L:Lc) (K:Bool→Mem→Prop) (a:Bool) (m1:Mem):Prop:=cond (nilL es) (K a m1) (match op with
  | .And=>AndK a (kBv ev .And es L m1) (kQ K m1)
  | .Or=>OrK a (kBv ev .Or es L m1) (kQ K m1))
mutual
noncomputable def wpE:Nat→Expr→Lc→Mem→(AV→Mem→Prop)→Prop
  | 0,e,L,m,K=>OkE G e L m K
  | n + 1,e,L,m,K=>match e with
    | .Constant (.int i) _ _=>K (.int i) m
    | .Constant (.str s) _ _=>K (.str s.cps.toList) m
    | .Constant (.bool b) _ _=>K (.bool b) m
    | .Constant .none _ _=>K .none m
    | .Name x _=>(L.lookup x).elim (cond (isGlo G.sc x) (GloK G x (fun av=>K av m)) False) fun av=>K av m
    | .BinOp a op b p=>wpE n a L m (kB1 G (wpE n) op b p L K)
    | .UnaryOp op a _=>wpE n a L m (kU G op K)
    | .Compare a [op] [b] _=>cond (behindInMarks op b) False (wpE n a L m (kC1 G (wpE n) op b L K))
    | .IfExp t a b _=>wpT n t L m (kIf (wpE n) a b L K)
    | .Tuple es _ _=>cond (plainL es) (wpEs n es L m (kTu K)) False
    | .List es p=>cond (plainL es) (wpEs n es L m (kLi G p es K)) False
    | .Subscript a (.Slice l u none _) _=>wpE n a L m (kS1 G (wpP n) l u L K)
    | .Subscript a (.Slice l u (some st) _) _=>wpE n a L m (kZ1 G (wpE n) (wpP n) l u st L K)
    | .Subscript a b _=>wpE n a L m (kX1 G (wpE n) b L K)
    | .Call (.Name x p) es [] pos=>cond (plainL es) (wpEs n es L m (kCa G L x K)) False
    | .Call (.Attribute o name apos) es [] pos=>cond (okM o es apos pos) (wpE n o L m (kA1 G (wpEs n) name es L K)) False
    | e=>OkE G e L m K
noncomputable def wpEs:Nat→List Expr→Lc→Mem→(List AV→Mem→Prop)→Prop
  | 0,_,_,_,_=>False
  | n + 1,[],_,m,K=>K [] m
  | n + 1,e :: es,L,m,K=>wpE n e L m (kE1 (wpEs n) es L K)
noncomputable def wpP:Nat→Option Expr→Lc→Mem→(Option Int→Mem→Prop)→Prop
  | 0,_,_,_,_=>False
  | n + 1,none,_,m,K=>K none m
  | n + 1,some e,L,m,K=>wpE n e L m (kP K)
noncomputable def wpT:Nat→Expr→Lc→Mem→(Bool→Mem→Prop)→Prop
  | 0,e,L,m,K=>OkT G e L m K
  | n + 1,e,L,m,K=>match e with
    | .UnaryOp .Not a _=>wpT n a L m (kN K)
    | .BoolOp op es _=>wpB n op es L m K
    | .Compare a [op] [b] _=>cond (behindInMarks op b) False (wpE n a L m (kD1 G (wpE n) op b L K))
    | .Name x p=>wpE n (.Name x p) L m (kV G K)
    | .Attribute a b c=>wpE n (.Attribute a b c) L m (kV G K)
    | .Call a b c d=>wpE n (.Call a b c d) L m (kV G K)
    | .BinOp a b c d=>wpE n (.BinOp a b c d) L m (kV G K)
    | e=>OkT G e L m K
noncomputable def wpB:Nat→BoolOp→List Expr→Lc→Mem→(Bool→Mem→Prop)→Prop
  | 0,_,_,_,_,_=>False
  | n + 1,op,es,L,m,K=>match es with
    | []=>K (op == .And) m
    | e :: es=>wpT n e L m (kBo (wpB n) op es L K)
end
end
end
section
open PySem PySem.W PyProof.Rows PySem.Calls PySem.SeqAt
private theorem star_c {e:Expr} (h:notStar e = true) (es:List Expr) (env:Env):starEach (e :: es) env = (false,eval e env) :: starEach es env:=by
  cases e <;> first | rfl | cases h
private theorem base_c {o:Expr} (h:notCall o = true) (name:Str) (env:Env):attributeBase o name env (eval o env) = eval o env:=by
  cases o <;> first | rfl | cases h
private theorem plain_pl {es:List Expr} (h:es.all notStar = true):Pl es:=by
  induction es with
  | nil=>exact .nil
  | cons e es ih =>
    rw [List.all_cons,Bool.and_eq_true] at h
    exact .cons (star_c h.1 es) (ih h.2)
private theorem starB {es:List Expr} (h:es.all notStar = true) (pos:Pos) (env:Env):(backTo pos (starEach es env)).all (fun x=>!x.1) = true:=by
  induction es with
  | nil=>rfl
  | cons e es ih =>
    rw [List.all_cons,Bool.and_eq_true] at h
    rw [star_c h.1]
    exact Bool.and_eq_true_iff.mpr ⟨rfl,ih h.2⟩
private theorem plainAll {es:List Expr} (h:plainL es = true):es.all notStar = true:=(Bool.and_eq_true_iff.mp h).1
private theorem few_c {es:List Expr} (h:plainL es = true) (pos:Pos):Few es pos:=fun env=>by
  have:=of_decide_eq_true (Bool.and_eq_true_iff.mp h).2
  rw [starB (plainAll h)]
  exact decide_eq_true (by show es.length + 0 + 0 < 30; exact Nat.le_succ_of_le this)
private theorem plainSz {es:List Expr} (h:plainL es = true):es.length≤2 ^ 24 :=
  Nat.le_trans (Nat.le_of_lt (of_decide_eq_true (Bool.and_eq_true_iff.mp h).2)) (by decide)
section
variable {G:Cx}
private theorem elim_ok {α:Type} {o:Option α} {A:Prop} {B:α→Prop} (h:o.elim A B):(o = none∧A)∨∃ c,o = some c∧B c:=by
  cases o with
  | none=>exact .inl ⟨rfl,h⟩
  | some c=>exact .inr ⟨c,rfl,h⟩
private theorem cond_t {b:Bool} {A:Prop} (h:cond b A False):b = true∧A:=by
  cases b with
  | true=>exact ⟨rfl,h⟩
  | false=>exact h.elim
private theorem cond_f {b:Bool} {A:Prop} (h:cond b False A):b = false∧A:=by
  cases b with
  | true=>exact h.elim
  | false=>exact ⟨rfl,h⟩
private theorem cond_e {b:Bool} {A B:Prop} (h:cond b A B):(b = true∧A)∨(b = false∧B):=by
  cases b with
  | true=>exact .inl ⟨rfl,h⟩
  | false=>exact .inr ⟨rfl,h⟩
private theorem toI_ok {x:AV} {i:Int} (h:toI x = some i):x = .int i:=by
  cases x <;> cases h
  rfl
private theorem on2_ok {α:Type} {f:Int→Int→Option α} {x y:AV} {c:α} (h:on2 f x y = some c):∃ a b,x = .int a∧y = .int b∧f a b = some c:=by
  unfold on2 at h
  cases ha:toI x with
  | none=>rw [ha] at h; cases h
  | some a =>
    cases hb:toI y with
    | none=>rw [ha,hb] at h; cases h
    | some b=>rw [ha,hb] at h; exact ⟨a,b,toI_ok ha,toI_ok hb,h⟩
private theorem i2_ok {op:Operator} {a b c:Int} (e:i2 op a b = some c):(op = .Add∧c = a + b)∨(op = .Sub∧c = a - b):=by
  cases op <;> cases e
  · exact .inl ⟨rfl,rfl⟩
  · exact .inr ⟨rfl,rfl⟩
private theorem binP_ok {op:Operator} {m:Mem} {x y:AV} {K:AV→Prop} (h:binP G op m x y K):BinK G (binaryOp op) m x y K:=by
  rcases elim_ok h with h | ⟨c,e,h⟩
  · exact h.2
  · obtain ⟨a,b,rfl,rfl,e⟩:=on2_ok e
    rcases i2_ok e with ⟨rfl,rfl⟩ | ⟨rfl,rfl⟩
    · exact ⟨.add,h⟩
    · exact ⟨.sub,h⟩
private theorem iopP_ok {op:Operator} {m:Mem} {x y:AV} {K:AV→Prop} (h:iopP G op m x y K):BinK G (inplaceOp op) m x y K:=by
  rcases elim_ok h with h | ⟨c,e,h⟩
  · exact h.2
  · obtain ⟨a,b,rfl,rfl,e⟩:=on2_ok e
    rcases i2_ok e with ⟨rfl,rfl⟩ | ⟨rfl,rfl⟩
    · exact ⟨.iadd,h⟩
    · exact ⟨.isub,h⟩
private theorem c2_ok (hD:4≤G.D) {op:CmpOp} {m:Mem} {x y:AV} {c:Bool} (e:on2 (c2 op) x y = some c):Bin G.X G.D (compareOp op) m x y (.bool c):=by
  obtain ⟨a,b,rfl,rfl,e⟩:=on2_ok e
  cases op <;> cases e
  · exact .eqI hD
  · exact .neI hD
  · exact .lt
  · exact .le
  · exact .gt
private theorem cmpP_ok (hD:4≤G.D) {op:CmpOp} {m:Mem} {x y:AV} {K:AV→Prop} (h:cmpP G op m x y K):BinK G (compareOp op) m x y K :=
  (elim_ok h).elim (fun h=>h.2) fun ⟨_,e,h⟩=>⟨c2_ok hD e,h⟩
private theorem cmpT_ok (hD:4≤G.D) {op:CmpOp} {m:Mem} {x y:AV} {K:Bool→Prop} (h:cmpT G op m x y K):BinT G (compareOp op) m x y K :=
  (elim_ok h).elim (fun h=>h.2) fun ⟨_,e,h⟩=>⟨c2_ok hD e,h⟩
private theorem truP_ok {m:Mem} {x:AV} {K:Bool→Prop} (h:truP G m x K):TruK G m x K:=by
  rcases elim_ok h with h | ⟨c,e,h⟩
  · exact h.2
  · refine ⟨?_,h⟩
    cases x <;> cases e
    · exact .none
    · exact .bool
    · exact .int
private theorem OkE.go {e:Expr} {L:Lc} {m:Mem} {K:AV→Mem→Prop} (h:OkE G e L m K) {Z:Prop} (k:∀ v m',PE G.X G.D G.sc e L m v m'→K v m'→Z):Z:=h.elim fun v h=>h.elim fun m' h=>k v m' h.1 h.2
private theorem OkE.mk {e:Expr} {L:Lc} {m m':Mem} {v:AV} {K:AV→Mem→Prop} (h:PE G.X G.D G.sc e L m v m') (k:K v m'):OkE G e L m K:=⟨v,m',h,k⟩
private theorem OkT.go {e:Expr} {L:Lc} {m:Mem} {K:Bool→Mem→Prop} (h:OkT G e L m K) {Z:Prop} (k:∀ v m',PT G.X G.D G.sc e L m v m'→K v m'→Z):Z:=h.elim fun v h=>h.elim fun m' h=>k v m' h.1 h.2
private theorem OkT.mk {e:Expr} {L:Lc} {m m':Mem} {v:Bool} {K:Bool→Mem→Prop} (h:PT G.X G.D G.sc e L m v m') (k:K v m'):OkT G e L m K:=⟨v,m',h,k⟩
variable (G)
noncomputable def OkEs (es:List Expr) (L:Lc) (m:Mem) (K:List AV→Mem→Prop):Prop:=∃ v m',PEs G.X G.D G.sc es L m v m'∧v.length = es.length∧K v m'
noncomputable def OkP (e:Option Expr) (L:Lc) (m:Mem) (K:Option Int→Mem→Prop):Prop:=∃ v m',PP G.X G.D G.sc e L m v m'∧K v m'
variable {G}
private theorem OkEs.go {e:List Expr} {L:Lc} {m:Mem} {K:List AV→Mem→Prop} (h:OkEs G e L m K) {Z:Prop} (k:∀ v m',PEs G.X G.D G.sc e L m v m'→v.length = e.length→K v m'→Z):Z:=h.elim fun v h=>h.elim fun m' h=>k v m' h.1 h.2.1 h.2.2
private theorem OkP.go {e:Option Expr} {L:Lc} {m:Mem} {K:Option Int→Mem→Prop} (h:OkP G e L m K) {Z:Prop} (k:∀ v m',PP G.X G.D G.sc e L m v m'→K v m'→Z):Z:=h.elim fun v h=>h.elim fun m' h=>k v m' h.1 h.2
variable (G)
structure WpOk (n:Nat):Prop where
  e:∀ e L m K,wpE G n e L m K→OkE G e L m K
  es:∀ es L m K,es.all notStar = true→wpEs G n es L m K→OkEs G es L m K
  p:∀ e L m K,wpP G n e L m K→OkP G e L m K
  t:∀ e L m K,wpT G n e L m K→OkT G e L m K
  b:∀ op es L m K p,wpB G n op es L m K→OkT G (.BoolOp op es p) L m K
variable {G}
variable {L:Lc} {m m1:Mem}
private theorem PE.globV {x:Str} {p:Pos} {av:AV} (hx:G.sc.lookup x = some .globalImplicit) (h:GloV G.X x av):PE G.X G.D G.sc (.Name x p) L m av m :=
  h.elim fun zz q=>.glob hx q.1 q.2
private theorem WpOk.zero:WpOk G 0 where
  e:=fun zz zz zz zz h=>h
  es:=fun zz zz zz zz zz h=>h.elim
  p:=fun zz zz zz zz h=>h.elim
  t:=fun zz zz zz zz h=>h
  b:=fun zz zz zz zz zz zz h=>h.elim
private theorem WpOk.succE (hD:4≤G.D) {n:Nat} (o:WpOk G n) {e:Expr} {K:AV→Mem→Prop} (h:wpE G (n + 1) e L m K):OkE G e L m K:=by
  cases e with
  | Constant c k p =>
    cases c with
    | int i=>exact ⟨_,_,.int,h⟩
    | str s=>exact ⟨_,_,.str,h⟩
    | bool b=>exact ⟨_,_,.bool,h⟩
    | none=>exact ⟨_,_,.none,h⟩
    | _=>exact h
  | Name x p =>
    rcases elim_ok h with h | ⟨c,e,h⟩
    · obtain ⟨hx,h⟩:=cond_t h.2
      cases h with
      | mk h1 h2=>exact .mk (.globV (beq_iff_eq.mp hx) h1) h2
    · exact ⟨_,_,.var e,h⟩
  | BinOp a op b p =>
    refine (o.e _ _ _ _ h).go fun x m1 ha h=>?_
    refine (o.e _ _ _ _ h).go fun y m2 hb h=>?_
    unfold kB2 at h
    cases q:decide (p.line + 100000∈G.mu) with
    | true =>
      rw [q] at h
      cases h with
      | mk hr h=>exact .mk (.bin ha hb hr) h
    | false =>
      rw [q] at h
      cases binP_ok h with
      | mk hr h=>exact .mk (.bin ha hb hr) h
  | UnaryOp op a p =>
    refine (o.e _ _ _ _ h).go fun x m1 ha h=>?_
    cases h with
    | mk hr h=>exact .mk (.un ha hr) h
  | Compare a ops cs p =>
    match ops,cs,h with
    | [op],[b],h =>
      obtain ⟨hs,h⟩:=cond_f h
      refine (o.e _ _ _ _ h).go fun x m1 ha h=>?_
      refine (o.e _ _ _ _ h).go fun y m2 hb h=>?_
      cases cmpP_ok hD h with
      | mk hr h=>exact .mk (.cmp ha hb hr hs) h
    | [],_,h=>exact h
    | _ :: _ :: _,_,h=>exact h
    | [_],[],h=>exact h
    | [_],_ :: _ :: _,h=>exact h
  | IfExp t a b p =>
    refine (o.t _ _ _ _ h).go fun q m1 ht h=>?_
    cases h with
    | mk v m' h1 h2 h =>
      cases q with
      | true =>
        refine (o.e _ _ _ _ (h1 rfl)).go fun zz zz h1 e=>?_
        cases e
        exact .mk (.ifT ht h1) h
      | false =>
        refine (o.e _ _ _ _ (h2 rfl)).go fun zz zz h1 e=>?_
        cases e
        exact .mk (.ifF ht h1) h
  | Tuple es k p =>
    obtain ⟨hs,h⟩:=cond_t h
    refine (o.es _ _ _ _ (plainAll hs) h).go fun xs m1 h1 hl h=>?_
    exact ⟨_,_,.tup h1 (hl ▸ plainSz hs),h⟩
  | List es p =>
    obtain ⟨hs,h⟩:=cond_t h
    refine (o.es _ _ _ _ (plainAll hs) h).go fun xs m1 h1 hl h=>?_
    rcases cond_e h with h | h
    · exact ⟨_,_,.lstM h1 (hl ▸ plainSz hs),h.2⟩
    · exact ⟨_,_,.lst h1 (hl ▸ plainSz hs),h.2⟩
  | Subscript a b p =>
    have plain (hs:Plain b) (h:wpE G n a L m fun x m1=>wpE G n b L m1 fun y m2=>SubK G m2 x y fun r=>K r m2):OkE G (.Subscript a b p) L m K:=by
      refine (o.e _ _ _ _ h).go fun x m1 ha h=>?_
      refine (o.e _ _ _ _ h).go fun y m2 hb h=>?_
      cases h with
      | mk hr h=>exact .mk (.sub ha hb hr hs) h
    cases b with
    | Slice l u st q =>
      cases st with
      | none =>
        refine (o.e _ _ _ _ h).go fun x m1 ha h=>?_
        refine (o.p _ _ _ _ h).go fun i1 m2 hl h=>?_
        refine (o.p _ _ _ _ h).go fun i2 m3 hu h=>?_
        cases h with
        | mk hr h=>exact .mk (.slice ha hl hu .none hr (fun zz zz=>⟨_,rfl⟩)) h
      | some st =>
        refine (o.e _ _ _ _ h).go fun x m1 ha h=>?_
        refine (o.p _ _ _ _ h).go fun i1 m2 hl h=>?_
        refine (o.p _ _ _ _ h).go fun i2 m3 hu h=>?_
        refine (o.e _ _ _ _ h).go fun s m4 hs h=>?_
        rcases elim_ok h with h | ⟨k,e,h⟩
        · exact h.2.elim
        · cases toI_ok e
          cases h with
          | mk hr h=>exact .mk (.slice ha hl hu (.some hs) hr (fun zz zz=>⟨_,rfl⟩)) h
    | _=>exact plain (fun zz zz=>rfl) h
  | Call f es kws pos =>
    cases kws with
    | cons _ _=>cases f <;> exact h
    | nil =>
      cases f with
      | Name x p =>
        obtain ⟨hs,h⟩:=cond_t h
        refine (o.es _ _ _ _ (plainAll hs) h).go fun xs m1 h1 hl h=>?_
        have ha:PA G.X G.D G.sc es L m xs m1:=⟨h1,plain_pl (plainAll hs)⟩
        rcases elim_ok h with h | ⟨c,e,h⟩
        · obtain ⟨hx,h⟩:=cond_t h.2
          cases h with
          | mk h2 h=>exact .mk (h2 _ _ _ _ _ _ (beq_iff_eq.mp hx) ha) h
        · cases h with
          | mk h2 h=>exact .mk (h2 _ _ _ _ _ _ _ e ha) h
      | Attribute a name apos =>
        obtain ⟨hs,h⟩:=cond_t h
        unfold okM at hs
        rw [Bool.and_eq_true,Bool.and_eq_true] at hs
        refine (o.e _ _ _ _ h).go fun x m1 ha h=>?_
        refine (o.es _ _ _ _ (plainAll hs.1) h).go fun xs m2 h1 hl h=>?_
        cases h with
        | mk h2 h=>exact .mk (h2 _ _ _ _ _ _ _ (base_c hs.2.1 _) (few_c hs.1 _) hs.2.2 ha ⟨h1,plain_pl (plainAll hs.1)⟩) h
      | _=>exact h
  | _=>exact h
private theorem WpOk.val {n:Nat} (o:WpOk G n) {e:Expr} {K:Bool→Mem→Prop} (he:∀ env whole,isTrue e env whole = (do let v ← whole; standAt e.pos; holding [v] (truthy v)))
    (h:wpE G n e L m fun v m1=>truP G m1 v fun b=>K b m1):OkT G e L m K:=by
  refine (o.e _ _ _ _ h).go fun v m1 h1 h=>?_
  cases truP_ok h with
  | mk h2 h=>exact .mk (.val h1 h2 he) h
private theorem WpOk.succT (hD:4≤G.D) {n:Nat} (o:WpOk G n) {e:Expr} {K:Bool→Mem→Prop} (h:wpT G (n + 1) e L m K):OkT G e L m K:=by
  cases e with
  | UnaryOp op a p =>
    cases op with
    | Not =>
      refine (o.t _ _ _ _ h).go fun b m1 ha h=>?_
      exact ⟨_,_,.not ha,h⟩
    | _=>exact h
  | BoolOp op es p=>exact o.b _ _ _ _ _ _ h
  | Compare a ops cs p =>
    match ops,cs,h with
    | [op],[b],h =>
      obtain ⟨hs,h⟩:=cond_f h
      refine (o.e _ _ _ _ h).go fun x m1 ha h=>?_
      refine (o.e _ _ _ _ h).go fun y m2 hb h=>?_
      cases cmpT_ok hD h with
      | mk hr h=>exact .mk (.cmp ha hb hr hs) h
    | [],_,h=>exact h
    | _ :: _ :: _,_,h=>exact h
    | [_],[],h=>exact h
    | [_],_ :: _ :: _,h=>exact h
  | Name _ _=>exact o.val (fun zz zz=>rfl) h
  | Attribute _ _ _=>exact o.val (fun zz zz=>rfl) h
  | Call _ _ _ _=>exact o.val (fun zz zz=>rfl) h
  | BinOp _ _ _ _=>exact o.val (fun zz zz=>rfl) h
  | _=>exact h
private theorem WpOk.succB {n:Nat} (o:WpOk G n) {op:BoolOp} {es:List Expr} {K:Bool→Mem→Prop} (p:Pos) (h:wpB G (n + 1) op es L m K):OkT G (.BoolOp op es p) L m K:=by
  cases es with
  | nil =>
    cases op with
    | And=>exact ⟨_,_,.andNil,h⟩
    | Or=>exact ⟨_,_,.orNil,h⟩
  | cons e es =>
    refine (o.t _ _ _ _ h).go fun a m1 h1 h=>?_
    cases es with
    | nil =>
      cases op with
      | And =>
        cases a with
        | true=>exact ⟨_,_,.andT h1 .andNil,h⟩
        | false=>exact ⟨_,_,.andF h1,h⟩
      | Or =>
        cases a with
        | true=>exact ⟨_,_,.orT h1,h⟩
        | false=>exact ⟨_,_,.orF h1 .orNil,h⟩
    | cons e2 es =>
      cases op with
      | And =>
        cases h with
        | mk hr h =>
          cases a with
          | false=>exact .mk (.andF h1) h
          | true =>
            refine (o.b _ _ _ _ _ p (hr rfl)).go fun zz zz h2 e=>?_
            cases e
            exact .mk (.andT h1 h2) h
      | Or =>
        cases h with
        | mk hr h =>
          cases a with
          | true=>exact .mk (.orT h1) h
          | false =>
            refine (o.b _ _ _ _ _ p (hr rfl)).go fun zz zz h2 e=>?_
            cases e
            exact .mk (.orF h1 h2) h
private theorem wpOk (hD:4≤G.D):∀ n,WpOk G n
  | 0=>.zero
  | n + 1 => { e := fun zz zz zz zz => (wpOk hD n).succE hD, t := fun zz zz zz zz => (wpOk hD n).succT hD, b := fun zz zz zz zz zz p => (wpOk hD n).succB p
               p:=fun e L m K h=>by
                 cases e with
                 | none=>exact ⟨_,_,.none,h⟩
                 | some e =>
                   refine ((wpOk hD n).e _ _ _ _ h).go fun x m1 h1 h=>?_
                   rcases elim_ok h with h | ⟨i,e,h⟩
                   · exact h.2.elim
                   · exact ⟨_,_,.some (toI_ok e ▸ h1),h⟩
               es:=fun es L m K hs h=>by
                 cases es with
                 | nil=>exact ⟨_,_,.nil,rfl,h⟩
                 | cons e es =>
                   rw [List.all_cons,Bool.and_eq_true] at hs
                   refine ((wpOk hD n).e _ _ _ _ h).go fun x m1 h1 h=>?_
                   refine ((wpOk hD n).es _ _ _ _ hs.2 h).go fun xs m2 h2 hl h=>?_
                   exact ⟨_,_,.cons' (star_c hs.1 es) h1 h2,congrArg (· + 1) hl,h⟩ }
end
end
section
open PySem PySem.W PyProof.Rows PySem.Calls PySem.SeqAt
set_option backward.match.sparseCases false in
noncomputable def notComp:Expr→Bool
  | .ListComp _ _ _ _=>false
  | .SetComp _ _ _ _=>false
  | .DictComp _ _ _ _ _=>false
  | _=>true
private theorem noSwap_c {e:Expr} (h:notComp e = true):NoSwap e:=by
  cases e <;> first | exact fun zz zz zz=>rfl | cases h
set_option backward.match.sparseCases false in
noncomputable def nameOf:Expr→Option Str
  | .Name x _=>some x
  | _=>none
private theorem nameOf_c {e:Expr} {x:Str} (h:nameOf e = some x):∃ p,e = .Name x p:=by
  cases e <;> cases h
  exact ⟨_,rfl⟩
noncomputable def oneOf:List Expr→Option Expr
  | [e]=>some e
  | _=>none
private theorem oneOf_c {es:List Expr} {e:Expr} (h:oneOf es = some e):es = [e]:=by
  match es,h with
  | [_],h=>cases h; rfl
noncomputable def Nxt (W:Lc→Mem→Prop) (P:RP):RP
  | .next,L,m=>W L m
  | fl,L,m=>P fl L m
noncomputable abbrev EvS:=List Stmt→Lc→Mem→RP→Prop
noncomputable def kSe (wS:EvS) (rest:List Stmt) (x:Str) (L:Lc) (P:RP) (av:AV) (m1:Mem):Prop:=wS rest (bd x av L) m1 P
noncomputable def kAr (wS:EvS) (rest:List Stmt) (x:Str) (L:Lc) (m1:Mem) (P:RP) (r:AV):Prop:=wS rest (bd x r L) m1 P
noncomputable def kAg (G:Cx) (wS:EvS) (op:Operator) (rest:List Stmt) (x:Str) (a:AV) (L:Lc) (P:RP) (b:AV) (m1:Mem):Prop:=iopP G op m1 a b (kAr wS rest x L m1 P)
noncomputable def kEx (wS:EvS) (rest:List Stmt) (L:Lc) (P:RP) (v:AV) (m1:Mem):Prop:=NoneK (wS rest L m1 P) v
noncomputable def kRt (L:Lc) (P:RP) (v:AV) (m1:Mem):Prop:=P (.ret v) L m1
noncomputable def kNx (wS:EvS) (rest:List Stmt) (P:RP) (L:Lc) (m:Mem):Prop:=wS rest L m P
noncomputable def kIS (wS:EvS) (a b rest:List Stmt) (L:Lc) (P:RP) (q:Bool) (m1:Mem):Prop:=IfS q (wS a L m1 (Nxt (kNx wS rest P) P)) (wS b L m1 (Nxt (kNx wS rest P) P))
section
variable (G:Cx) (k:Nat)
noncomputable def wpS:Nat→List Stmt→Lc→Mem→RP→Prop
  | 0,sts,L,m,P=>W G.X G.D G.sc sts L m P
  | n + 1,sts,L,m,P=>match sts with
    | []=>P .next L m
    | st :: rest=>match st with
      | .Assign ts e _=>((oneOf ts).bind nameOf).elim (W G.X G.D G.sc (st :: rest) L m P) fun x=>cond (okB G.sc x && notComp e) (wpE G k e L m (kSe (wpS n) rest x L P)) (W G.X G.D G.sc (st :: rest) L m P)
      | .AugAssign t op e _=>(nameOf t).elim (W G.X G.D G.sc (st :: rest) L m P) fun x=>(L.lookup x).elim False fun a=>cond (okB G.sc x) (wpE G k e L m (kAg G (wpS n) op rest x a L P)) False
      | .Expr e _=>cond (notComp e) (wpE G k e L m (kEx (wpS n) rest L P)) False
      | .Return e _=>e.elim (P (.ret .none) L m) fun e=>wpE G k e L m (kRt L P)
      | .Continue _=>P .cont L m
      | .If t a b _=>wpT G k t L m (kIS (wpS n) a b rest L P)
      | _=>W G.X G.D G.sc (st :: rest) L m P
end
section
variable {G:Cx} {k:Nat} {L:Lc} {m:Mem} {P:RP}
private theorem W.to {sts rest:List Stmt} {n:Nat} (o:∀ {sts:List Stmt} {L:Lc} {m:Mem} {P:RP},wpS G k n sts L m P→W G.X G.D G.sc sts L m P)
    (h:wpS G k n sts L m (Nxt (fun L m=>wpS G k n rest L m P) P)):W G.X G.D G.sc sts L m (Then G.X G.D G.sc rest P) :=
  (o h).mono fun fl L m q=>by
    cases fl with
    | next=>exact o q
    | _=>exact q
private theorem wpS_ok (hD:4≤G.D):∀ {n:Nat} {sts:List Stmt} {L:Lc} {m:Mem} {P:RP},wpS G k n sts L m P→W G.X G.D G.sc sts L m P
  | 0,_,_,_,_,h=>h
  | n + 1,[],_,_,_,h=>.nil h
  | n + 1,st :: rest,L,m,P,h=>by
    cases st with
    | Assign ts e p =>
      rcases elim_ok h with q | ⟨x,hx,q⟩
      · exact q.2
      · rcases cond_e q with ⟨hc,q1⟩ | ⟨_,q1⟩
        · rw [Bool.and_eq_true] at hc
          obtain ⟨t,ht,hx⟩:=Option.bind_eq_some_iff.mp hx
          cases oneOf_c ht
          obtain ⟨p',rfl⟩:=nameOf_c hx
          exact ((wpOk hD k).e _ _ _ _ q1).go fun v m1 h1 h=>.set h1 (noSwap_c hc.2) hc.1 (wpS_ok hD h)
        · exact q1
    | AugAssign t op e p =>
      rcases elim_ok h with q | ⟨x,hx,q⟩
      · exact q.2
      · rcases elim_ok q with q | ⟨a,ha,q⟩
        · exact q.2.elim
        · obtain ⟨hc,q⟩:=cond_t q
          obtain ⟨p',rfl⟩:=nameOf_c hx
          exact ((wpOk hD k).e _ _ _ _ q).go fun v m1 h1 h=>by
            cases iopP_ok h with
            | mk hr h=>exact .aug ha h1 hr hc (wpS_ok hD h)
    | Expr e p =>
      obtain ⟨hc,h⟩:=cond_t h
      exact ((wpOk hD k).e _ _ _ _ h).go fun v m1 h1 h=>by
        cases h with
        | mk h=>exact .expr h1 (noSwap_c hc) (wpS_ok hD h)
    | Return e p =>
      cases e with
      | none=>exact .retN h
      | some e=>exact ((wpOk hD k).e _ _ _ _ h).go fun v m1 h1 h=>.ret h1 h
    | Continue p=>exact .cont h
    | If t a b p =>
      exact ((wpOk hD k).t _ _ _ _ h).go fun q m1 h1 h=>by
        cases h with
        | mk ha hb=>exact .ifs h1 (fun e=>.to (wpS_ok hD) (ha e)) fun e=>.to (wpS_ok hD) (hb e)
    | _=>exact h
end
end
section
open PySem PySem.W PyProof.Rows PySem.Calls PySem.SeqAt
section
variable {X:Amb} {D:Nat} {m m1 m2 m3:Mem} {x:Str} {avs:List AV} {r:AV}
private theorem Fn.b {id:String} (hg:Glo X.B x (.builtin id)) (ho:Call X D (opB id) m avs r m1):Fn X D x m avs r m1:=fun zz zz zz zz zz zz hx ha=>.callB hg ha ho hx
private theorem Fn.t {id:String} (hg:Glo X.B x (.type id)) (ho:Call X D (opT id) m avs r m1):Fn X D x m avs r m1:=fun zz zz zz zz zz zz hx ha=>.callT hg ha ho hx
private theorem Fn.f {F:Fd} {q:Str} {cl:List (Str × Addr)} {dv:Value} {a:Addr} (hg:Glo X.B x (.ref a)) (hF:FnAt X.B F q cl dv a) (ho:Call X D (opF a) m avs r m1):Fn X D x m avs r m1:=fun zz zz zz zz zz zz hx ha=>.call hg hF ha ho hx
private theorem Mt.of {name:Str} {T id:String} {a:AV} (mo:MethOk T name id) (hk:IsOf T m1 a) (ho:Call X D (opB id) m2 (a :: avs) r m3):Mt X D name m1 m2 a avs r m3:=fun zz zz zz zz zz zz zz hb hf hl h1 h2=>.meth mo h1 hk h2 ho hb hf hl
structure FnG (X:Amb) (F:Fd) (a:Addr):Prop where
  g:Glo X.B F.name (.ref a)
  f:FnAt X.B F F.name [] .none a
noncomputable def KeptA (m:Mem) (r r':AV) (m':Mem):Prop:=∀ M,Kept M m r' r m'
private theorem FnG.mk' {F:Fd} {a:Addr} (hf:FnG X F a) (lim:NoLim X.B) (hD:4≤D) {ps:List Str} (mu:List Nat) (ok:fnOkB ps F.scope = true) (hbind:∀ doc pm cd ct,BindN (fnXD F F.name [] .none doc pm cd ct) ps [] []) (hl:avs.length = ps.length)
    (hb:wpS ⟨X,D,F.scope.names,mu⟩ 40 40 F.body (ps.zip avs) m (Ret (KeptA m r))):Fn X (D + 1) F.name m avs r m :=
  .f hf.g hf.f ((hf.f.call lim (fnOk ok) hbind hl (wpS_ok (G:=⟨X,D,F.scope.names,mu⟩) hD hb)).keep fun zz zz M h=>h M)
private theorem KeptA.of {r':AV} {g:Mem} (h:∀ M,Frz M m.length (m++g) r' r):KeptA m r r' (m++g):=fun M=>.mk (h M)
private theorem KeptA.same (h:∀ M,Frz M m.length m r r):KeptA m r r m:=fun M=>by
  have:=Kept.mk (M:=M) (m:=m) (g:=[]) (r':=r) (r:=r)
  rw [List.append_nil] at this
  exact this (h M)
private theorem KeptA.s {l:List Nat}:KeptA m (.str l) (.str l) m:=.same fun zz=>.str l
private theorem KeptA.i {i:Int}:KeptA m (.int i) (.int i) m:=.same fun zz=>.int i
private theorem KeptA.b {b:Bool}:KeptA m (.bool b) (.bool b) m:=.same fun zz=>.bool b
private theorem KeptA.sn1 {x:AObj} {r':AV} (h:∀ M,Frz M m.length (sn m x) r' r):KeptA m r r' (sn m x):=.of h
private theorem KeptA.s1 {l:List Nat} {x:AObj}:KeptA m (.str l) (.str l) (sn m x):=.of fun zz=>.str l
private theorem sn_get (m:Mem) (x:AObj):(sn m x)[m.length]? = some x:=get_app0 m [x]
private theorem sn_set (m:Mem) (x y:AObj):(sn m x).set m.length y = sn m y:=set_app0 m [x] y
private theorem sn_len (m:Mem) (x:AObj):(sn m x).length = m.length + 1:=by unfold sn; rw [List.length_append]; rfl
private theorem sn_get1 (m:Mem) (x y:AObj):(sn (sn m x) y)[m.length]? = some x:=by
  unfold sn; rw [List.append_assoc]; exact get_app0 m _
private theorem sn_set1 (m:Mem) (x y z:AObj):(sn (sn m x) y).set m.length z = sn (sn m z) y:=by
  unfold sn; rw [List.append_assoc,set_app0,List.append_assoc]; rfl
end
section
variable {X:Amb} {D:Nat} {m m1 m2 m3:Mem} {name:Str} {id:String} {avs:List AV} {r:AV} {i:Nat} {xs ys:List AV} {x:AV}
private theorem Mt.l (slot:Slot "list" name id) (ty:typeOf (.builtin id) = pure (.type "method_descriptor")) (e:m1[i]? = some (.lst ys)) (ho:Call X D (opB id) m2 (.mref i :: avs) r m3):Mt X D name m1 m2 (.mref i) avs r m3:=.of ⟨F.plainAttrs_list,slot,ty⟩ (.mref e) ho
private theorem Mt.f (slot:Slot "list" name id) (ty:typeOf (.builtin id) = pure (.type "method_descriptor")) (ho:Call X D (opB id) m2 (.lst ys :: avs) r m3):Mt X D name m1 m2 (.lst ys) avs r m3:=.of ⟨F.plainAttrs_list,slot,ty⟩ .lst ho
private theorem Mt.s {l:List Nat} (slot:Slot "str" name id) (ty:typeOf (.builtin id) = pure (.type "method_descriptor")) (ho:Call X D (opB id) m2 (.str l :: avs) r m3):Mt X D name m1 m2 (.str l) avs r m3:=.of ⟨F.plainAttrs_str,slot,ty⟩ .str ho
private theorem Mt.append (e1:m1[i]? = some (.lst ys)) (e:m2[i]? = some (.lst xs)) (hz:xs.length≤2 ^ 23) (hm:m2.set i (.lst (xs++[x])) = m3):Mt X D "append" m1 m2 (.mref i) [x] .none m3:=hm ▸ .l F.slot_list_append F.type_list_append e1 (.append e hz)
private theorem Mt.appendN {m:Mem} (hz:xs.length≤2 ^ 23):Mt X D "append" (sn m (.lst xs)) (sn m (.lst xs)) (.mref m.length) [x] .none (sn m (.lst (xs++[x]))):=.append (sn_get _ _) (sn_get _ _) hz (sn_set _ _ _)
private theorem Mt.pop0 (e:m2[i]? = some (.lst (x :: xs))) (e1:m1[i]? = some (.lst ys)) (hz:xs.length≤2 ^ 23) (hm:m2.set i (.lst xs) = m3):Mt X D "pop" m1 m2 (.mref i) [.int 0] x m3:=hm ▸ .l F.slot_list_pop F.type_list_pop e1 (.pop0 e hz)
private theorem Mt.reverse (e:m1[i]? = some (.lst xs)) (hz:xs.length≤2 ^ 23) (hm:m1.set i (.lst xs.reverse) = m3):Mt X D "reverse" m1 m1 (.mref i) [] .none m3:=hm ▸ .l F.slot_list_reverse F.type_list_reverse e (.reverse e hz)
private theorem Mt.count {l:List Nat} {c:Nat}:Mt X D "count" m1 m2 (.str l) [.str [c]] (.int (l.count c)) m2:=.s F.slot_str_count F.type_str_count .count
private theorem Mt.join {zs:List (List Nat)} (hz:(zs.map List.length).sum≤2 ^ 24):Mt X D "join" m1 m2 (.str []) [.lst (zs.map .str)] (.str zs.flatten) m2:=.s F.slot_str_join F.type_str_join (.join hz)
private theorem Mt.join' {zs:List (List Nat)} (h:xs = zs.map .str) (hz:(zs.map List.length).sum≤2 ^ 24):Mt X D "join" m1 m2 (.str []) [.lst xs] (.str zs.flatten) m2:=h ▸ .join hz
private theorem Mt.joinM {zs:List (List Nat)} (e:m2[i]? = some (.lst (zs.map .str))) (hz:(zs.map List.length).sum≤2 ^ 24):Mt X D "join" m1 m2 (.str []) [.mref i] (.str zs.flatten) m2:=.s F.slot_str_join F.type_str_join (.joinM e hz)
private theorem Mt.bits {a:Int}:Mt X D "bit_length" m1 m2 (.int a) [] (.int (Builtin.Int.intBits a)) m2:=.of ⟨F.plainAttrs_int,F.slot_int_bit_length,F.type_int_bit_length⟩ .int .bits
end
end
section
open PySem PySem.W PyProof.Rows PySem.Calls PySem.SeqAt
noncomputable def Sub0 (L0 L:Lc):Prop:=∀ x v,L0.lookup x = some v→L.lookup x = some v
private theorem Sub0.nil {L:Lc}:Sub0 [] L:=nofun
private theorem Sub0.cons {x:Str} {v:AV} {L0 L:Lc} (h:L.lookup x = some v) (r:Sub0 L0 L):Sub0 (bd x v L0) L:=fun y w q =>
  (lookup_set q).elim (fun e=>e.1 ▸ e.2 ▸ h) fun e=>r y w e.2
private theorem Sub0.rf:∀ {L0 L:Lc},L0.map (fun p=>L.lookup p.1) = L0.map (fun p=>some p.2)→Sub0 L0 L
  | [],_,_=>.nil
  | (_,_) :: _,_,h=>.cons (List.cons.inj h).1 (.rf (List.cons.inj h).2)
inductive Cut {σ:Type} (I:σ→Prop) (Lf:σ→Lc) (mf:σ→Mem) (L:Lc) (m:Mem):Prop
  | mk (s:σ):I s→m = mf s→Sub0 (Lf s) L→Cut I Lf mf L m
section
variable {G:Cx} {L:Lc} {m m1:Mem} {P:RP} {e:Expr} {av:AV} {k:Nat}
private theorem PE.wp (hD:4≤G.D) (h:wpE G k e L m (IsV av m1)):PE G.X G.D G.sc e L m av m1 :=
  ((wpOk hD k).e _ _ _ _ h).go fun zz zz h1 h=>by cases h; exact h1
private theorem PT.wp {b:Bool} (hD:4≤G.D) (h:wpT G k e L m (IsV b m1)):PT G.X G.D G.sc e L m b m1 :=
  ((wpOk hD k).t _ _ _ _ h).go fun zz zz h1 h=>by cases h; exact h1
noncomputable def TurnW (G:Cx) (tgt:Expr) (body:List Stmt) (L:Lc) (m:Mem) (x:AV) (P:RP):Prop:=∃ L',Asg G.X G.D G.sc G.sc tgt L x L'∧wpS G 40 40 body L' m P
noncomputable def LoopW (G:Cx) (rest:List Stmt) (P:RP) (J:Lc→Mem→Prop):RP:=Loop J (Nxt (kNx (wpS G 40 40) rest P) P)
private theorem W.loop (hD:4≤G.D) {sts rest:List Stmt} {J J':Lc→Mem→Prop} (h:wpS G 40 40 sts L m (LoopW G rest P J)) (hJ:∀ L m,J L m→J' L m):W G.X G.D G.sc sts L m (Loop J' (Then G.X G.D G.sc rest P)):=(wpS_ok hD h).mono fun fl L m q=>by
  cases fl with
  | next=>exact hJ _ _ q
  | cont=>exact hJ _ _ q
  | brk=>exact wpS_ok hD q
  | ret v=>exact q
private theorem W.forP {tgt iter:Expr} {body rest:List Stmt} {p:Pos} {α σ:Type} {f:α→AV} {xs:List α} (hD:4≤G.D) (hi:PI G.X G.D G.sc tgt iter L m (xs.map f) m1) (Lf:Nat→σ→Lc) (mf:Nat→σ→Mem) (I:Nat→σ→Prop) (h0:Cut (I 0) (Lf 0) (mf 0) L m1)
    (hs:∀ k x s,xs[k]? = some x→I k s→TurnW G tgt body (Lf k s) (mf k s) (f x) (LoopW G rest P (Cut (I (k + 1)) (Lf (k + 1)) (mf (k + 1))))) (he:∀ s,I xs.length s→wpS G 40 40 rest (Lf xs.length s) (mf xs.length s) P) (hf:∀ env x,foldedSetIterable iter env x = pure x):W G.X G.D G.sc (.For tgt iter body [] p :: rest) L m P :=
  .for hi (fun k=>Cut (I k) (Lf k) (mf k)) h0 (fun k x L m hx i=>by
    cases i with
    | mk s i e z=>exact e ▸ (hs k x s hx i).elim fun L' h=>.mk (fun env own A c m v R T F r Q E q=>h.1 env own A c m v R T (F.weak z) r Q E q) (.loop hD h.2 fun zz zz h=>h)) (fun L m i=>by
    cases i with
    | mk s i e z=>exact e ▸ (wpS_ok hD (he s i)).weak z) hf
private theorem W.forW {tgt iter:Expr} {body rest:List Stmt} {p:Pos} {α σ:Type} {f:α→AV} {xs:List α} (hD:4≤G.D) (hi:wpE G 40 iter L m (IsV av m1)) (hv:ItV G.X G.D tgt m1 av (xs.map f)) (Lf:Nat→σ→Lc) (mf:Nat→σ→Mem) (I:Nat→σ→Prop) (h0:Cut (I 0) (Lf 0) (mf 0) L m1)
    (hs:∀ k x s,xs[k]? = some x→I k s→TurnW G tgt body (Lf k s) (mf k s) (f x) (LoopW G rest P (Cut (I (k + 1)) (Lf (k + 1)) (mf (k + 1))))) (he:∀ s,I xs.length s→wpS G 40 40 rest (Lf xs.length s) (mf xs.length s) P) (hf:∀ env x,foldedSetIterable iter env x = pure x):W G.X G.D G.sc (.For tgt iter body [] p :: rest) L m P :=
  .forP hD (.of (.wp hD hi) hv) Lf mf I h0 hs he hf
noncomputable def kWh (q:Bool) (w:Mem→RP→Prop) (P:RP) (b:Bool) (m':Mem):Prop:=b = q∧w m' P
inductive WhlW (G:Cx) (t:Expr) (body rest:List Stmt) (J:Lc→Mem→Prop) (P:RP) (L:Lc) (m:Mem):Prop
  | go:wpT G 40 t L m (kWh true (wpS G 40 40 body L) (LoopW G rest P J))→WhlW G t body rest J P L m
  | no:wpT G 40 t L m (kWh false (wpS G 40 40 rest L) P)→WhlW G t body rest J P L m
noncomputable def Less {σ:Type} (I:Nat→σ→Prop) (Lf:σ→Lc) (mf:σ→Mem) (k:Nat) (L:Lc) (m:Mem):Prop:=∃ j,j < k∧Cut (I j) Lf mf L m
private theorem PT.weak {L0:Lc} {b:Bool} (h:PT G.X G.D G.sc e L0 m b m1) (s:Sub0 L0 L):PT G.X G.D G.sc e L m b m1:=fun env A c T=>h env A c ⟨T.R,{ T.N with var:=fun x v e=>T.N.var x v (s x v e) },T.S⟩
private theorem W.whileW {t:Expr} {body rest:List Stmt} {p:Pos} {σ:Type} (hD:4≤G.D) (Lf:σ→Lc) (mf:σ→Mem) (I:Nat→σ→Prop) (n:Nat) (h0:Cut (I n) Lf mf L m) (hs:∀ k s,I k s→WhlW G t body rest (Less I Lf mf k) P (Lf s) (mf s)):W G.X G.D G.sc (.While t body [] p :: rest) L m P :=
  .while (fun k=>Cut (I k) Lf mf) n h0 fun k L m i=>by
    cases i with
    | mk s i e z =>
      subst e
      cases hs k s i with
      | go h=>exact ((wpOk hD 40).t _ _ _ _ h).go fun b m' h1 h=>.go ((h.1 ▸ h1).weak z) ((W.loop hD h.2 fun zz zz h=>h).weak z)
      | no h=>exact ((wpOk hD 40).t _ _ _ _ h).go fun b m' h1 h=>.no ((h.1 ▸ h1).weak z) ((wpS_ok hD h.2).weak z)
private theorem ItV.rng' {tgt:Expr} {n:Nat} (hn:n≤2 ^ 40):ItV G.X G.D tgt m (.rng 0 n) ((List.range n).map fun (i:Nat)=>.int i):=.rng hn
private theorem ItV.str' {tgt:Expr} {l:List Nat}:ItV G.X G.D tgt m (.str l) (l.map fun c=>.str [c]):=.str
end
end
section
open PySem PySem.W PyProof.Rows PySem.Calls PySem.SeqAt
section
variable {G:Cx} {L:Lc} {m m1 m2 mF:Mem} {tgt iter elt:Expr} {ifs:List Expr} {scope:Scope} {pos p p':Pos} {P:RP} {rest:List Stmt} {K:AV→Mem→Prop} {av:AV}
private theorem seen_sub {names:Names} {x:Str} {v:AV} (hx:okB names x = true):∀ y w,(seen names L).lookup y = some w→(bd x v (seen names L)).lookup y = some w:=fun y w h=>by
  show List.lookup y ((x,v) :: _) = _
  rw [List.lookup_cons]
  cases e:y == x with
  | true =>
    have:=(seen_lookup h).2
    rw [beq_iff_eq.mp e] at this
    rcases nameOk hx with q | q <;> rw [this] at q <;> cases q
  | false=>exact h
section
variable {X:Amb} {D:Nat}
private theorem AsgC.name {sc names:Names} {x:Str} {p:Pos} {av:AV} (hx:okB names x = true):AsgC X D sc names (.Name x p) (seen names L) av (bd x av (seen names L)):=⟨.name hx,seen_sub hx⟩
end
noncomputable def Cx.inner (G:Cx) (names:Names):Cx:=⟨G.X,G.D,relN G.sc names,G.mu⟩
noncomputable def TurnL (G:Cx) (names:Names) (tgt elt:Expr) (ifs:List Expr) (L:Lc) (x:AV) (m:Mem) (K:AV→Mem→Prop) (S:Mem→Prop):Prop :=
  ∃ L',AsgC G.X G.D G.sc names tgt L x L'∧∃ q m2,PTs G.X G.D G.sc ifs L' m q m2∧(q = true→OkE G elt L' m2 K)∧(q = false→S m2)
private theorem turnsL {α:Type} {f:α→AV} {xs:List α} {names:Names} (I:Nat→List AV→Mem→Prop) (hz:xs.length≤2 ^ 23)
    (hs:∀ k x ys m,xs[k]? = some x→I k ys m→TurnL G names tgt elt ifs L (f x) m (fun y m3=>I (k + 1) (ys++[y]) m3) fun m2=>I (k + 1) ys m2) :
    ∀ (r:List α) (k:Nat) (ys:List AV) (m:Mem),xs.drop k = r→ys.length≤k→I k ys m→∃ zs mF,CL G.X G.D G.sc names tgt ifs L AccL (emitL elt) (r.map f) ys m zs mF∧I (k + r.length) zs mF
  | [],k,ys,m,_,_,i=>⟨ys,m,.nil,i⟩
  | x :: r,k,ys,m,hr,hl,i=>by
    have hx:xs[k]? = some x:=by
      have:(xs.drop k)[0]? = some x:=by rw [hr]; rfl
      simpa using this
    have hk:=(List.getElem?_eq_some_iff.mp hx).1
    have hr':xs.drop (k + 1) = r:=by rw [← List.drop_drop,hr]; rfl
    have nx:k + 1 + r.length = k + (x :: r).length:=by rw [List.length_cons]; lia
    obtain ⟨L',ha,q,m2,ht,h⟩:=hs k x ys m hx i
    cases q with
    | true =>
      refine (h.1 rfl).go fun y m3 he i=>?_
      obtain ⟨zs,mF,cl,i⟩:=turnsL I hz hs r (k + 1) (ys++[y]) m3 hr' (by rw [List.length_append]; exact Nat.succ_le_succ hl) i
      exact ⟨zs,mF,.turn ha ht (emit_list he (Nat.le_trans hl (Nat.le_trans (Nat.le_of_lt hk) hz))) cl,nx ▸ i⟩
    | false =>
      obtain ⟨zs,mF,cl,i⟩:=turnsL I hz hs r (k + 1) ys m2 hr' (Nat.le_succ_of_le hl) (h.2 rfl)
      exact ⟨zs,mF,.turn ha ht .skip cl,nx ▸ i⟩
private theorem turns0 {α:Type} {f:α→AV} {xs:List α} {names:Names} (I:Nat→List AV→Mem→Prop) (hz:xs.length≤2 ^ 23) (h0:I 0 [] m1)
    (hs:∀ k x ys m,xs[k]? = some x→I k ys m→TurnL G names tgt elt ifs L (f x) m (fun y m3=>I (k + 1) (ys++[y]) m3) fun m2=>I (k + 1) ys m2):∃ zs mF,CL G.X G.D G.sc names tgt ifs L AccL (emitL elt) (xs.map f) [] m1 zs mF∧I xs.length zs mF :=
  (turnsL I hz hs xs 0 [] m1 rfl (Nat.le_refl _) h0).imp fun ys h=>h.imp fun mF h=>⟨h.1,(by have:=h.2; rwa [Nat.zero_add] at this)⟩
noncomputable abbrev CNm (sc:Names) (scope:Scope) (L:Lc):Prop:=(compOkB sc scope.names && (scope.kind == .function && seenOk scope.names L)) = true
noncomputable abbrev CSt (iter:Expr):Prop:=∀ (env:Env) x,foldedSetIterable iter env x = pure x
private theorem OkE.map (hD:4≤G.D) {α:Type} {f:α→AV} {xs:List α} (hn:CNm G.sc scope L) (set:CSt iter) (hi:wpE G 40 iter L m (IsV av m1)) (hv:ItV G.X G.D tgt m1 av (xs.map f)) (hz:xs.length≤2 ^ 23) (g:α→AV)
    (hs:∀ x,x∈xs→∃ L',AsgC G.X G.D (relN G.sc scope.names) scope.names tgt (seen scope.names L) (f x) L'∧wpE (G.inner scope.names) 40 elt L' m1 (IsV (g x) m1))
    (he:K (.lst (xs.map g)) m1):OkE G (.ListComp elt [⟨tgt,iter,[],0⟩] scope pos) L m K :=
  (turns0 (G:=G.inner scope.names) (ifs:=[]) (L:=seen scope.names L) (elt:=elt) (m1:=m1) (fun k ys m=>ys = (xs.take k).map g∧m = m1) hz ⟨rfl,rfl⟩ fun k x ys m hx i=>by
    obtain ⟨rfl,rfl⟩:=i
    refine (hs x (List.mem_of_getElem? hx)).imp fun L' h=>⟨h.1,true,m,.nil,fun zz=>OkE.go ((wpOk (G:=G.inner scope.names) hD 40).e _ _ _ _ h.2) fun y m3 h1 h2=>?_,nofun⟩
    cases h2
    exact .mk h1 ⟨by rw [List.take_add_one,hx,List.map_append]; rfl,rfl⟩).elim fun ys h=>h.elim fun mF h=>.mk (.lc (.mk' hn set) (.of (.wp hD hi) hv) h.1) (by rw [h.2.1,h.2.2,List.take_length]; exact he)
private theorem OkE.filter (hD:4≤G.D) {α:Type} {f:α→AV} {xs:List α} {t:Expr} (hn:CNm G.sc scope L) (set:CSt iter) (hi:wpE G 40 iter L m (IsV av m1)) (hv:ItV G.X G.D tgt m1 av (xs.map f)) (hz:xs.length≤2 ^ 23) (p:α→Bool) (g:α→AV)
    (hs:∀ x,x∈xs→∃ L',AsgC G.X G.D (relN G.sc scope.names) scope.names tgt (seen scope.names L) (f x) L'∧wpT (G.inner scope.names) 40 t L' m1 (IsV (p x) m1)∧(p x = true→wpE (G.inner scope.names) 40 elt L' m1 (IsV (g x) m1)))
    (he:K (.lst ((xs.filter p).map g)) m1):OkE G (.ListComp elt [⟨tgt,iter,[t],0⟩] scope pos) L m K :=
  (turns0 (G:=G.inner scope.names) (ifs:=[t]) (L:=seen scope.names L) (elt:=elt) (m1:=m1) (fun k ys m=>ys = ((xs.take k).filter p).map g∧m = m1) hz ⟨rfl,rfl⟩ fun k x ys m hx i=>(hs x (List.mem_of_getElem? hx)).elim fun L' h=>by
    obtain ⟨rfl,rfl⟩:=i
    have e:(xs.take (k + 1)).filter p = (xs.take k).filter p++[x].filter p:=by rw [List.take_add_one,hx,List.filter_append]; rfl
    refine ⟨L',h.1,_,_,.one (.wp (G:=G.inner scope.names) hD h.2.1),fun e1=>OkE.go ((wpOk (G:=G.inner scope.names) hD 40).e _ _ _ _ (h.2.2 e1)) fun y m3 h3 h4=>?_,fun e1=>⟨?_,rfl⟩⟩
    · cases h4
      exact .mk h3 ⟨by rw [e,List.filter_cons_of_pos e1,List.map_append]; rfl,rfl⟩
    · rw [e,List.filter_cons_of_neg (by rw [e1]; exact Bool.false_ne_true)]; exact congrArg _ (List.append_nil _).symm).elim fun ys h=>h.elim fun mF h=>.mk (.lc (.mk' hn set) (.of (.wp hD hi) hv) h.1) (by rw [h.2.1,h.2.2,List.take_length]; exact he)
end
end
section
open PySem PySem.W PyProof.Rows PySem.Calls PySem.SeqAt
noncomputable def envWith (sc:Names):Env:={ scope:={ (default:Scope) with kind:=.function,names:=sc },locals:=0,globals:=0,cells:=[],qual:="",func:=none,code:=.none,frame:=none,builtins:=0 }
private theorem NmR.loc {a b:Names} (h:NmR a b) (x:Str):(a.lookup x == some NameKind.local) = (b.lookup x == some NameKind.local):=by
  rcases h x with e | ⟨e1,e2⟩
  · rw [e]
  · rw [e1,e2]; rfl
private theorem swStores {sc:Names} {es:List Expr} {k:Nat} {tp:Pos} {v:Expr} {r:Sem (Option (List Str))} (h:swappedStores [.Tuple es k tp] v (envWith sc) = r) (env:Env) (h1:NmR env.scope.names sc) (h2:env.scope.kind = .function):swappedStores [.Tuple es k tp] v env = r:=by
  refine Eq.trans ?_ h
  have hb:env.blockKind = (envWith sc).blockKind:=by unfold Env.blockKind; rw [h2]; rfl
  cases v with
  | Tuple vs a b =>
    unfold swappedStores
    dsimp only
    rw [hb]
    generalize hF:List.filterMap _ es = N1
    generalize hG:List.filterMap _ es = N2
    have e:N1 = N2:=by
      subst hF; subst hG
      refine congrArg (List.filterMap · es) (funext fun x=>?_)
      cases x with
      | Name id pos =>
        have:=h1.loc id
        show (if (env.scope.names.lookup id == some NameKind.local && _) = true then _ else _) = _
        rw [this]; rfl
      | _=>rfl
    rw [e]
  | _=>rfl
section
variable {X:Amb} {D:Nat} {sc:Names} {L L':Lc} {m m1:Mem} {P:RP} {rest:List Stmt} {es:List Expr} {k:Nat} {tp p:Pos} {e:Expr}
private theorem W.asg {av:AV} (hw:swappedStores [.Tuple es k tp] e (envWith sc) = pure none) (hs:notComp e = true) (he:PE X D sc e L m av m1) (hg:Asg X D sc sc (.Tuple es k tp) L av L') (h:W X D sc rest L' m1 P):W X D sc (.Assign [.Tuple es k tp] e p :: rest) L m P :=
  .seq fun env own A c T Q E q=>Assign_Tuple (he.go T fun v d l F r=>hg env own A d m1 v T.R T.T F r _ _ fun d2 l2 F2=>q _ d2 .next _ _ ⟨l.tr l2,F2,.next,h⟩) (noSwap_c hs (some (.Tuple es k tp)) p.line env) (swStores hw env T.F.N.names T.F.N.kind)
private theorem bindNames {env:Env} {own:List Addr} {A:Around} {xs:List Str} (hx:∀ x∈xs,Sto env own x):∀ {avs:List AV} {vs:List Value} {c:Cf} {L:Lc},FS X env sc own c m L→Reps c.M avs vs→avs.length = xs.length →
    ∀ {Q:Unit→Shared→Prop} {E:Value→Shared→Prop},(∀ d,Map.leB own c.M d.M→FS X env sc own d m (binds xs avs L)→Q () d.s)→wpAny (model X.prog X.w) A (assignInOrder (xs.map fun n=>bindName env n) vs) Q E c.s:=by
  induction xs with
  | nil =>
    intro avs vs c L F r hl Q E k
    cases avs with
    | nil=>rw [r.i_nil]; exact wpAny_pure (k c (.rf _) F)
    | cons _ _=>cases hl
  | cons x xs ih =>
    intro avs vs c L F r hl Q E k
    cases avs with
    | nil=>cases hl
    | cons a avs =>
      cases r.i_cons with
      | @mk v vs r1 r2 =>
        show wpAny _ A (do holding vs (bindName env x v); assignInOrder (xs.map fun n=>bindName env n) vs) Q E c.s
        exact wpAny_bind (wpAny_holding (wpAny_bindName (F.store (hx x List.mem_cons_self) r1 fun d l F1=>ih (fun y hy=>hx y (List.mem_cons_of_mem _ hy)) F1 (r2.up0 (F.l0 l)) (Nat.succ.inj hl) fun d2 l2 F2=>k d2 (l.tr l2) F2)))
private theorem FS.rev {env:Env} {own:List Addr} {A:Around} {d:Cf} {v:Value} {xs:List Str} {avs:List AV} (F:FS X env sc own d m L) (r:Rep d.M (.tup avs) v) (hl:avs.length = xs.length) (hx:∀ x∈xs,Sto env own x) (hA:A.handled = none) {Q:Unit→Shared→Prop} {E:Value→Shared→Prop}
    (q:∀ e,Map.leB own d.M e.M→FS X env sc own e m (binds xs.reverse avs.reverse L)→Q () e.s):wpAny (model X.prog X.w) A (unpackItems v xs.length none) (fun items s₂=>wpAny (model X.prog X.w) A (assignInOrder (xs.reverse.map fun n=>bindName env n) items.reverse) Q E s₂) E d.s:=by
  cases r.i_tup with
  | @mk b vs n hk rs =>
    have hlen:xs.length = vs.toArray.size:=hl.symm.trans rs.len.symm
    rw [hlen]
    refine unpackItems_tuple hA ⟨_,F.S.frz hk,rfl,n,rfl⟩ fun h' hx'=>?_
    have F2:=F.new (h':=h') (tk:=d.s.toks) fun b o e=>hx' b o (Nat.ne_of_lt (Heap.lt_size e)) e
    exact bindNames (fun x hm=>hx x (List.mem_reverse.mp hm)) F2 rs.reverse (by rw [List.length_reverse,List.length_reverse]; exact hl) q
private theorem W.asgRev {xs:List Str} {avs:List AV} (hw:swappedStores [.Tuple es k tp] e (envWith sc) = pure (some xs)) (hs:notComp e = true) (hx:xs.all (okB sc) = true) (hl:avs.length = xs.length) (he:PE X D sc e L m (.tup avs) m1) (h:W X D sc rest (binds xs.reverse avs.reverse L) m1 P):W X D sc (.Assign [.Tuple es k tp] e p :: rest) L m P :=
  .seq fun env own A c T Q E q=>Assign_Tuple_swapped (he.go T fun v d l F r=>F.rev r hl (fun x hm=>T.T x (nameOk (List.all_eq_true.mp hx x hm))) T.R.1 fun d2 l2 F3=>q .next d2 .next _ _ ⟨l.tr l2,F3,.next,h⟩) (noSwap_c hs (some (.Tuple es k tp)) p.line env) (swStores hw env T.F.N.names T.F.N.kind)
end
inductive TupK (n:Nat) (K:List AV→Prop):AV→Prop
  | mk {avs:List AV}:avs.length = n→K avs→TupK n K (.tup avs)
section
variable {G:Cx} {L L':Lc} {m m1:Mem} {P:RP} {rest:List Stmt} {es:List Expr} {k:Nat} {tp p:Pos} {e:Expr}
private theorem W.tup {xs:List Str} (hD:4≤G.D) (hw:swappedStores [.Tuple es k tp] e (envWith G.sc) = pure none) (hs:notComp e = true) (hn:NamesT G.sc es xs) (h:wpE G 40 e L m fun av m1=>TupK xs.length (fun avs=>wpS G 40 40 rest (binds xs avs L) m1 P) av):W G.X G.D G.sc (.Assign [.Tuple es k tp] e p :: rest) L m P :=
  ((wpOk hD 40).e _ _ _ _ h).go fun v m' h1 h=>by
    cases h with
    | mk hl h=>exact .asg hw hs h1 (.tup hn hl) (wpS_ok hD h)
private theorem W.tupR {xs:List Str} (hD:4≤G.D) (hw:swappedStores [.Tuple es k tp] e (envWith G.sc) = pure (some xs)) (hs:notComp e = true) (hx:xs.all (okB G.sc) = true) (h:wpE G 40 e L m fun av m1=>TupK xs.length (fun avs=>wpS G 40 40 rest (binds xs.reverse avs.reverse L) m1 P) av):W G.X G.D G.sc (.Assign [.Tuple es k tp] e p :: rest) L m P :=
  ((wpOk hD 40).e _ _ _ _ h).go fun v m' h1 h=>by
    cases h with
    | mk hl h=>exact .asgRev hw hs hx hl h1 (wpS_ok hD h)
end
end
section
open PySem PySem.W PyProof.Rows PySem.Calls PySem.SeqAt
section
variable {G:Cx} {L:Lc} {m m1:Mem} {tgt iter kx vx t:Expr} {scope:Scope} {pos:Pos} {K:AV→Mem→Prop} {av:AV}
private theorem swTrue {sc:Names} {elt:Expr} {gens:List Comprehension} {scope:Scope} {pos p':Pos} {x:Str} {l:Nat} {r:Sem Bool} (h:swapsWith (.ListComp elt gens scope pos) (some (.Name x p')) l (envWith sc) = r) (env:Env) (h1:NmR env.scope.names sc) (h2:env.scope.kind = .function):swapsWith (.ListComp elt gens scope pos) (some (.Name x p')) l env = r:=by
  have hb:env.blockKind = (envWith sc).blockKind:=by unfold Env.blockKind; rw [h2]; rfl
  refine Eq.trans ?_ h
  show (pure (env.blockKind == .function && (env.scope.names.lookup x == some .local) && _ && _):Sem Bool) = _
  rw [hb,h1.loc x]; rfl
section
variable {elt:Expr} {ifs:List Expr} {x:Str} {p p':Pos} {P:RP} {rest:List Stmt}
private theorem W.lcX {X:Amb} {D:Nat} {sc:Names} {b:Bool} {xs ys:List AV} {mF:Mem} (n:CNames sc scope iter L) (hi:PI X D sc tgt iter L m xs m1) (cl:CL X D (relN sc scope.names) scope.names tgt ifs (seen scope.names L) AccL (emitL elt) xs [] m1 ys mF)
    (hsw:swapsWith (.ListComp elt [⟨tgt,iter,ifs,0⟩] scope pos) (some (.Name x p')) p.line (envWith sc) = pure b) (hx:okB sc x = true) (h:W X D sc rest ((x,.lst ys) :: L) mF P) :
    W X D sc (.Assign [.Name x p'] (.ListComp elt [⟨tgt,iter,ifs,0⟩] scope pos) p :: rest) L m P:=by
  cases b with
  | true=>exact .lcSwap n hi cl (swTrue hsw) hx h
  | false=>exact .set' (swTrue hsw) hx (.lc n hi cl) h
private theorem W.mapA (hD:4≤G.D) {α:Type} {f:α→AV} {xs:List α} (hn:CNm G.sc scope L) (set:CSt iter) (hi:wpE G 40 iter L m (IsV av m1)) (hv:ItV G.X G.D tgt m1 av (xs.map f)) (hz:xs.length≤2 ^ 23) (g:α→AV)
    (hs:∀ x,x∈xs→∃ L',AsgC G.X G.D (relN G.sc scope.names) scope.names tgt (seen scope.names L) (f x) L'∧wpE (G.inner scope.names) 40 elt L' m1 (IsV (g x) m1))
    {b:Bool} (hsw:swapsWith (.ListComp elt [⟨tgt,iter,[],0⟩] scope pos) (some (.Name x p')) p.line (envWith G.sc) = pure b) (hx:okB G.sc x = true)
    (he:wpS G 40 40 rest (bd x (.lst (xs.map g)) L) m1 P):W G.X G.D G.sc (.Assign [.Name x p'] (.ListComp elt [⟨tgt,iter,[],0⟩] scope pos) p :: rest) L m P :=
  (turns0 (G:=G.inner scope.names) (ifs:=[]) (L:=seen scope.names L) (elt:=elt) (m1:=m1) (fun k ys m=>ys = (xs.take k).map g∧m = m1) hz ⟨rfl,rfl⟩ fun k x ys m hx i=>by
    obtain ⟨rfl,rfl⟩:=i
    refine (hs x (List.mem_of_getElem? hx)).imp fun L' h=>⟨h.1,true,m,.nil,fun zz=>OkE.go ((wpOk (G:=G.inner scope.names) hD 40).e _ _ _ _ h.2) fun y m3 h1 h2=>?_,nofun⟩
    cases h2
    exact .mk h1 ⟨by rw [List.take_add_one,hx,List.map_append]; rfl,rfl⟩).elim fun ys h=>h.elim fun mF h=>.lcX (.mk' hn set) (.of (.wp hD hi) hv) h.1 hsw hx (wpS_ok (k:=40) (n:=40) hD (by rw [h.2.1,h.2.2,List.take_length]; exact he))
end
end
end
section
open PySem PySem.W PyProof.Rows PySem.Calls PySem.SeqAt
structure FreeK (M:Map) (names:Names) (cl:List (Str × Addr)) (fvs:Lc):Prop where
  cel:∀ x c,cl.lookup x = some c→∃ o,M.ob c o
  var:∀ x av,fvs.lookup x = some av→names.lookup x = some .free∧∃ c o v,cl.lookup x = some c∧M.ob c o∧o.data = .cell (some v)∧Rep M av v
structure CloOk (ps:List Str) (scope:Scope):Prop where
  kind:scope.kind = .function
  co:scope.isCoroutine = false
  gen:scope.isGenerator = false
  dbg:scope.names.lookup ("__debug__":Str) = none
  cld:scope.names.lookup ("__classdict__":Str) = none
  nd:ps.Nodup
  nc:∀ x∈scope.names,x.2 ≠ .cell
  kd:∀ x∈ps,scope.names.lookup x = some .local
noncomputable def cloOkB (ps:List Str) (scope:Scope):Bool:=scope.kind == .function && !scope.isCoroutine && !scope.isGenerator && (scope.names.lookup ("__debug__":Str)).isNone && (scope.names.lookup ("__classdict__":Str)).isNone && decide ps.Nodup && (scope.names.all fun x=>x.2 != .cell) && ps.all fun x=>scope.names.lookup x == some .local
private theorem cloOk {ps:List Str} {scope:Scope} (h:cloOkB ps scope = true):CloOk ps scope:=by
  unfold cloOkB at h
  simp only [Bool.and_eq_true,beq_iff_eq,Bool.not_eq_true',Option.isNone_iff_eq_none,List.all_eq_true,bne_iff_ne,decide_eq_true_eq] at h
  exact ⟨h.1.1.1.1.1.1.1,h.1.1.1.1.1.1.2,h.1.1.1.1.1.2,h.1.1.1.1.2,h.1.1.1.2,h.1.1.2,h.1.2,h.2⟩
section
variable {X:Amb} {D:Nat} {m:Mem}
private theorem rev_lookup {α:Type} {x:Str} {v:α} {l:List (Str × α)} (hn:(l.map (·.1)).Nodup) (h:l.lookup x = some v):l.reverse.lookup x = some v :=
  lookup_mem (by rw [List.map_reverse]; exact List.pairwise_reverse.mpr (List.Pairwise.imp Ne.symm hn)) (List.mem_reverse.mpr (mem_of_lookup h))
private theorem enterF {c:Cf} {A:Around} {fd:FuncData} {a:Addr} {ps:List Str} {avs:List AV} {vs:List Value} {fvs:Lc} {h₁:Heap} {tk:Nat} (ok:CloOk ps fd.scope) (hg:fd.globals = mainGlobals) (hb:fd.builtins = builtinsNs) (Fv:FreeK X.B fd.scope.names fd.closure fvs) (R:Room A (D + 1)) (S:Hp X c m) (rs:Reps c.M avs vs)
    (hns:h₁.Ns c.s.heap.objs.size (fun x=>(ps.zip vs).reverse.lookup x)) (hk:∀ b o,c.s.heap.get? b = some o→h₁.get? b = some o) :
    Ent X D fd.scope.names (callEnv fd c.s.heap.objs.size a) [c.s.heap.objs.size] (A.deeper (callEnv fd c.s.heap.objs.size a)) c ⟨{ c.s with heap:=h₁,toks:=tk },c.M.pins h₁ [c.s.heap.objs.size]⟩ (ps.zip avs++fvs) m:=by
  have S1:Sep X { c.s with heap:=h₁,toks:=tk } c.M m:=S.keep fun b o zz e=>hk b o e
  have fr:∀ b∈[c.s.heap.objs.size],c.M.h b = none:=fun b hb=>List.mem_singleton.mp hb ▸ S.top
  have le:c.M.le (c.M.pins h₁ [c.s.heap.objs.size]):=Map.le_pins fr
  have up:∀ b o,X.B.ob b o→(c.M.pins h₁ [c.s.heap.objs.size]).ob b o:=fun b o e=>(e.up S.x).up le
  have cne:∀ x b,fd.closure.lookup x = some b→b ∉ [c.s.heap.objs.size]:=fun x b h q=>(Fv.cel x b h).elim fun o e=>by rcases e.up S.x with e | e <;> (rw [fr b q] at e; cases e)
  have hL:c.s.heap.objs.size∈[c.s.heap.objs.size]:=List.mem_singleton.mpr rfl
  refine ⟨le,fr,R.deep _,fun x hx=>hx.imp id fun hk=>absurd rfl (ok.nc (x,.cell) (mem_of_lookup hk)),{
    S:=S1.pins fr
    ow:=fun b hb=>⟨?_,?_⟩
    ns:=⟨_,hns⟩
    L:=hL
    cell:=fun x b h q=>absurd q (cne x b h)
    cL:=fun x b h q=>absurd q (cne x b h)
    inj:=fun x y b h zz q=>absurd q (cne x b h)
    N:={
      names:=.rf _
      kind:=ok.kind
      gl:=hg
      bu:=hb
      dbg:=ok.dbg
      cld:=ok.cld
      cel:=fun x b h=>(Fv.cel x b h).imp fun o e=>up b o e
      var:=fun x av h=>by
        rw [List.lookup_append] at h
        cases q:(ps.zip avs).lookup x with
        | some w =>
          rw [q] at h; cases h
          obtain ⟨v,hv,r⟩:=zipRep rs q
          obtain ⟨o,es,ep,q1,q2,q3,q4⟩:=hns
          exact ⟨v,r.up le,.loc (ok.kd x ((zip_nd ok.nd).2 (lookup_key hv))) (Map.pins_in hL q1) q2 q3 (by rw [q4]; exact rev_lookup (zip_nd (x:=x) ok.nd).1 hv)⟩
        | none =>
          rw [q] at h
          obtain ⟨k1,b,o,v,k2,k3,k4,k5⟩:=Fv.var x av h
          exact ⟨v,(k5.up S.x).up le,.cel (.inr k1) k2 (up b o k3) k4⟩ } }⟩
  · rw [List.mem_singleton.mp hb]; obtain ⟨o,_,_,e,_⟩:=hns; exact ⟨o,Map.pins_in hL e⟩
  · cases e:X.B.h b with
    | none=>rfl
    | some y=>have:=S.x.h _ _ e; rw [fr b hb] at this; cases this
private theorem FnAt.callF {F:Fd} {q:Str} {cl:List (Str × Addr)} {a:Addr} {ps:List Str} {avs:List AV} {fvs:Lc} {R:AV→Mem→Prop} (h:FnAt X.B F q cl .none a) (lim:NoLim X.B) (ok:CloOk ps F.scope) (Fv:FreeK X.B F.scope.names cl fvs) (hbind:∀ doc pm cd ct,BindN (fnXD F q cl .none doc pm cd ct) ps [] []) (hl:avs.length = ps.length)
    (hb:W X D F.scope.names F.body (ps.zip avs++fvs) m (Ret R)):CallR X (D + 1) (opF a) m avs R:=fun A c vs Ro S rs Q E k=>by
  obtain ⟨o,doc,pm,cd,ct,h⟩:=h
  refine wpAny_call (codeAny_call_def (fd:=fnXD F q cl .none doc pm cd ct) (binds:=ps.zip vs) (by have:=Ro.2.1; lia) (S.base h.m) h.data (lim.lim S) (h.code.go S) rfl (BindsTo.of_eq ((hbind doc pm cd ct).to (rs.len.trans hl))) ok.nc (fun x hx=>ok.kd _ (List.of_mem_zip hx).1) (fun h₁ hns hk=>?_) ok.co ok.gen ok.kind)
  exact wpAny_mono ((enterF (fd:=fnXD F q cl .none doc pm cd ct) (a:=a) ok rfl rfl Fv Ro S rs hns hk).run hb.e k) (fun zz zz x=>x) fun zz zz x=>x.elim
end
end
section
open PySem PySem.W PyProof.Rows PySem.Calls PySem.SeqAt
noncomputable def unpin:Cel→Cel
  | .pin o=>.frz o
  | x=>x
noncomputable def Map.melt (M:Map) (cs:List Addr):Map:=⟨fun a=>if a∈cs then (M.h a).map unpin else M.h a,M.g⟩
noncomputable def notPin:Cel→Option Cel
  | .pin _=>none
  | x=>some x
noncomputable def Map.base (M B:Map):Map:=⟨fun a=>((M.h a).bind notPin).elim (B.h a) some,M.g⟩
noncomputable def Amb.over (X:Amb) (M:Map):Amb:={ X with B:=M.base X.B }
section
variable {M B:Map} {cs:List Addr} {a:Addr} {x:Cel}
private theorem Map.melt_out (h:a ∉ cs):(M.melt cs).h a = M.h a:=if_neg h
private theorem Map.melt_in {o:Obj} (h:a∈cs) (e:M.h a = some (.pin o)):(M.melt cs).h a = some (.frz o):=(if_pos h).trans (by rw [e]; rfl)
private theorem Map.melt_keep (n:∀ o,x ≠ .pin o) (e:M.h a = some x):(M.melt cs).h a = some x:=by
  show (if a∈cs then (M.h a).map unpin else M.h a) = _
  split
  · rw [e]; cases x <;> first | rfl | exact absurd rfl (n _)
  · exact e
private theorem Map.melt_le0:M.le0 (M.melt cs):=fun zz zz e n=>Map.melt_keep n e
private theorem Map.melt_cell {mem:Mem} {h:Heap} (c:∀ a x,M.h a = some x→CellAt M mem h a x):∀ a x,(M.melt cs).h a = some x→CellAt (M.melt cs) mem h a x:=fun a x e=>by
  have e:(if a∈cs then (M.h a).map unpin else M.h a) = some x:=e
  split at e
  · obtain ⟨y,q,rfl⟩:=Option.map_eq_some_iff.mp e
    have:=(c a y q).go (h':=h) Map.melt_le0 (fun zz e=>e) (fun zz zz=>rfl) (N:=M.melt cs) (mem':=mem)
    cases y with
    | pin o=>cases this with
      | pin g=>exact .frz g
    | _=>exact this
  · exact (c a x e).go Map.melt_le0 (fun zz e=>e) fun zz zz=>rfl
private theorem Map.melt_mu {j:Nat} (e:(M.melt cs).h a = some (.mu j)):M.h a = some (.mu j):=by
  have e:(if a∈cs then (M.h a).map unpin else M.h a) = some (.mu j):=e
  split at e
  · obtain ⟨y,q,z⟩:=Option.map_eq_some_iff.mp e
    cases y <;> cases z
    exact q
  · exact e
private theorem Map.base_keep (n:∀ o,x ≠ .pin o) (e:M.h a = some x):(M.base B).h a = some x:=by
  show (((M.h a).bind notPin).elim (B.h a) some) = _
  rw [e]; cases x <;> first | rfl | exact absurd rfl (n _)
private theorem Map.base_pin {o:Obj} (e:M.h a = some (.pin o)):(M.base B).h a = B.h a:=by
  show (((M.h a).bind notPin).elim (B.h a) some) = _
  rw [e]; rfl
private theorem Map.base_le (l:B.le M):B.le (M.base B)∧(M.base B).le M:=by
  refine ⟨⟨fun a x e=>?_,l.g⟩,fun a x e=>?_,fun zz zz e=>e⟩
  · have q:=l.h a x e
    cases x with
    | pin o=>rw [Map.base_pin q]; exact e
    | frz o=>exact Map.base_keep (fun zz h=>by cases h) q
    | mu i=>exact Map.base_keep (fun zz h=>by cases h) q
    | tab t=>exact Map.base_keep (fun zz h=>by cases h) q
  · have e:(((M.h a).bind notPin).elim (B.h a) some) = some x:=e
    cases q:M.h a with
    | none=>rw [q] at e; have:=l.h a x e; rw [q] at this; cases this
    | some y =>
      rw [q] at e
      cases y with
      | pin o=>rw [← q]; exact l.h a x e
      | _=>exact e
end
noncomputable def kept (ns sc:Names):Names:=sc.map fun p=>(p.1,if (p.2 == .cell && ns.lookup p.1 == some .free) = true then .free else p.2)
private theorem kept_lookup (ns:Names) (x:Str):∀ sc:Names,(kept ns sc).lookup x = (sc.lookup x).map fun k=>if (k == .cell && ns.lookup x == some .free) = true then .free else k
  | []=>rfl
  | (n,k) :: r=>by
    show List.lookup x ((n,_) :: kept ns r) = _
    rw [List.lookup_cons,List.lookup_cons]
    cases hx:x == n with
    | true=>rw [beq_iff_eq.mp hx]; rfl
    | false=>exact kept_lookup ns x r
noncomputable def OnlyRet (P:RP):RP
  | .ret v,L,m=>P (.ret v) L m
  | _,_,_=>False
section
variable {X:Amb} {D:Nat} {sc names:Names} {env:Env} {own:List Addr} {A:Around} {c:Cf} {L:Lc} {m:Mem}
structure Gave (X:Amb) (D:Nat) (sc names:Names) (env:Env) (own:List Addr) (A:Around) (c:Cf) (L:Lc) (m:Mem) (X':Amb) (own':List Addr) (c':Cf):Prop where
  s:c'.s = c.s
  o:X' = X.over c'.M
  l:c.M.lef X'.B
  b:X.B.le X'.B
  T:Now X' D (kept names sc) env own' A c' L m
  F:FreeK X'.B names (closL env.cells names []) (seen names L)
  m:∀ a x,a ∉ own→c.M.h a = some x→c'.M.h a = some x
  w:∀ a∈own',a∈own
  gg:∀ i x,c.M.g i = some x→c'.M.g i = some x
  bp:∀ a o,c'.M.h a = some (.pin o)→X'.B.h a = X.B.h a
  fz:∀ x b,(closL env.cells names []).lookup x = some b→∃ o,X'.B.h b = some (.frz o)
  k:∀ {P:RP} {v:Flow} {d:Cf} {fl:AFlow} {L':Lc} {m':Mem},Fin X' env (kept names sc) own' c' (OnlyRet P) v d fl L' m'→Fin X env sc own c P v d fl L' m'
noncomputable def giveOk (sc names:Names) (L:Lc):Bool:=decide (names.map (·.1)).Nodup && names.all fun p=>p.2 != .free || (sc.lookup p.1 == some .cell && (L.lookup p.1).isSome)
private theorem giveOk_c (h:giveOk sc names L = true) {x:Str} (hx:(x,NameKind.free)∈names):sc.lookup x = some .cell∧(L.lookup x).isSome = true:=by
  have:=List.all_eq_true.mp (Bool.and_eq_true_iff.mp h).2 _ hx
  rcases Bool.or_eq_true_iff.mp this with q | q
  · cases q
  · rw [Bool.and_eq_true] at q; exact ⟨beq_iff_eq.mp q.1,q.2⟩
private theorem Now.give (T:Now X D sc env own A c L m) (ok:giveOk sc names L = true):∃ X' own' c',Gave X D sc names env own A c L m X' own' c':=by
  have F:=T.F
  have cap:∀ x,(x,NameKind.free)∈names→env.kindOf x = some .cell∧∃ b,env.cells.lookup x = some b∧b∈own:=fun x hx=>by
    have h1:=(giveOk_c ok hx).1
    have h2:env.kindOf x = some .cell:=F.N.names.at h1 nofun
    exact (T.T x (.inr h1)).elim (fun q=>by rw [h2] at q; cases q) fun q=>q
  generalize hcs:(closL env.cells names []).map (·.2) = cs
  have csx:∀ b∈cs,∃ x,(x,NameKind.free)∈names∧env.cells.lookup x = some b:=fun b hb=>by
    rw [← hcs] at hb
    obtain ⟨⟨x,b'⟩,h,rfl⟩:=List.mem_map.mp hb
    exact ⟨x,mem_closL h⟩
  have cso:∀ b∈cs,b∈own:=fun b hb=>by
    obtain ⟨x,h1,h2⟩:=csx b hb
    obtain ⟨b',h3,h4⟩:=(cap x h1).2
    rw [h2] at h3; cases h3; exact h4
  have incs:∀ x b,(x,NameKind.free)∈names→env.cells.lookup x = some b→b∈cs:=fun x b h1 h2=>hcs ▸ List.mem_map_of_mem (f:=(·.2)) (closL_mem h1 h2)
  have lb:X.B.le (c.M.melt cs):=⟨fun a x e=>(Map.melt_out fun h=>by have:=(F.ow a (cso a h)).2; rw [e] at this; cases this).trans (F.S.x.h a x e),F.S.x.g⟩
  have bl:=Map.base_le lb
  have l0:c.M.le0 ((c.M.melt cs).base X.B):=fun a x e n=>Map.base_keep n (Map.melt_keep n e)
  have frz:∀ b∈cs,∃ o,c.M.h b = some (.pin o)∧((c.M.melt cs).base X.B).h b = some (.frz o):=fun b hb=>(F.ow b (cso b hb)).1.imp fun o e=>⟨e,Map.base_keep (fun zz h=>by cases h) (Map.melt_in hb e)⟩
  have sub:∀ b,b∈own.filter (fun b=>decide (b ∉ cs))→b∈own∧b ∉ cs:=fun b hb=>by
    rw [List.mem_filter] at hb; exact ⟨hb.1,of_decide_eq_true hb.2⟩
  have ob:∀ b o,c.M.ob b o→(c.M.melt cs).ob b o:=fun b o h=>by
    by_cases hb:b∈cs
    · obtain ⟨o',e,_⟩:=frz b hb
      rcases h with h | h
      · rw [e] at h; cases h
      · rw [e] at h; cases h; exact .inl (Map.melt_in hb e)
    · unfold Map.ob; rw [Map.melt_out hb]; exact h
  have S':Sep (X.over (c.M.melt cs)) c.s (c.M.melt cs) m:={ c:=Map.melt_cell F.S.c,i:=fun a b j e1 e2=>F.S.i a b j (Map.melt_mu e1) (Map.melt_mu e2),g:=F.S.g,x:=bl.2,os:=F.S.os,bare:=F.S.bare }
  refine ⟨X.over (c.M.melt cs),own.filter fun b=>decide (b ∉ cs),⟨c.s,c.M.melt cs⟩,{ s:=rfl,o:=rfl,l:=l0.f,b:=bl.1,T:=⟨T.R,fun x hx=>?_,{ S:=S',N:={ F.N with names:=fun x=>?_,dbg:=?_,cld:=?_,cel:=fun x b h=>(F.N.cel x b h).imp fun o e=>ob b o e,var:=fun x av h=>?_ },ow:=fun b hb=>?_,ns:=F.ns,L:=?_,cell:=fun x b h q=>F.cell x b h (sub b q).1,cL:=fun x b h q=>F.cL x b h (sub b q).1,inj:=fun x y b h1 h2 q=>F.inj x y b h1 h2 (sub b q).1 }⟩,F:=⟨fun x b h=>?_,fun x av h=>?_⟩,m:=fun a x n e=>(Map.melt_out fun h=>n (cso a h)).trans e,w:=fun a h=>(sub a h).1,gg:=fun zz zz e=>e,bp:=fun a o e=>Map.base_pin e,fz:=fun x b h=>(frz b (incs x b (mem_closL (mem_of_lookup h)).1 (mem_closL (mem_of_lookup h)).2)).imp fun o e=>e.2,k:=fun {P v d fl L' m'} f=>?_ }⟩
  · rw [kept_lookup] at hx
    cases e:sc.lookup x with
    | none=>rw [e] at hx; exact hx.elim nofun nofun
    | some k =>
      rw [e] at hx
      cases k with
      | «local»=>exact .inl (F.N.names.at e nofun)
      | cell =>
        rcases T.T x (.inr e) with q | ⟨q,b,h1,h2⟩
        · exact .inl q
        · refine .inr ⟨q,b,h1,List.mem_filter.mpr ⟨h2,decide_eq_true fun hb=>?_⟩⟩
          obtain ⟨y,h3,h4⟩:=csx b hb
          cases F.inj x y b h1 h4 h2
          rw [lookup_mem (of_decide_eq_true (Bool.and_eq_true_iff.mp ok).1) h3] at hx
          exact hx.elim nofun nofun
      | _=>exact hx.elim nofun nofun
  · rw [kept_lookup]
    rcases F.N.names x with e | ⟨e1,e2⟩
    · rw [e]
      cases sc.lookup x with
      | none=>exact .inl rfl
      | some k =>
        cases q:(k == NameKind.cell && names.lookup x == some NameKind.free) with
        | true=>exact .inr ⟨congrArg some (beq_iff_eq.mp (Bool.and_eq_true_iff.mp q).1),congrArg some (if_pos q)⟩
        | false=>exact .inl (congrArg some (if_neg (by rw [q]; exact Bool.false_ne_true)).symm)
    · rw [e1,e2]; exact .inr ⟨rfl,rfl⟩
  · rw [kept_lookup,F.N.dbg]; rfl
  · rw [kept_lookup,F.N.cld]; rfl
  · obtain ⟨v,r,z⟩:=F.N.var x av h
    refine ⟨v,r.up0 Map.melt_le0,?_⟩
    cases z with
    | loc k q1 q2 q3 q4=>exact .loc k ((Map.melt_out fun hb=>by obtain ⟨y,_,h4⟩:=csx _ hb; exact F.cL y _ h4 (cso _ hb) rfl).trans q1) q2 q3 q4
    | cel k h1 h2 h3=>exact .cel k h1 (ob _ _ h2) h3
  · obtain ⟨h1,h2⟩:=sub b hb
    obtain ⟨⟨o,e⟩,q⟩:=F.ow b h1
    have e:(c.M.melt cs).h b = some (.pin o):=(Map.melt_out h2).trans e
    exact ⟨⟨o,e⟩,(Map.base_pin e).trans q⟩
  · exact List.mem_filter.mpr ⟨F.L,decide_eq_true fun hb=>by obtain ⟨y,_,h4⟩:=csx _ hb; exact F.cL y _ h4 (cso _ hb) rfl⟩
  · exact (frz b (incs x b (mem_closL (mem_of_lookup h)).1 (mem_closL (mem_of_lookup h)).2)).imp fun o e=>.inl e.2
  · obtain ⟨h1,h2⟩:=seen_lookup h
    have hm:=mem_of_lookup h2
    obtain ⟨v,r,z⟩:=F.N.var x av h1
    refine ⟨h2,?_⟩
    cases z with
    | loc k=>have:=(cap x hm).1; rw [k] at this; cases this
    | @cel b o k q1 q2 q3 =>
      obtain ⟨o',e1,e2⟩:=frz b (incs x b hm q1)
      have:o' = o:=by
        rcases q2 with q | q
        · rw [e1] at q; cases q
        · rw [e1] at q; cases q; rfl
      subst this
      exact ⟨b,o',v,lookup_first (closL_mem hm q1) fun d hd=>Option.some.inj ((mem_closL hd).2.symm.trans q1),.inl e2,q3,r.up0 l0⟩
  · cases fl with
    | ret v=>exact ⟨⟨fun a x n e=>f.l.h a x (fun h=>n (sub a h).1) ((Map.melt_out fun h=>n (cso a h)).trans e),f.l.g⟩,{ f.F with x:=bl.1.tr f.F.x },f.r,f.p⟩
    | _=>exact f.p.elim
end
end
section
open PySem PySem.W PyProof.Rows PySem.Calls PySem.SeqAt
private theorem codeAmong_app {pos pos':Pos} {c cv:Value}:∀ (l:List Value),TriplesOk l→codeAmong pos' (l++[rawInt pos.line,rawInt pos.col,c]) = some cv →
    codeAmong pos' l = some cv∨(pos'.line = pos.line∧pos'.col = pos.col∧cv = c)
  | [],_,e=>by
    simp only [List.nil_append,rawInt,codeAmong] at e
    split at e
    · rename_i h
      rw [Bool.and_eq_true,beq_iff_eq,beq_iff_eq] at h
      cases e; exact .inr ⟨(Int.ofNat.inj h.1).symm,(Int.ofNat.inj h.2).symm,rfl⟩
    · cases e
  | .int a t :: .int b u :: d :: r,h,e=>by
    simp only [List.cons_append,codeAmong] at e ⊢
    split at e
    · rename_i h1; cases e; left; rw [if_pos h1]
    · rename_i h1
      rw [if_neg h1]
      exact codeAmong_app r h e
structure Makes' (X:Amb) (st:Site) (mg:Str→Option Value) (bm:Addr) (o:Obj):Prop where
  t:X.B.h st.t = some (.tab st)
  hd:∀ h:Heap,(∀ b o,X.B.h b = some (.frz o)→h.get? b = some o)→CodeHd h st.c st.t
  gl:NsM X.B mainGlobals mg
  b:mg "__builtins__" = some (.ref bm)
  n1:bm ≠ builtinsNs
  n2:bm ≠ mainGlobals
  bm:X.B.h bm = some (.frz o)
  cls:o.cls = .type "module"
  dict:o.dict = some builtinsNs
  data:o.data = .plain
noncomputable def Makes (X:Amb) (st:Site):Prop:=∃ mg bm o,Makes' X st mg bm o
section
variable {X:Amb} {m:Mem} {c:Cf} {st:Site}
noncomputable def fcel (b:Bool) (o:Obj):Cel:=cond b (.frz o) (.pin o)
private theorem fcel_mu {b:Bool} {o:Obj} {j:Nat} (h:fcel b o = .mu j):False:=by cases b <;> cases h
private theorem CellAt.fc {M:Map} {mem:Mem} {h:Heap} {a:Addr} {o:Obj} (b:Bool) (e:h.get? a = some o):CellAt M mem h a (fcel b o):=by
  cases b
  · exact .pin e
  · exact .frz e
structure Made (X:Amb) (c:Cf) (m:Mem) (b:Bool) (qual:Str) (Φ:Obj→Value→Prop) (f:Addr) (d:Cf) (fo:Obj) (cd:Value):Prop where
  nw:c.M.h f = none
  l:c.M.le d.M
  h:Hp X d m
  f:d.M.h f = some (fcel b fo)
  c:CodeRecM d.M cd qual
  p:Φ fo cd
private theorem Sep.made (b:Bool) (S:Hp X c m) (hst:c.M.h st.t = some (.tab st)) {ps:Array Value} (hT:TriplesOk ps.toList) (hold:∀ pq∈st.at',∀ cv,codeAmong pq.1 ps.toList = some cv→CodeRecM c.M cv pq.2) {Φ:Obj→Value→Prop}
    {pos:Pos} {qual:Str} {c':Addr} {h':Heap} {tk:Nat} {fo:Obj} (hx:Heap.ExtBut st.t c.s.heap h') (hge:c.s.heap.objs.size≤c') (hlt:c' < h'.objs.size) (hrec:h'.CodeRec (.ref c') qual)
    (htb:h'.get? st.t = some (tabObj (ps++#[rawInt pos.line,rawInt pos.col,.ref c']))) (hu:∀ pq∈st.at',pq.1.line = pos.line→pq.1.col = pos.col→pq.2 = qual) (hf:fo.isFreed = false) (hp:Φ fo (.ref c')) :
    ∃ M',Made X c m b qual Φ h'.objs.size ⟨{ c.s with heap:=h'.push fo,toks:=tk },M'⟩ fo (.ref c'):=by
  obtain ⟨c2,oc,vs,t,e2,hoc,hd,hv⟩:=hrec
  cases e2
  have nn:∀ a,c.s.heap.objs.size≤a→c.M.h a = none:=fun a h=>S.fresh (by
    cases e:c.s.heap.get? a with
    | none=>rfl
    | some o=>exact absurd (Heap.lt_size e) (Nat.not_lt.mpr h))
  have kc:=nn c' hge
  have kf:=nn h'.objs.size (Nat.le_of_lt (Nat.lt_of_le_of_lt hge hlt))
  have hcf:c' ≠ h'.objs.size:=Nat.ne_of_lt hlt
  have hKf:(c.M.set c' (.frz oc)).h h'.objs.size = none:=(Map.set_ne _ _ hcf.symm).trans kf
  have le:c.M.le ((c.M.set c' (.frz oc)).set h'.objs.size (fcel b fo)):=(Map.le_set _ kc).tr (Map.le_set _ hKf)
  have hcr:CodeRecM ((c.M.set c' (.frz oc)).set h'.objs.size (fcel b fo)) (.ref c') qual:=.mk ((Map.set_ne _ _ hcf).trans (Map.set_at _ _ _)) hd hv
  have hm:∀ {a j},((c.M.set c' (.frz oc)).set h'.objs.size (fcel b fo)).h a = some (.mu j)→c.M.h a = some (.mu j):=fun {a j} e=>by
    by_cases h1:a = h'.objs.size
    · rw [h1,Map.set_at] at e; exact (fcel_mu (Option.some.inj e)).elim
    · rw [Map.set_ne _ _ h1] at e
      by_cases h2:a = c'
      · rw [h2,Map.set_at] at e; cases e
      · rwa [Map.set_ne _ _ h2] at e
  refine ⟨_,kf,le,{ S with c:=fun a x e=>?_,i:=fun a b j e1 e2=>S.i a b j (hm e1) (hm e2),x:=S.x.tr le },Map.set_at _ _ _,hcr,hp⟩
  have e:((c.M.set c' (.frz oc)).set h'.objs.size (fcel b fo)).h a = some x:=e
  by_cases h1:a = h'.objs.size
  · subst h1; rw [Map.set_at] at e; cases e; exact .fc b (Heap.get?_push_size _ hf)
  · rw [Map.set_ne _ _ h1] at e
    by_cases h2:a = c'
    · subst h2; rw [Map.set_at] at e; cases e; exact .frz (Heap.get?_push_of_some _ hoc)
    · rw [Map.set_ne _ _ h2] at e
      by_cases h3:a = st.t
      · subst h3
        rw [hst] at e; cases e
        refine .tab (ps:=ps++#[rawInt pos.line,rawInt pos.col,.ref c']) ⟨Heap.get?_push_of_some _ htb,by simpa using TriplesOk_snoc _ _ _ _ hT,fun pq hpq cv hcv=>?_⟩
        rw [Array.toList_append] at hcv
        rcases codeAmong_app _ hT hcv with h | ⟨h1,h2,h3⟩
        · exact (hold pq hpq cv h).up le.l0.f
        · rw [hu pq hpq h1 h2,h3]; exact hcr
      · exact (S.c a x e).go le.l0 (fun o q=>Heap.get?_push_of_some _ (hx a o h3 q)) fun zz zz=>rfl
private theorem mkFn (b:Bool) (S:Hp X c m) (Mk:Makes X st) {A:Around} {mk:Sem Value} {Q E:Value→Shared→Prop} {qual:Str} {pos:Pos} {Φ:Obj→Value→Prop} (hu:∀ pq∈st.at',pq.1.line = pos.line→pq.1.col = pos.col→pq.2 = qual) (hin:∃ pq∈st.at',pq.1 = pos)
    (miss:∀ mg ps,c.s.heap.Ns mainGlobals mg→CodeHd c.s.heap st.c st.t→c.s.heap.get? st.t = some (tabObj ps)→TriplesOk ps.toList→codeAmong pos ps.toList = none→mainGlobals ≠ st.t→c.s.heap.BuiltinsAt mg st.t →
      (∀ (fo:Obj) (c':Addr) (h':Heap) (tk:Nat),Heap.ExtBut st.t c.s.heap h'→c.s.heap.objs.size≤c'→c' < h'.objs.size→h'.CodeRec (.ref c') qual→h'.get? st.t = some (tabObj (ps++#[rawInt pos.line,rawInt pos.col,.ref c']))→fo.isFreed = false→Φ fo (.ref c')→Q (.ref h'.objs.size) { c.s with heap:=h'.push fo,toks:=tk })→wpAny (model X.prog X.w) A mk Q E c.s)
    (hit:∀ mg ps cv,c.s.heap.Ns mainGlobals mg→CodeHd c.s.heap st.c st.t→c.s.heap.get? st.t = some (tabObj ps)→TriplesOk ps.toList→codeAmong pos ps.toList = some cv→c.s.heap.BuiltinsAt mg st.t →
      (∀ (fo:Obj) (h':Heap) (tk:Nat),(∀ b o,c.s.heap.get? b = some o→h'.get? b = some o)→c.s.heap.objs.size≤h'.objs.size→fo.isFreed = false→Φ fo cv→Q (.ref h'.objs.size) { c.s with heap:=h'.push fo,toks:=tk })→wpAny (model X.prog X.w) A mk Q E c.s)
    (k:∀ f d fo cd,Made X c m b qual Φ f d fo cd→Q (.ref f) d.s):wpAny (model X.prog X.w) A mk Q E c.s:=by
  obtain ⟨mg,bm,o,M⟩:=Mk
  have hst:=S.x.h _ _ M.t
  have ht:∃ ps,TabOk' c.M c.s.heap st.t st ps:=by
    cases S.c _ _ hst with
    | tab h=>exact ⟨_,h⟩
  obtain ⟨ps,hP,hT,hold⟩:=ht
  have hgP:mainGlobals ≠ st.t:=fun q=>by
    cases M.gl with
    | mk a=>rw [q,M.t] at a; cases a
  have hbP:bm ≠ st.t:=fun q=>by have a:=M.bm; rw [q,M.t] at a; cases a
  have hb:c.s.heap.BuiltinsAt mg st.t:=⟨bm,o,M.b,M.n1,M.n2,hbP,S.base M.bm,M.cls,M.dict,M.data⟩
  have C:=M.hd c.s.heap fun b o e=>S.base e
  cases hf:codeAmong pos ps.toList with
  | none=>exact miss mg ps (M.gl.ns S) C hP hT hf hgP hb fun fo c' h' tk hx hge hlt hrec htb h1 h2=>(S.made b hst hT hold hx hge hlt hrec htb hu h1 h2).elim fun M' h=>k _ _ _ _ h
  | some cv =>
    refine hit mg ps cv (M.gl.ns S) C hP hT hf hb fun fo h' tk hk hsz h1 h2=>?_
    have S':Sep X { c.s with heap:=h',toks:=c.s.toks } c.M m:=S.keep fun b o zz e=>hk b o e
    obtain ⟨pq,hpq,e⟩:=hin
    subst e
    have hn:c.M.h h'.objs.size = none:=S'.top
    exact k h'.objs.size ⟨{ c.s with heap:=h'.push fo,toks:=tk },c.M.set h'.objs.size (fcel b fo)⟩ fo cv ⟨hn,Map.le_set _ hn,S'.putNew hn (fun zz zz zz=>push_ne) (fun zz zz zz zz=>rfl) (fun zz e=>(fcel_mu e).elim) (.fc b (Heap.get?_push_size _ h1)),Map.set_at _ _ _,((hu pq hpq rfl rfl) ▸ hold pq hpq cv hf).up (Map.le_set _ hn).l0.f,h2⟩
end
end
section
open PySem PySem.W PyProof.Rows PySem.Calls PySem.SeqAt
private theorem execs_app (l r:List Stmt) (env:Env):execs (l++r) env = execs l env >>= fun f=>match f with | .next=>execs r env | f=>pure f:=by
  induction l with
  | nil=>exact (pure_bind ..).symm
  | cons s l ih =>
    rw [List.cons_append,execs_cons,execs_cons,bind_assoc]
    refine congrArg _ (funext fun f=>?_)
    cases f <;> first | exact ih | exact (pure_bind ..).symm
section
variable {X:Amb} {D:Nat} {sc:Names} {L L':Lc} {m m1:Mem} {P:RP} {rest:List Stmt} {cd:Value} {q:Str}
noncomputable def ThenE (X:Amb) (D:Nat) (sc:Names) (cd:Value) (q:Str) (rest:List Stmt) (P:RP):RP
  | .next,L,m=>WE X D sc cd q rest L m P
  | fl,L,m=>P fl L m
private theorem WE.app {pre:List Stmt} (h:W X D sc pre L m (ThenE X D sc cd q rest P)):WE X D sc cd q (pre++rest) L m P:=fun env own A c e1 e2 T Q E k=>by
  rw [execs_app]
  refine wpAny_bind (h env own A c T _ _ fun v d fl L' m' f=>?_)
  cases f.r with
  | next=>exact f.p env own A d e1 e2 (T.on f.F) Q E fun v e fl L m g=>k v e fl L m (g.fr f.l)
  | brk=>exact wpAny_pure (k _ _ _ _ _ ⟨f.l,f.F,.brk,f.p⟩)
  | cont=>exact wpAny_pure (k _ _ _ _ _ ⟨f.l,f.F,.cont,f.p⟩)
  | ret r=>exact wpAny_pure (k _ _ _ _ _ ⟨f.l,f.F,.ret r,f.p⟩)
structure Knows (X:Amb) (F:Fd) (q:Str) (L:Lc) (X':Amb) (cl:List (Str × Addr)) (f:Addr):Prop where
  o:∃ M,X' = X.over M
  b:X.B.le X'.B
  f:FnAt X'.B F q cl .none f
  v:FreeK X'.B F.scope.names cl (seen F.scope.names L)
private theorem WE.def {st:Site} (Mk:Makes X st) {name:Str} {params:Arguments} {body:List Stmt} {scope:Scope} {pos:Pos} {qual:Str} (hcd:cd = .ref st.c) (hq:q++name = qual) (hx:okB sc name = true) (hcl:scope.names.all (fun p=>p.2 != .free || sc.lookup p.1 == some .cell) = true)
    (hd0:params.defaults = []) (hk0:params.kw_defaults = []) (ha:∀ env,annTrees params none env = []) (hu:∀ pq∈st.at',pq.1.line = pos.line→pq.1.col = pos.col→pq.2 = qual) (hin:∃ pq∈st.at',pq.1 = pos)
    (ok:∀ f,giveOk sc scope.names (bd name (.ext (.ref f)) L) = true)
    (h:∀ X' cl f,Knows X ⟨name,params,body,scope⟩ qual (bd name (.ext (.ref f)) L) X' cl f→W X' D (kept scope.names sc) rest (bd name (.ext (.ref f)) L) m (OnlyRet P)) :
    WE X D sc cd q (.FunctionDef name params body [] none [] scope none name pos :: rest) L m P:=fun env own A c e1 e2 T Q E k=>by
  refine wpAny_execs_cons (nestDef_K hd0 hk0 (ha env) ?_)
  have hqn:qualnameIn env name name = qual:=by
    unfold qualnameIn
    have:(env.kindOf name == some .globalExplicit) = false:=by
      have:env.kindOf name = some .local∨env.kindOf name = some .cell:=(nameOk hx).imp (fun e=>T.F.N.names.at e nofun) fun e=>T.F.N.names.at e nofun
      rcases this with h | h <;> rw [h] <;> rfl
    rw [this,e2]; exact hq
  rw [hqn]
  have hcc:closureFor scope env = pure (closL env.cells scope.names []):=closureFor_eq fun x hx=>by
    have:=List.all_eq_true.mp hcl _ hx
    have:sc.lookup x = some .cell:=beq_iff_eq.mp this
    rcases T.T x (.inr this) with q | ⟨_,c,h,_⟩
    · rw [show env.kindOf x = some .cell from T.F.N.names.at this nofun] at q; cases q
    · exact ⟨c,h⟩
  refine mkFn true T.F.S Mk (Φ:=fun fo cd=>∃ doc pm ct,fo = { cls:=.type "function",data:=.func (fnXD ⟨name,params,body,scope⟩ qual (closL env.cells scope.names []) .none doc pm cd ct) }) hu hin
    (fun mg ps h1 h2 h3 h4 h5 h6 h7 k=>makeFunction_K hcc T.F.N.gl h1 (e1.trans hcd) h2 h3 h4 h5 h6 h7 fun c' ctv doc h' tk a b c d e=>k _ c' h' tk a b c d e rfl ⟨_,_,_,rfl⟩)
    (fun mg ps cv h1 h2 h3 h4 h5 h6 k=>makeFunction_hit hcc T.F.N.gl h1 (e1.trans hcd) h2 h3 h4 h5 h6 fun ctv doc h' tk a b=>k _ h' tk a b rfl ⟨_,_,_,rfl⟩) fun f d fo cd' md=>?_
  refine (T.F.keep md.l md.h).store (T.T name (nameOk hx)) (.ext (.ref f)) fun d2 l2 F2=>?_
  obtain ⟨X',own',c',g⟩:=(T.on F2).give (ok f)
  obtain ⟨doc,pm,ct,hfo⟩:=md.p
  have lf:d.M.lef d2.M:=fun a o e=>l2.h a _ (fun ha=>((T.F.keep md.l md.h).ow a ha).1.elim fun o' e'=>by rw [e] at e'; cases e') e
  have fa:FnAt X'.B ⟨name,params,body,scope⟩ qual (closL env.cells scope.names []) .none f:=⟨_,doc,pm,cd',ct,g.l _ _ (lf _ _ (hfo ▸ md.f)),rfl,rfl,(md.c.up lf).up g.l⟩
  have:=h X' _ f ⟨⟨_,g.o⟩,g.b,fa,g.F⟩ env own' A c' g.T Q E fun v e fl L m fin=>k v e fl L m ((g.k fin).fr ((md.l.b own).tr l2))
  rw [g.s,g.o] at this
  exact this
end
end
section
open PySem PySem.W PyProof.Rows PySem.Calls PySem.SeqAt
section
variable {X:Amb} {D:Nat} {sc:Names} {L:Lc} {m m1 m2 m3:Mem} {P:RP} {rest:List Stmt}
private theorem BinM.mul {xs:List AV} {n:Int} (h0:xs ≠ []) (h1:n≤2 ^ 20) (h2:-(2 ^ 60)≤n) (h3:xs.length * n.toNat≤2 ^ 23):BinM X D (binaryOp .Mult) m (.lst xs) (.int n) (.mref m.length) (sn m (.lst (List.replicate n.toNat xs).flatten)):=fun A c v w R S r q Q E k =>
  mulGo S r q h0 h1 h2 h3 fun us ru=>k _ _ (Got.newMut S ru c.s.toks)
private theorem BinM.of {op:Value→Value→Sem Value} {x y r:AV} (h:Bin X D op m x y r):BinM X D op m x y r m:=h
private theorem FnV.clo {F:Fd} {q:Str} {cl:List (Str × Addr)} {a:Addr} {avs:List AV} {r:AV} (h:FnAt X.B F q cl .none a) (ho:Call X D (opF a) m avs r m1):FnV X D (.ext (.ref a)) m avs r m1:=fun zz zz zz zz zz zz zz hx hp=>.callV hx h hp ho
private theorem Reps.setAt {M:Map} {xs:List AV} {vs:List Value} {k:Nat} {x:AV} {v:Value} (r:Reps M xs vs) (h:Rep M x v):Reps M (xs.set k x) (vs.set k v):=⟨by rw [List.length_set,List.length_set,r.len],fun i y w h1 h2=>by
  rw [List.getElem?_set] at h1 h2
  split at h1
  · rename_i e
    rw [if_pos e] at h2
    split at h1
    · split at h2
      · cases h1; cases h2; exact h
      · cases h2
    · cases h1
  · rename_i e
    rw [if_neg e] at h2
    exact r.at' i y w h1 h2⟩
private theorem W.setIt {o i value:Expr} {pos' pos:Pos} {j:Nat} {k:Int} {xs:List AV} {v:AV} (hs:NoSwap value) (hv:PE X D sc value L m v m1) (ho:PE X D sc o L m1 (.mref j) m2) (hi:PE X D sc i L m2 (.int k) m3) (e:m3[j]? = some (.lst xs)) (h0:0≤k) (h1:k < xs.length) (hz:xs.length≤2 ^ 24)
    (h:W X D sc rest L (m3.set j (.lst (xs.set k.toNat v))) P):W X D sc (.Assign [.Subscript o i pos'] value pos :: rest) L m P:=.seq fun env own A c T Q E q =>
  wpAny_Assign_Subscript (hv.go T fun vv d1 l1 F1 r1=>ho.go (T.on F1) fun vo d2 l2 F2 r2=>hi.go (T.on F2) fun vi d3 l3 F3 r3=>by
    obtain ⟨t,rfl⟩:=r3.i_int
    cases r2.i_mref with
    | @mk a ha =>
      have ha:=F2.l0 l3 a _ ha Cel.mnp
      obtain ⟨us,n,g1,rx⟩:=F3.S.mlist ha e
      have hlen:=rx.len
      refine ki_setAt (items:=us.toArray) (n:=n) g1 h0 (by lia) (by simpa [hlen] using h1) ?_
      have r1':=(r1.up0 (F1.l0 l2)).up0 (F2.l0 l3)
      exact q _ ⟨{ d3.s with heap:=_,toks:=d3.s.toks },d3.M⟩ .next L _ ⟨(l1.tr l2).tr l3,F3.keep (d:=⟨{ d3.s with heap:=_,toks:=d3.s.toks },d3.M⟩) (.rf _) (F3.S.upd ha g1 (ws:=us.set k.toNat vv) (by simp) (rx.setAt r1') _),.next,h⟩) (hs _ _ _)
end
inductive SetK (m:Mem) (v:AV) (K:Mem→Prop):AV→AV→Prop
  | mk {j k xs m'}:m[j]? = some (.lst xs)→0≤k→k < xs.length→xs.length≤2 ^ 24→m.set j (.lst (xs.set k.toNat v)) = m'→K m'→SetK m v K (.mref j) (.int k)
private theorem W.setItR {G:Cx} (hD:4≤G.D) {L:Lc} {m:Mem} {P:RP} {rest:List Stmt} {o i value:Expr} {pos' pos:Pos} (hs:notComp value = true) (h:wpE G 40 value L m fun v m1=>wpE G 40 o L m1 fun a m2=>wpE G 40 i L m2 fun k m3=>SetK m3 v (fun m'=>wpS G 40 40 rest L m' P) a k) :
    W G.X G.D G.sc (.Assign [.Subscript o i pos'] value pos :: rest) L m P :=
  ((wpOk hD 40).e _ _ _ _ h).go fun v m1 h1 h=>((wpOk hD 40).e _ _ _ _ h).go fun a m2 h2 h=>((wpOk hD 40).e _ _ _ _ h).go fun k m3 h3 h=>by
    cases h with
    | mk e a b c hm h=>subst hm; exact .setIt (noSwap_c hs) h1 h2 h3 e a b c (wpS_ok hD h)
end
section
open PySem PySem.W PyProof.Rows PySem.Calls PySem.SeqAt
section
variable {X:Amb} {D:Nat} {sc:Names} {L:Lc} {m m1 m2 m3:Mem}
private theorem callD {fd:FuncData} {o:Obj} {a:Addr} {body:List Stmt} {ps:List Str} {avs:List AV} {R:AV→Mem→Prop} (hm:X.B.h a = some (.frz o)) (hd:o.data = .func fd) (hc:CodeRecM X.B fd.code fd.qualname) (hbody:fd.body = .stmts body) (hg:fd.globals = mainGlobals) (hbu:fd.builtins = builtinsNs) (hcl:fd.closure = []) (lim:NoLim X.B) (ok:CloOk ps fd.scope)
    (hl:avs.length = ps.length) (hb:W X D fd.scope.names body (ps.zip avs) m (Ret R)) {A:Around} {c:Cf} {vs pos:List Value} {kw:List (Str × Value)} (Ro:Room A (D + 1)) (S:Hp X c m) (rs:Reps c.M avs vs) (hbind:BindsTo c.s fd ⟨pos,kw⟩ (ps.zip vs)) {Q E:Value→Shared→Prop} (k:∀ v d r m',R r m'→Got X c m' r v d→Q v d.s) :
    wpAny (model X.prog X.w) A (call (.ref a) pos kw) Q E c.s:=by
  refine wpAny_call (codeAny_call_def (fd:=fd) (binds:=ps.zip vs) (by have:=Ro.2.1; lia) (S.base hm) hd (lim.lim S) (hc.go S) hbody hbind ok.nc (fun x hx=>ok.kd _ (List.of_mem_zip hx).1) (fun h₁ hns hk=>?_) ok.co ok.gen ok.kind)
  have e:=(enterF (fvs:=[]) (a:=a) (tk:=c.s.toks + (ps.zip vs).length) ok hg hbu (by rw [hcl]; exact ⟨nofun,nofun⟩) Ro S rs hns hk)
  rw [List.append_nil] at e
  exact wpAny_mono (e.run hb.e k) (fun zz zz x=>x) fun zz zz x=>x.elim
end
end
section
open PySem PySem.W PyProof.Rows PySem.Calls PySem.SeqAt
structure ClsD where
  (nm q:Str)
  (N:Addr)
  (bs:List Value)
  (sn:List Str)
  (sub:List Value)
  (ab:Bool)
  (col:Option Bool)
  (dd:Option Addr)
  (k0 k1 k2 k3 k5:Option Value)
  (newId:String)
noncomputable abbrev ClsD.obj (r:ClsD) (C:Addr):Obj:=excClassObj r.nm r.q C r.N r.bs [.type "object"] true r.sn r.sub r.ab r.col r.dd r.k0 r.k1 r.k2 r.k3 r.k5 r.newId
structure ClsAt (X:Amb) (C:Addr) (mN:Str→Option Value) (r:ClsD):Prop where
  m:X.B.h C = some (.frz (r.obj C))
  ns:NsM X.B r.N mN
  nga:mN "__getattribute__" = none
  nsa:mN "__setattr__" = none
  nge:mN "__getattr__" = none
noncomputable def Cls (X:Amb) (C:Addr) (mN:Str→Option Value):Prop:=∃ r,ClsAt X C mN r
noncomputable def nsPut:List (Str × AV)→Str→AV→List (Str × AV)
  | [],n,v=>[(n,v)]
  | (k,w) :: r,n,v=>if k = n then (n,v) :: r else (k,w) :: nsPut r n v
private theorem nsPut_lookup (n:Str) (v:AV) (y:Str):∀ l:List (Str × AV),(nsPut l n v).lookup y = if y = n then some v else l.lookup y
  | []=>by
    by_cases h:y = n
    · rw [if_pos h,h]; exact List.lookup_cons_self
    · rw [if_neg h]; show List.lookup y [(n,v)] = _; rw [List.lookup_cons,beq_eq_false_iff_ne.mpr h]
  | (k,w) :: r=>by
    unfold nsPut
    by_cases hk:k = n
    · subst hk
      rw [if_pos rfl,List.lookup_cons,List.lookup_cons]
      by_cases h:y = k
      · rw [if_pos h,beq_iff_eq.mpr h]
      · rw [if_neg h,beq_eq_false_iff_ne.mpr h]
    · rw [if_neg hk,List.lookup_cons,List.lookup_cons,nsPut_lookup n v y r]
      by_cases h:y = k
      · subst h; rw [beq_self_eq_true,if_neg hk,if_neg hk]
      · rw [beq_eq_false_iff_ne.mpr h]
private theorem obj_eq {a b:Obj} (h1:a.cls = b.cls) (h2:a.data = b.data) (h3:a.slots = b.slots) (h4:a.dict = b.dict):a = b:=by
  cases a; cases b; cases h1; cases h2; cases h3; cases h4; rfl
noncomputable def notExt:AV→Prop
  | .ext _=>False
  | _=>True
private theorem rep_handed {M:Map} {av:AV} {v:Value} (r:Rep M av v) (h:notExt av):handedOut v = pure v:=by
  cases r <;> first | rfl | exact h.elim
section
variable {X:Amb} {D:Nat} {sc:Names} {L:Lc} {m m1 m2 m3:Mem} {C:Addr} {mN:Str→Option Value} {i:Nat} {l:List (Str × AV)} {P:RP} {rest:List Stmt}
structure InstA (X:Amb) (c:Cf) (C:Addr) (i:Nat) (l:List (Str × AV)) (x:Addr) (o:Obj) (d:Addr) (mm:Str→Option Value):Prop where
  m:c.M.h x = some (.frz o)
  dict:o.dict = some d
  md:c.M.h d = some (.mu i)
  ne:d ≠ x
  ns:c.s.heap.Ns1 d mm
  I:c.s.heap.Inst x C mm
  v:NsV c.M l mm
private theorem instAt {c:Cf} {v:Value} (S:Hp X c m) (r:Rep c.M (.inst C i) v) (hm:m[i]? = some (.ns l)):∃ x o d mm,v = .ref x∧InstA X c C i l x o d mm:=by
  cases r.i_inst with
  | @mk a d o h1 h2 h3 h4 h5 =>
    have hdx:d ≠ a:=fun q=>by rw [q,h1] at h5; cases h5
    cases S.mu h5 hm with
    | @ns _ mm n1 n2=>exact ⟨a,o,d,mm,rfl,h1,h4,h5,hdx,n1,⟨o,S.frz h1,h2,h3,.inr ⟨d,h4,hdx,n1⟩⟩,n2⟩
private theorem NsV.at' {M:Map} {mm:Str→Option Value} {x:Str} {av:AV} (h:NsV M l mm) (e:l.lookup x = some av):∃ v,mm x = some v∧Rep M av v:=by
  rcases h x with ⟨av2,v2,q1,q2,q3⟩ | ⟨q1,_⟩
  · rw [e] at q1; cases q1; exact ⟨v2,q2,q3⟩
  · rw [e] at q1; cases q1
private theorem NsV.no {M:Map} {mm:Str→Option Value} {x:Str} (h:NsV M l mm) (e:l.lookup x = none):mm x = none:=by
  rcases h x with ⟨av2,v2,q1,_⟩ | ⟨_,q⟩
  · rw [e] at q1; cases q1
  · exact q
private theorem loadInst {c:Cf} {v:Value} {name:Str} {av:AV} (S:Hp X c m) (cl:Cls X C mN) (hna:mN name = none) (hB:typeLookup (.type "object") name = pure none) (r:Rep c.M (.inst C i) v) (hm:m[i]? = some (.ns l)) (hl:l.lookup name = some av) (hx:notExt av) {A:Around} {Q E:Value→Shared→Prop} (k:∀ w d,Got X c m av w d→Q w d.s) :
    wpAny (model X.prog X.w) A (getAttr v name true) Q E c.s:=by
  obtain ⟨x,o,d,mm,rfl,I⟩:=instAt S r hm
  obtain ⟨_,hC,hN,nga,nsa,nge⟩:=cl
  obtain ⟨w,h1,h2⟩:=I.v.at' hl
  exact load_attr (S.base hC) (hN.ns S) nga hna hB I.I h1 (rep_handed h2 hx) (k w _ (.tok S h2 _))
private theorem PE.attr {e:Expr} {name:Str} {pos:Pos} {av:AV} (cl:Cls X C mN) (hna:mN name = Option.none) (hB:typeLookup (.type "object") name = pure Option.none) (hf:PE X D sc e L m (.inst C i) m1) (hm:m1[i]? = some (.ns l)) (hl:l.lookup name = some av) (hx:notExt av)
    (he:∀ env,eval (.Attribute e name pos) env = (do
      let o ← eval e env
      standAt pos.atName
      let r ← holding [o] (getAttr o name true)
      letTemporaryGo e o r
      pure r)):PE X D sc (.Attribute e name pos) L m av m1:=fun env A c T Q E k =>
  Attribute_any_ (hf env A c T _ _ fun v d g=>loadInst g.h cl hna hB g.r hm hl hx fun w d2 g2=>k w d2 (g2.fr g.l)) (he env)
private theorem storeInst {c:Cf} {x v:Value} {name:Str} {av:AV} (S:Hp X c m) (cl:Cls X C mN) (hna:mN name = none) (hB:typeLookup (.type "object") name = pure none) (r:Rep c.M (.inst C i) x) (hm:m[i]? = some (.ns l)) (rv:Rep c.M av v) (hz:l.length≤1000) {A:Around} {Q:Unit→Shared→Prop} {E:Value→Shared→Prop}
    (k:∀ d,Gt X c (m.set i (.ns (nsPut l name av))) d→Q () d.s):wpAny (model X.prog X.w) A (setAttr x name v) Q E c.s:=by
  obtain ⟨x,o,d,mm,rfl,I⟩:=instAt S r hm
  obtain ⟨_,hC,hN,nga,nsa,nge⟩:=cl
  have g1:=S.frz I.m
  have hxC:x ≠ C:=fun e=>by
    have h2:=S.base hC
    rw [← e,g1] at h2; cases h2
    have:=I.dict
    cases I.I with
    | intro o2 h=>obtain ⟨e1,_,e3,_⟩:=h; rw [g1] at e1; cases e1; exact absurd rfl (e3 _)
  have hw:Within mm (l.map (·.1)):=fun y hy=>by
    cases q:l.lookup y with
    | none=>exact absurd (I.v.no q) hy
    | some av=>exact lookup_key q
  refine store_attr F.store_object (S.base hC) (hN.ns S) nsa hna hB hxC I.I (fun h' tk' I' hk hsame=>?_) hw (by rw [List.length_map,sizeLine_is]; exact dB hz rfl)
  obtain ⟨o1,e1,e2,e3,e4,e5⟩:=hsame o g1
  have ho1:o1 = o:=obj_eq e2 e3 e4 ((e5 d I.dict).trans I.dict.symm)
  subst ho1
  have keep:∀ b ob,b ≠ d→c.s.heap.get? b = some ob→h'.get? b = some ob:=fun b ob hb e=>by
    by_cases hbx:b = x
    · subst hbx; rw [g1] at e; cases e; exact e1
    · exact hk b ob hbx (fun o0 dx q1 q2=>by rw [g1] at q1; cases q1; rw [I.dict] at q2; cases q2; exact hb) e
  obtain ⟨o2,f1,f2,f3,f4⟩:=I'
  rw [e1] at f1; cases f1
  rcases f4 with ⟨f4,_⟩ | ⟨d2,f5,f6,f7⟩
  · rw [I.dict] at f4; cases f4
  rw [I.dict] at f5; cases f5
  refine k ⟨{ c.s with heap:=h',toks:=tk' },c.M⟩ ⟨.rf _,S.setMut I.md keep (.ns f7 fun y=>?_)⟩
  rw [nsPut_lookup]
  by_cases hy:y = name
  · rw [if_pos hy,if_pos hy]; exact .inl ⟨av,v,rfl,rfl,rv⟩
  · rw [if_neg hy,if_neg hy]; exact I.v y
end
end
section
open PySem PySem.W PyProof.Rows PySem.Calls PySem.SeqAt
section
variable {X:Amb} {D:Nat} {sc:Names} {L:Lc} {m m1 m2 m3:Mem} {C:Addr} {mN:Str→Option Value} {i:Nat} {l l2:List (Str × AV)} {P:RP} {rest:List Stmt}
private theorem W.setAttr {o value:Expr} {name:Str} {pos' pos:Pos} {v:AV} (cl:Cls X C mN) (hna:mN name = none) (hB:typeLookup (.type "object") name = pure none) (hs:NoSwap value) (hv:PE X D sc value L m v m1) (ho:PE X D sc o L m1 (.inst C i) m2) (hm:m2[i]? = some (.ns l)) (hz:l.length≤1000)
    (h:W X D sc rest L (m2.set i (.ns (nsPut l name v))) P):W X D sc (.Assign [.Attribute o name pos'] value pos :: rest) L m P:=.seq fun env own A c T Q E q =>
  plainObj_wpAny_Assign_Attribute (hv.go T fun vv d1 l1 F1 r1=>ho.go (T.on F1) fun vo d2 l2 F2 r2=>storeInst F2.S cl hna hB r2 hm (r1.up0 (F1.l0 l2)) hz fun d3 g=>q .next d3 .next L _ ⟨(l1.tr l2).tr (g.l.b own),F2.keep g.l g.h,.next,h⟩) (hs _ _ _)
private theorem W.augAttr {o value:Expr} {name:Str} {pos' pos:Pos} {op:Operator} {a b r:AV} (cl:Cls X C mN) (hna:mN name = none) (hB:typeLookup (.type "object") name = pure none) (ho:PE X D sc o L m (.inst C i) m1) (hm:m1[i]? = some (.ns l)) (hl:l.lookup name = some a) (hx:notExt a) (hv:PE X D sc value L m1 b m2) (hop:Bin X D (inplaceOp op) m2 a b r) (hm2:m2[i]? = some (.ns l2)) (hz:l2.length≤1000)
    (h:W X D sc rest L (m2.set i (.ns (nsPut l2 name r))) P):W X D sc (.AugAssign (.Attribute o name pos') op value pos :: rest) L m P:=.seq fun env own A c T Q E q =>
  wpAny_AugAssign_AttributeAny (ho.go T fun vo d1 l1 F1 r1=>loadInst F1.S cl hna hB r1 hm hl hx fun w d2 g2=>(hv.go (T.on (F1.keep g2.l g2.h)) fun vb d3 l3 F3 r3 =>
    hop _ d3 w vb T.R F3.S (g2.r.up0 ((F1.keep g2.l g2.h).l0 l3)) r3 _ _ fun u d4 g4=>storeInst g4.h cl hna hB (((r1.up g2.l).up0 ((F1.keep g2.l g2.h).l0 l3)).up g4.l) hm2 g4.r hz fun d5 g5 =>
      q .next d5 .next L _ ⟨(((l1.tr (g2.l.b own)).tr l3).tr (g4.l.b own)).tr (g5.l.b own),(F3.keep g4.l g4.h).keep g5.l g5.h,.next,h⟩))
private theorem methGo {env:Env} {A:Around} {s:Shared} {o:Expr} {name:Str} {apos pos:Pos} {es:List Expr} {Q E:Value→Shared→Prop} (hbase:attributeBase o name env (eval o env) = eval o env) (hfew:Few es pos) (hline:(apos.endLine == pos.line) = true)
    (h:wpAny (model X.prog X.w) A (eval o env) (fun ov s1=>∀ pl,wpAny (model X.prog X.w) A (getMethod ov name pl) (fun fx s2=>wpAny (model X.prog X.w) A (callWith pos fx.1 fx.2 (backTo pos (starEach es env)) (backToKw pos (keywordEach [] env))) Q E s2) E s1) E s) :
    wpAny (model X.prog X.w) A (eval (.Call (.Attribute o name apos) es [] pos) env) Q E s:=by
  rw [arm_eval_Call,hbase]
  refine wpAny_bind (wpAny_mono h (fun ov s₁ h₁=>?_) fun zz zz e=>e)
  refine wpAny_bind (wpAny_standAt ?_)
  have hform:methodCallForm (es.length + ([]:List Keyword).length) (backTo pos (starEach es env)) (backToKw pos (keywordEach [] env)) = true:=hfew env
  have hpos:methodCallPos true o env apos pos = pure pos:=by unfold methodCallPos; simp [hline]
  unfold methodCall
  rw [hform]
  exact wpAny_bind (wpAny_holding (wpAny_mono (h₁ _) (fun fx s2 h2=>wpAny_bind (wpAny_of_eq hpos h2)) fun zz zz e=>e))
private theorem Mt.inst {name:Str} {F:Fd} {q:Str} {f:Addr} {avs:List AV} {r:AV} (cl:Cls X C mN) (hfn:mN name = some (.ref f)) (mt:FnAt X.B F q [] .none f) {y:Option Value} (hB:typeLookup (.type "object") name = pure y) (hm:m1[i]? = some (.ns l)) (hl:l.lookup name = none) (ho:Call X D (opF f) m2 (.inst C i :: avs) r m3) :
    Mt X D name m1 m2 (.inst C i) avs r m3:=fun sc L m o es apos pos hb hf hline h1 h2 env A c T Q E k =>
  methGo (hb env) hf hline (h1 env A c T _ _ fun v d g pl=>by
    obtain ⟨x,ob,dd,mm,rfl,I⟩:=instAt g.h g.r hm
    obtain ⟨_,hC,hN,nga,nsa,nge⟩:=cl
    obtain ⟨of,doc,pm,cd,ct,hf⟩:=mt
    refine method_of (g.h.base hC) (hN.ns g.h) nga nge hfn (g.h.base hf.m) hf.cls hB I.I (I.v.no hl) ?_
    exact callWith_function (o:=of) (fd:=_) ((h2.p env pos).2 _ _ _ _ _ _ (h2.v pos env A d (T.up g.l g.h) _ _ fun vs d2 g2=>⟨⟨g2.h.base hf.m,hf.data⟩,ho A d2 _ T.R g2.h (.cons (g.r.up g2.l) g2.r) Q E fun v d3 g3=>k v d3 (g3.fr (g.l.tr g2.l))⟩)))
end
end
section
open PySem PySem.W PyProof.Rows PySem.Calls PySem.SeqAt
noncomputable def prog1:List Stmt:=PySem.Challenge.pw_wb0073_02.main.body
noncomputable def builtins1:List (Str × Value):=[("len",.builtin "len"),("range",.type "range"),("list",.type "list"),("enumerate",.type "enumerate"),("reversed",.type "reversed"),("sum",.builtin "sum"),("divmod",.builtin "divmod"),("iter",.builtin "iter"),("sorted",.builtin "sorted"),("min",.builtin "min"),("str",.type "str"),("ValueError",.type "ValueError"),("ZeroDivisionError",.type "ZeroDivisionError")]
noncomputable def defs1:List (Nat × Addr):=[(5,39),(6,46),(7,53),(8,60),(9,67),(10,74),(12,81),(13,88),(14,95),(18,144),(19,149),(20,156),(21,163),(22,170),(23,177),(24,182)]
structure Kn (X:Amb):Prop where
  lim:NoLim X.B
  sys:∃ o,X.B.h sysModules = some (.pin o)
  bu:∀ x v,builtins1.lookup x = some v→Glo X.B x v
  fn:∀ n a,defs1.lookup n = some a→FnG X (fdAt prog1 n) a
end
section
open PySem PySem.W PyProof.Rows PySem.Calls PySem.SeqAt
structure FnC (X:Amb) (F:Fd) (a c:Addr):Prop where
  g:Glo X.B F.name (.ref a)
  f:∃ o doc pm ct,FnObj X.B F F.name [] .none a o doc pm (.ref c) ct
set_option backward.match.sparseCases false in
noncomputable def ndPos (l:List Stmt) (k:Nat):Pos:=match l[k]? with
  | some (.FunctionDef _ _ _ _ _ _ _ _ _ p)=>p
  | _=>default
noncomputable def siteI:Site:=⟨52,48,[(ndPos (fdAt prog1 7).body 1,"_int2digits.<locals>.inner")]⟩
noncomputable def siteD:Site:=⟨59,55,[(ndPos (fdAt prog1 8).body 0,"_digits2int.<locals>.inner")]⟩
structure KnC (X:Amb):Prop extends Kn X where
  ci:FnC X (fdAt prog1 7) 53 52
  mi:Makes X siteI
  cd:FnC X (fdAt prog1 8) 60 59
  md:Makes X siteD
  dl:GloV X "_DIV_LIMIT" (.int 4000)
section
variable {X X':Amb} {D:Nat} {m:Mem} {avs:List AV} {r:AV}
private theorem NoLim.up {M N:Map} (h:NoLim M) (l:M.le N):NoLim N:=h.imp fun zz q=>⟨q.1.up l,q.2⟩
private theorem Kn.up (k:Kn X) (l:X.B.le X'.B):Kn X':=⟨k.lim.up l,k.sys.imp fun zz e=>l.h _ _ e,fun x v e=>(k.bu x v e).up l,fun n a e=>⟨(k.fn n a e).g.up l,(k.fn n a e).f.up l⟩⟩
private theorem FnC.mk' {F:Fd} {a c:Addr} (hf:FnC X F a c) (lim:NoLim X.B) (hD:4≤D) {ps:List Str} (mu:List Nat) {pre rest:List Stmt} (hs:F.body = pre++rest) (ok:fnOkB ps F.scope = true) (hbind:∀ doc pm cd ct,BindN (fnXD F F.name [] .none doc pm cd ct) ps [] []) (hl:avs.length = ps.length)
    (hb:wpS ⟨X,D,F.scope.names,mu⟩ 40 40 pre (ps.zip avs) m (ThenE X D F.scope.names (.ref c) (F.name++".<locals>.") rest (Ret (KeptA m r)))):Fn X (D + 1) F.name m avs r m:=by
  obtain ⟨o,doc,pm,ct,h⟩:=hf.f
  have w:WE X D F.scope.names (.ref c) (F.name++".<locals>.") F.body (ps.zip avs) m (Ret (KeptA m r)):=by
    rw [hs]; exact .app (wpS_ok (G:=⟨X,D,F.scope.names,mu⟩) hD hb)
  exact .f hf.g ⟨o,doc,pm,_,ct,h⟩ ((h.call lim (fnOk ok) hbind hl w).keep fun zz zz M h=>h M)
private theorem CallR.to {op:List Value→Sem Value} {mF:Mem} (h:CallR X D op m avs (IsV r mF)):Call X D op m avs r mF:=fun A c vs Ro S rs Q E k=>h A c vs Ro S rs Q E fun v d r' m' hr g=>by cases hr; exact k v d g
private theorem FnAt.mkX {F:Fd} {q:Str} {cl:List (Str × Addr)} {a:Addr} {ps:List Str} {fvs:Lc} {mF:Mem} (h:FnAt X.B F q cl .none a) (lim:NoLim X.B) (hD:4≤D) (mu:List Nat) (ok:cloOkB ps F.scope = true) (Fv:FreeK X.B F.scope.names cl fvs) (hbind:∀ doc pm cd ct,BindN (fnXD F q cl .none doc pm cd ct) ps [] []) (hl:avs.length = ps.length)
    (hb:wpS ⟨X,D,F.scope.names,mu⟩ 40 40 F.body (ps.zip avs++fvs) m (Ret (IsV r mF))):FnV X (D + 1) (.ext (.ref a)) m avs r mF :=
  .clo h (h.callF lim (cloOk ok) Fv hbind hl (wpS_ok (G:=⟨X,D,F.scope.names,mu⟩) hD hb)).to
private theorem FreeK.weak {M:Map} {names:Names} {cl:List (Str × Addr)} {L L':Lc} (h:FreeK M names cl L) (w:Sub0 L' L):FreeK M names cl L':=⟨h.cel,fun x av e=>h.var x av (w x av e)⟩
end
end
section
open PySem PySem.W PyProof.Rows PySem.Calls PySem.SeqAt
noncomputable def bisTup (t:Tok):Obj:={ cls:=.type "tuple",data:=.seq #[.int 0 t,.none] }
noncomputable def bisDct (P:Params) (t:Tok):Obj:={ cls:=.type "dict",data:=.dict #[{ hash:=PyData.keyHash P ("key":Str),key:=.str "key" t,val:=.none }] 1 }
structure BisAt' (X:Amb) (F:Fd) (a d k:Addr) (o:Obj) (doc pm cd ct:Value) (P:Params) (t u:Tok):Prop where
  g:Glo X.B F.name (.ref a)
  m:X.B.h a = some (.frz o)
  data:o.data = .func (fnX F.name F.name F.params F.body F.scope [] (.ref d) (.ref k) doc pm none cd ct)
  code:CodeRecM X.B cd F.name
  d:X.B.h d = some (.frz (bisTup t))
  k:X.B.h k = some (.frz (bisDct P u))
noncomputable def BisAt (X:Amb) (F:Fd) (a d k:Addr):Prop:=∃ o doc pm cd ct P t u,BisAt' X F a d k o doc pm cd ct P t u
structure KnB (X:Amb):Prop extends KnC X where
  bR:BisAt X (fdAt prog1 1) 23 15 16
  bL:BisAt X (fdAt prog1 2) 32 24 25
noncomputable abbrev bisNames:List Str:=["a","x","lo","hi","key"]
noncomputable def bisK (P:Params) (d k:Addr) (t u:Tok):Frag:=[(d,bisTup t),(k,bisDct P u)]
private theorem inK {P:Params} {d k:Addr} {t u:Tok} {h:Heap} (h1:h.get? d = some (bisTup t)) (h2:h.get? k = some (bisDct P u)):(bisK P d k t u).In h:=fun a o e=>by
  unfold bisK at e
  rw [List.lookup_cons] at e
  cases hd:a == d with
  | true=>rw [hd] at e; cases e; rw [eq_of_beq hd]; exact h1
  | false =>
    rw [hd,List.lookup_cons] at e
    cases hk:a == k with
    | true=>rw [hk] at e; cases e; rw [eq_of_beq hk]; exact h2
    | false=>rw [hk] at e; cases e
section
variable {X:Amb} {D:Nat} {m m':Mem} {av r kv:AV} {x:Int}
private theorem BisAt.two {F:Fd} {a d k:Addr} (h:BisAt X F a d k) (lim:NoLim X.B) (hD:4≤D) (ok:cloOkB bisNames F.scope = true) (hbind:∀ {P:Params} {s:Shared} {t u:Tok} (_:(bisK P d k t u).In s.heap) (doc pm cd ct a x:Value),BindsTo s (fnX F.name F.name F.params F.body F.scope [] (.ref d) (.ref k) doc pm none cd ct) ⟨[a,x],[]⟩ (bisNames.zip [a,x,.int 0 t,.none,.none]))
    (hb:wpS ⟨X,D,F.scope.names,[]⟩ 40 40 F.body (bisNames.zip [av,.int x,.int 0,.none,.none]) m (Ret (IsV r m'))):Fn X (D + 1) F.name m [av,.int x] r m':=by
  obtain ⟨o,doc,pm,cd,ct,P,t,u,h⟩:=h
  refine fun sc L m0 p es pos hx hes env A c T Q E kk=>?_
  refine (wpAny_bind (globGo T hx h.g (callWith_function (o:=o) ((hes.p env pos).2 _ _ _ _ _ _ (hes.v pos env A c T _ _ fun vs e g=>⟨⟨g.h.base h.m,h.data⟩,?_⟩)))):wpAny (model X.prog X.w) A (do callWith pos (← eval (.Name F.name p) env) [] (backTo pos (starEach es env)) (backToKw pos (keywordEach [] env))) Q E c.s)
  cases g.r.i_cons with
  | mk r1 q1=>cases q1.i_cons with
    | mk r2 q2 =>
      cases q2.i_nil
      exact callD (avs:=[av,.int x,.int 0,.none,.none]) h.m h.data h.code rfl rfl rfl rfl lim (cloOk ok) rfl (wpS_ok (G:=⟨X,D,F.scope.names,[]⟩) hD hb) T.R g.h (.cons r1 (.cons r2 (.cons (.int _ t) (.cons .none (.one .none))))) (hbind (inK (g.h.base h.d) (g.h.base h.k)) _ _ _ _ _ _) fun v d r' m'' hr g2=>by cases hr; exact kk v d (g2.fr g.l)
end
end
section
open PySem PySem.W PyProof.Rows PySem.Calls PySem.SeqAt
private theorem slot_fn_ga:Slot "function" "__getattribute__" "object.__getattribute__":=.of (owner:="object") (n:="__getattribute__") (by rw [typeLookup_type,builtinLookup_eq_fast]; kernel_rfl) (by decide +kernel) (by decide +kernel) (by decide +kernel) (by first | exact .inl (by decide +kernel) | exact .inr (by decide +kernel)) (by kernel_rfl)
private theorem entry_oga:entryFor table "object.__getattribute__" = some Builtin.«object.__getattribute__»:=entryFor_of_tree (by kernel_rfl)
private theorem args_oga (o a:Value):argsOk "object.__getattribute__" ⟨[o,a],[]⟩:=by unfold argsOk; kernel_rfl
private theorem lk_fn_getattr:typeLookup (.type "function") "__getattr__" = pure none:=by rw [typeLookup_type,builtinLookup_eq_fast]; kernel_rfl
private theorem lk_fn_read:typeLookup (.type "function") "read" = pure none:=by rw [typeLookup_type,builtinLookup_eq_fast]; kernel_rfl
section
variable {prog:Program} {w:World} {A:Around} {E:Value→Shared→Prop} {h:Heap} {g:Array GenState} {dr:Drawn} {t:Nat} {os:OsState}
private theorem oga_entry {f d:Addr} {o:Obj} {m:Str→Option Value} {v:Value} {tk:Tok} {Q:PySem.Fin→Shared→Prop} (ho:h.get? f = some o) (hc:o.cls = .type "function") (hd:o.dict = some d) (hn:h.Ns d m) (hv:m "read" = some v) {fd:FuncData} (hdt:o.data = .func fd)
    (hq:Q (.done (.ret v)) ⟨h,g,dr,t,os⟩):wpAny (model prog w) A (Builtin.«object.__getattribute__» ⟨[.ref f,.str "read" tk],[]⟩) Q E ⟨h,g,dr,t,os⟩:=by
  unfold Builtin.«object.__getattribute__»
  repeat (first | (with_reducible refine wpAny_loadPart_at ho ?_; rw [hc]) | (with_reducible refine wpAny_of_eq lk_fn_read ?_) | wp_step)
  rw [hdt]
  unfold instanceDict
  repeat (first | (with_reducible refine wpAny_loadPart_at ho ?_; rw [hc]) | wp_step)
  rw [hd]
  repeat (first | (with_reducible refine wpAny_nsGet hn ?_; rw [hv]) | wp_step)
  exact hq
private theorem fn_getAttr {f d:Addr} {o:Obj} {m:Str→Option Value} {v:Value} {fd:FuncData} {Q:Value→Shared→Prop} {expr:Bool} (ho:h.get? f = some o) (hc:o.cls = .type "function") (hd:o.dict = some d) (hn:h.Ns d m) (hv:m "read" = some v) (hdt:o.data = .func fd) (hh:handedOut v = pure v)
    (hq:Q v ⟨h,g,dr,t + 1,os⟩):wpAny (model prog w) A (getAttr (.ref f) "read" expr) Q E ⟨h,g,dr,t,os⟩:=by
  have hT:∀ t',(⟨h,g,dr,t',os⟩:Shared).TypeIs (.ref f) "function":=fun zz=>⟨o,ho,hc⟩
  unfold getAttr getAttrBy
  refine wpAny_bind (wpAny_mkText (wpAny_holding (wpAny_bind (wpAny_typeOf (hT _) (wpAny_bind (wpAny_of_eq slot_fn_ga.lookup ?_))))))
  show wpAny _ _ (getAttrByItsOwn (.ref f) (.str "read" t) (.type "function") (.builtin "object.__getattribute__") true expr) _ _ _
  unfold getAttrByItsOwn hookBefore callGetattribute
  have hb:(expr && onTheHeap (.builtin "object.__getattribute__")) = false:=by cases expr <;> rfl
  rw [hb]
  simp only [Bool.false_eq_true,if_false]
  unfold boundAndCalled
  refine wpAny_bind (wpAny_of_eq (show (if onTheHeap (.type "function") then typeLookup (.type "function") "__getattr__" else pure none) = pure none from rfl) ?_)
  refine wpAny_bind (wpAny_attempt (wpAny_holding ?_))
  show wpAny _ _ (bindSpecial (.builtin "object.__getattribute__") (.ref f) >>= _) _ _ _
  refine wpAny_bind (wpAny_of_eq (slot_fn_ga.bind _) ?_)
  refine wpAny_mono (Q:=fun u s'=>u = v∧s' = ⟨h,g,dr,t + 1,os⟩) (E:=fun zz zz=>False)
    (wpAny_call_entry slot_fn_ga (hT _) entry_oga (oga_entry ho hc hd hn hv hdt ⟨_,rfl,rfl,rfl⟩) (args_oga _ _)) (fun u s' hv'=>?_) fun zz zz z=>z.elim
  obtain ⟨rfl,rfl⟩:=hv'
  show wpAny _ _ (handedOut u) _ _ _
  rw [hh]
  exact wpAny_pure hq
private theorem fn_method {f d:Addr} {o:Obj} {m:Str→Option Value} {v:Value} {fd:FuncData} {pl:Sem Bool} {Q:Value × List Value→Shared→Prop} (ho:h.get? f = some o) (hc:o.cls = .type "function") (hd:o.dict = some d) (hn:h.Ns d m) (hv:m "read" = some v) (hdt:o.data = .func fd) (hh:handedOut v = pure v)
    (hq:Q (v,[]) ⟨h,g,dr,t + 1,os⟩):wpAny (model prog w) A (getMethod (.ref f) "read" pl) Q E ⟨h,g,dr,t,os⟩:=by
  have hT:(⟨h,g,dr,t,os⟩:Shared).TypeIs (.ref f) "function":=⟨o,ho,hc⟩
  unfold getMethod
  refine wpAny_bind (wpAny_specialOf hT slot_fn_ga.lookup ?_)
  show wpAny _ _ (if (Manifest.canonical "object.__getattribute__" != "object.__getattribute__") = true then _ else _) _ _ _
  rw [PySem.F.canon_object_ga,if_neg Bool.false_ne_true]
  refine wpAny_bind (wpAny_specialOf hT lk_fn_getattr ?_)
  refine wpAny_bind (wpAny_specialOf hT lk_fn_read ?_)
  exact wpAny_bind (fn_getAttr ho hc hd hn hv hdt hh (wpAny_pure hq))
end
structure IsRead (L:LamS):Prop where
  body:∃ p1 p2 pa pc k1 p4 k2 p5 p6,L.body = .IfExp (.Name "left" p1) (.Call (.Attribute (.Name "left" p2) "pop" pa) [.Constant (.int 0) k1 p4] [] pc) (.Constant (.str "") k2 p5) p6∧(pa.endLine == pc.line) = true
  kind:L.scope.kind = .function
  co:L.scope.isCoroutine = false
  gen:L.scope.isGenerator = false
  names:L.scope.names = ([("size",.local),("left",.free)]:Names)
  bind:∀ fd:FuncData,fd.params = L.params→fd.defaults = .none→fd.kwdefaults = .none→∀ a,bindArgs fd ⟨[a],[]⟩ = pure ([("size",a)]:List (Str × Value))
section
variable {X:Amb} {D:Nat} {m m1 m2 m':Mem}
private theorem callLam {fd:FuncData} {o:Obj} {a:Addr} {body:Expr} {ps:List Str} {avs:List AV} {fvs:Lc} {r:AV} (hm:X.B.h a = some (.frz o)) (hd:o.data = .func fd) (hc:CodeRecM X.B fd.code fd.qualname) (hbody:fd.body = .expr body) (hg:fd.globals = mainGlobals) (hbu:fd.builtins = builtinsNs) (lim:NoLim X.B) (ok:CloOk ps fd.scope) (Fv:FreeK X.B fd.scope.names fd.closure fvs)
    (hbind:∀ vs:List Value,vs.length = ps.length→bindArgs fd ⟨vs,[]⟩ = pure (ps.zip vs)) (hl:avs.length = ps.length) (hb:PE X D fd.scope.names body (ps.zip avs++fvs) m r m'):Call X (D + 1) (opF a) m avs r m':=fun A c vs Ro S rs Q E k=>by
  refine wpAny_call (kla_callFunE (body:=body) (by have:=Ro.2.1; lia) (S.base hm) hd ok.co ok.gen hbody (hc.go S) ?_)
  rw [hbind vs (rs.len.trans hl)]
  refine wpAny_pure (wpAny_newFunctionEnv ok.nc (fun x hx=>ok.kd _ (List.of_mem_zip hx).1) (fun h₁ hns hsb=>⟨(lim.lim S).fresh _ hsb,?_⟩) ok.kind)
  have hk:∀ b ob,c.s.heap.get? b = some ob→h₁.get? b = some ob:=fun b ob e=>hsb.extBut b ob (Nat.ne_of_lt (Heap.lt_size e)) (Heap.get?_push_of_some _ e)
  have e:=enterF (a:=a) (tk:=c.s.toks + (ps.zip vs).length) ok hg hbu Fv Ro S rs hns hk
  exact kla_codeExpr (hb.go e.T fun v d l F r=>k v d ⟨⟨fun b x q=>l.h b x (fun hb=>by rw [e.fr b hb] at q; cases q) (e.l.h b x q),fun i x q=>l.g i x (e.l.g i x q)⟩,F.S,r⟩)
inductive ReadK (i:Nat) (m:Mem):AV→Mem→Prop
  | none:m[i]? = some (.lst [])→ReadK i m (.str []) m
  | some {x xs m'}:m[i]? = some (.lst (x :: xs))→xs.length≤2 ^ 23→m.set i (.lst xs) = m'→ReadK i m x m'
private theorem Sep.over {s:Shared} {M:Map} (S:Sep X s M m):Sep (X.over M) s M m:={ S with x:=(Map.base_le S.x).2 }
private theorem readCall {L:LamS} (I:IsRead L) (lim:NoLim X.B) (hD:4≤D) {c:Cf} (S:Hp X c m) {r a l:Addr} {o2 oc:Obj} {fd2:FuncData} (hL:LamAt' c.M L r "left" a o2 fd2) (hc:c.M.h a = some (.frz oc)) (hcd:oc.data = .cell (some (.ref l))) {i:Nat} (hi:c.M.h l = some (.mu i)) {av:AV} (h:ReadK i m av m') {A:Around} (R:Room A (D + 1)) {a1:Value} {x1:AV} (r1:Rep c.M x1 a1) {Q E:Value→Shared→Prop}
    (k:∀ v d,Got X c m' av v d→Q v d.s):wpAny (model X.prog X.w) A (call (.ref r) [a1]) Q E c.s:=by
  have bl:=Map.base_le S.x
  have fz:∀ {b o},c.M.h b = some (.frz o)→(X.over c.M).B.h b = some (.frz o):=fun e=>Map.base_keep (fun zz h=>by cases h) e
  obtain ⟨p1,p2,pa,pc,k1,p4,k2,p5,p6,hbody,hline⟩:=I.body
  have hn:fd2.scope.names = ([("size",.local),("left",.free)]:Names):=by rw [hL.scope]; exact I.names
  have ok:CloOk ["size"] fd2.scope:=⟨by rw [hL.scope]; exact I.kind,by rw [hL.scope]; exact I.co,by rw [hL.scope]; exact I.gen,by rw [hn]; rfl,by rw [hn]; rfl,by decide,by rw [hn]; decide,fun x hx=>by rw [hn,List.mem_singleton.mp hx]; rfl⟩
  have Fv:FreeK (X.over c.M).B fd2.scope.names fd2.closure (bd "left" (.mref i) []):=by
    rw [hn,hL.clo]
    refine ⟨fun x b h=>?_,fun x av h=>?_⟩
    · rw [List.lookup_cons] at h
      split at h
      · cases h; exact ⟨_,.inl (fz hc)⟩
      · cases h
    · rcases lookup_set (L:=[]) h with ⟨e1,e2⟩ | ⟨_,e⟩
      · rw [e1,e2]
        exact ⟨rfl,a,oc,.ref l,rfl,.inl (fz hc),hcd,.mref (Map.base_keep (fun zz h=>by cases h) hi)⟩
      · cases e
  have hb:PE (X.over c.M) D fd2.scope.names L.body ((["size"]:List Str).zip [x1]++(bd "left" (.mref i) [])) m av m':=by
    rw [hn,hbody]
    refine .wp (G:=⟨X.over c.M,D,_,[]⟩) (k:=40) hD ?_
    have hok:okM (.Name "left" p2) [.Constant (.int 0) k1 p4] pa pc = true:=by
      show (_ && (_ && (pa.endLine == pc.line))) = true
      rw [hline]; rfl
    cases h with
    | none e=>exact ⟨.mref e (Nat.zero_le _),.str [],m,nofun,fun zz=>.mk,.mk⟩
    | @some x xs m' e hz hm=>exact ⟨.mref e (by rw [List.length_cons]; exact dF hz rfl),av,m',fun zz=>(by show cond (okM _ _ _ _) _ _; rw [hok]; exact ⟨.pop0 e e hz hm,.mk⟩),nofun,.mk⟩
  have:=callLam (X:=X.over c.M) (avs:=[x1]) (fz hL.m) hL.data (hL.code.up fun b o e=>fz e) hL.body hL.gl hL.bu (lim.imp fun zz q=>⟨q.1.up bl.1,q.2⟩) ok Fv (fun vs h=>by obtain ⟨v,rfl⟩:=List.length_eq_one_iff.mp h; exact I.bind fd2 hL.params hL.df hL.kd v) rfl hb
  exact this A c [a1] R S.over (.one r1) Q E fun v d g=>k v d ⟨g.l,{ g.h with x:=bl.1.tr g.h.x },g.r⟩
private theorem Mt.read {L:LamS} (I:IsRead L) (lim:NoLim X.B) (hD:4≤D) {i:Nat} {x1 r:AV} (h:ReadK i m2 r m'):Mt X (D + 1) "read" m1 m2 (.strm L i) [x1] r m':=fun sc Lc m o es apos pos hb hf hline h1 h2 env A c T Q E k =>
  methGo (hb env) hf hline (h1 env A c T _ _ fun v d g pl=>by
    cases g.r.i_strm with
    | @mk f l st hi =>
      obtain ⟨o,fd,dd,od,es',ep,rr,o2,fd2,ca,oc,st⟩:=st
      refine fn_method (m:=fun n=>nsFind es' n) (g.h.frz st.m) st.cls st.dict ⟨od,es',ep,g.h.frz st.md,st.dd,st.keys,fun zz=>rfl⟩ (v:=.ref rr) (by rw [st.find]; rfl) st.data rfl ?_
      have g1:=g.h.tok (d.s.toks + 1)
      have T1:At X (D + 1) sc env A (tk d (d.s.toks + 1)) Lc m1:=(T.up g.l g.h).up (Map.le.rf _) g1
      refine callWith_function (o:=o2) (fd:=fd2) ((h2.p env pos).2 _ _ _ _ _ _ (h2.v pos env A _ T1 _ _ fun vs d2 g2=>⟨⟨g2.h.frz (g2.l.h _ _ st.lam.m),st.lam.data⟩,?_⟩))
      cases g2.r.i_cons with
      | mk r1 r2 =>
        cases r2.i_nil
        exact readCall I lim hD g2.h (st.lam.up g2.l.l0.f) (g2.l.h _ _ st.mc) st.cd (g2.l.h _ _ hi) h T.R r1 fun v d3 g3=>k v d3 (g3.fr (g.l.tr g2.l)))
end
end
section
open PySem PySem.W PyProof.Rows PySem.Calls PySem.SeqAt Builtin Builtin.ObjectAttr
private theorem lk_fn_set:typeLookup (.type "function") "__set__" = pure none:=by rw [typeLookup_type,builtinLookup_eq_fast]; kernel_rfl
private theorem lk_fn_delete:typeLookup (.type "function") "__delete__" = pure none:=by rw [typeLookup_type,builtinLookup_eq_fast]; kernel_rfl
section
variable {prog:Program} {w:World} {A:Around} {E:Value→Shared→Prop} {h:Heap} {g:Array GenState} {d:Drawn} {t:Nat} {os:OsState}
variable {r:ClsD} {C x:Addr}
  {mN mA:Str→Option Value} {name:Str} {f:Addr} {fo:Obj}
set_option tactic.hygienic true in
private theorem bound_entry {tk:Tok} {Q:PySem.Fin→Shared→Prop}
    (hC:h.get? C = some (r.obj C)) (hn:h.Ns r.N mN) (hna:mN name = some (.ref f)) (hfo:h.get? f = some fo) (hfc:fo.cls = .type "function")
    {y : Option Value} (hB : typeLookup (.type "object") name = pure y) (hg2 : mN "__getattr__" = none) {o : Obj} {dx : Addr} (hx : h.get? x = some o) (hc : o.cls = .ref C) (hnc : ∀ c, o.data ≠ .cls c) (hdx : o.dict = some dx) (hns : h.Ns dx mA) (hv : mA name = none) (hcp : ((["__module__", "__name__", "__qualname__", "__doc__", "__annotations__"] : List Str).contains name) = false)
    (hq:Q (.done (.ret (.ref h.objs.size))) ⟨h.push { cls:=.type "method",data:=.fields #[.ref f,.ref x] },g,d,t,os⟩) :
    wpAny (model prog w) A (Builtin.«proto.getattr_hooked» ⟨[.ref x,.str name tk],[]⟩) Q E ⟨h,g,d,t,os⟩:=by
  have hTf:(⟨h,g,d,t,os⟩:Shared).TypeIs (.ref f) "function":=⟨_,hfo,hfc⟩
  unfold Builtin.«proto.getattr_hooked»
  repeat (first | (with_reducible refine wpAny_loadPart_at hx ?_; rw [hc]) | (with_reducible refine wpAny_typeLookup_exc hC hn F.mro_object hB ?_; rw [hna]) | (with_reducible refine wpAny_specialOf hTf F.ks_slot_function_get.lookup ?_) | (with_reducible refine wpAny_specialOf hTf lk_fn_set ?_) | (with_reducible refine wpAny_specialOf hTf lk_fn_delete ?_) | wp_step)
  split
  · rename_i c hcd
    exact absurd hcd (hnc c)
  unfold instanceDict
  repeat (first | (with_reducible refine wpAny_loadPart_at hx ?_; rw [hc]) | with_reducible refine wpAny_loadPart_at hC ?_ | wp_step)
  rw [hdx]
  repeat (first | (with_reducible refine wpAny_nsGet hns ?_; rw [hv]) | wp_step)
  rw [if_neg (by rw [hcp]; exact Bool.false_ne_true)]
  refine wpAny_pure ?_
  unfold byTheClass
  repeat (first | (with_reducible refine wpAny_typeLookup_exc hC hn F.mro_object F.lk_object_getattr ?_; rw [hg2]) | wp_step)
  refine codeAny_call_builtin F.ks_slot_function_get.plain F.ks_entry_function_get (F.ks_slot_function_get.check _ _ _ _ _ _ _ _ hTf (F.ks_getArgs_function _ _ _) ?_)
  unfold Builtin.«function.__get__»
  repeat wp_step
  exact hq
private theorem bound_load {expr:Bool} {Q:Value→Shared→Prop}
    (hC:h.get? C = some (r.obj C)) (hn:h.Ns r.N mN) (hng:mN "__getattribute__" = none) (hna:mN name = some (.ref f)) (hfo:h.get? f = some fo) (hfc:fo.cls = .type "function")
    {y : Option Value} (hB : typeLookup (.type "object") name = pure y) (hg2 : mN "__getattr__" = none) {o : Obj} {dx : Addr} (hx : h.get? x = some o) (hc : o.cls = .ref C) (hnc : ∀ c, o.data ≠ .cls c) (hdx : o.dict = some dx) (hns : h.Ns dx mA) (hv : mA name = none) (hcp : (["__module__", "__name__", "__qualname__", "__doc__", "__annotations__"] : List Str).contains name = false)
    (hq:Q (.ref h.objs.size) ⟨h.push { cls:=.type "method",data:=.fields #[.ref f,.ref x] },g,d,t + 1,os⟩) :
    wpAny (model prog w) A (getAttr (.ref x) name expr) Q E ⟨h,g,d,t,os⟩:=by
  unfold getAttr getAttrBy
  repeat (first | (with_reducible refine wpAny_loadPart_at hx ?_; rw [hc]) | (with_reducible refine wpAny_typeLookup_exc hC hn F.mro_object F.lk_object_ga ?_; rw [hng]) | wp_step)
  show wpAny _ _ ((runValue (.builtin "proto.getattr_hooked" ⟨[.ref x,.str name t],[]⟩)).onRaise (noteIf true (.ref x) (.str name t))) _ _ _
  refine wpAny_onRaise (wpAny_runValue (codeAny_builtin F.plainObj_entry_getattr_hooked (bound_entry hC hn hna hfo hfc hB hg2 hx hc hnc hdx hns hv hcp ?_)))
  exact wpAny_pure hq
end
end
section
open PySem PySem.W PyProof.Rows PySem.Calls PySem.SeqAt
private theorem slot_ci_iter:Slot "callable_iterator" "__iter__" "callable_iterator.__iter__":=.of (owner:="callable_iterator") (n:="__iter__") (by rw [typeLookup_type,builtinLookup_eq_fast]; kernel_rfl) (by decide +kernel) (by decide +kernel) (by decide +kernel) (by first | exact .inl (by decide +kernel) | exact .inr (by decide +kernel)) (by rw [isSubtype_type]; kernel_rfl)
private theorem slot_ci_next:Slot "callable_iterator" "__next__" "callable_iterator.__next__":=.of (owner:="callable_iterator") (n:="__next__") (by rw [typeLookup_type,builtinLookup_eq_fast]; kernel_rfl) (by decide +kernel) (by decide +kernel) (by decide +kernel) (by first | exact .inl (by decide +kernel) | exact .inr (by decide +kernel)) (by rw [isSubtype_type]; kernel_rfl)
private theorem entry_ci_iter:entryFor table "callable_iterator.__iter__" = some Builtin.«dict_keyiterator.__iter__»:=entryFor_alias (id':="dict_keyiterator.__iter__") (by kernel_rfl) rfl (by decide +kernel) (by kernel_rfl)
private theorem entry_ci_next:entryFor table "callable_iterator.__next__" = some Builtin.«callable_iterator.__next__»:=entryFor_of_tree (by kernel_rfl)
private theorem args_ci_iter (a:Value):argsOk "callable_iterator.__iter__" ⟨[a],[]⟩:=by unfold argsOk; kernel_rfl
private theorem args_ci_next (a:Value):argsOk "callable_iterator.__next__" ⟨[a],[]⟩:=by unfold argsOk; kernel_rfl
private theorem args_iter2 (a b:Value):argsOk "iter" ⟨[a,b],[]⟩:=by unfold argsOk; kernel_rfl
private theorem lk_meth_call:∃ r,typeLookup (.type "method") "__call__" = pure (some r):=⟨.builtin "method.__call__",by rw [typeLookup_type,builtinLookup_eq_fast]; kernel_rfl⟩
noncomputable abbrev methObj (f x:Addr):Obj:={ cls:=.type "method",data:=.fields #[.ref f,.ref x] }
noncomputable abbrev ciObj (b s e:Value):Obj:={ cls:=.type "callable_iterator",data:=.fields #[b,s,e] }
section
variable {prog:Program} {w:World} {A:Around} {E:Value→Shared→Prop} {s:Shared}
private theorem wpAny_pyIter_ci {it:Addr} {b z e:Value} {Q:Value→Shared→Prop} (hI:s.heap.get? it = some (ciObj b z e)) (h:Q (.ref it) s):wpAny (model prog w) A (pyIter (.ref it)) Q E s:=by
  have hT:s.TypeIs (.ref it) "callable_iterator":=⟨_,hI,rfl⟩
  refine wpAny_pyIter_slot hT slot_ci_iter (wpAny_call_entry slot_ci_iter hT entry_ci_iter ?_ (args_ci_iter _))
  show wpAny _ _ (ret (.ref it)) _ _ s
  exact wpAny_pure ⟨_,rfl,"callable_iterator",_,hT,slot_ci_next.lookup,h⟩
private theorem wpAny_iter2 {b f x:Addr} {z:Value} {Q:Value→Shared→Prop} (hb:s.heap.get? b = some (methObj f x))
    (h:Q (.ref s.heap.objs.size) { s with heap:=s.heap.push (ciObj (.ref b) z (.bool false)) }):wpAny (model prog w) A (call (.builtin "iter") [.ref b,z]) Q E s:=by
  have hT:s.TypeIs (.ref b) "method":=⟨_,hb,rfl⟩
  obtain ⟨r,hr⟩:=lk_meth_call
  refine call_function_entry (by decide +kernel) (by decide +kernel) kdk_entry_iter (args_iter2 _ _) ?_
  unfold Builtin.«iter»
  refine wpAny_bind (m:=someArgs "iter" 1 2 _) (wpAny_of_eq (a:=[Value.ref b,z]) (by first | rfl | kernel_rfl!) ?_)
  refine wpAny_bind (wpAny_specialOf hT hr ?_)
  show wpAny _ _ (if (some r).isNone = true then _ else _) _ _ _
  rw [if_neg (by simp)]
  refine wpAny_bind (wpAny_rule ?_)
  simp only [newFields]
  refine wpAny_bind (wpAny_newObj_type ?_ (by size_fits))
  exact wpAny_pure ⟨_,rfl,h⟩
private theorem callBorrowed_eq (f:Value) (pos:List Value):callBorrowed f pos = (call f pos).keep [borrowed]:=by
  unfold callBorrowed call runValue run
  show Sem.call _ _ _ _ _ = Sem.call _ _ _ _ _
  congr 1
  funext r
  rcases r with e | (_ | _ | _ | v) <;> rfl
private theorem wpAny_borrows {b f x:Addr} {of:Obj} {fd:FuncData} {Q:Bool→Shared→Prop} (hb:s.heap.get? b = some (methObj f x)) (hf:s.heap.get? f = some of) (hd:of.data = .func fd) (hq:Q true s):wpAny (model prog w) A (borrowsExactly (.ref b)) Q E s:=by
  unfold borrowsExactly
  refine wpAny_bind (wpAny_load hb ?_)
  show wpAny _ _ (if ((Value.type "method") == .type "method") = true then _ else _) _ _ _
  rw [if_pos (by decide)]
  show wpAny _ _ (load f >>= _) _ _ _
  refine wpAny_bind (wpAny_load hf ?_)
  rw [hd]
  exact wpAny_pure hq
private theorem wpAny_outOfSlot {b f x:Addr} {of:Obj} {fd:FuncData} {Q:Value→Shared→Prop} (hb:s.heap.get? b = some (methObj f x)) (hf:s.heap.get? f = some of) (hd:of.data = .func fd)
    (h:codeAny (model prog w) A (.call (.ref f) ⟨[.ref x],[]⟩) (fun r s'=>match r with | .ok (.ret v)=>Q v s' | .ok _=>False | .error e=>E e s') s):wpAny (model prog w) A (callOutOfASlot (.ref b)) Q E s:=by
  unfold callOutOfASlot
  refine wpAny_bind (wpAny_borrows hb hf hd ?_)
  show wpAny _ _ (if true = true then _ else _) _ _ _
  rw [if_pos rfl]
  rw [callBorrowed_eq]
  exact wpAny_keep (wpAny_call (ks_codeAny_call_bound hb h))
private theorem ci_next {it b f x:Addr} {of:Obj} {fd:FuncData} {t:Tok} {Q:Option Value→Shared→Prop} (hh:A.handled = none) (hI:s.heap.get? it = some (ciObj (.ref b) (.str ⟨#[]⟩ t) (.bool false))) (hb:s.heap.get? b = some (methObj f x)) (hf:s.heap.get? f = some of) (hd:of.data = .func fd)
    (hcall : ∀ Q' E' : Value → Shared → Prop, (∀ l u b2 t2 s', s'.heap.get? it = some (ciObj (.ref b2) (.str ⟨#[]⟩ t2) (.bool false)) → (l ≠ ⟨#[]⟩ → Q (some (.str l u)) s') →
          (l = ⟨#[]⟩→(∃ x2,s'.heap.get? b2 = some (methObj f x2))∧s'.heap.get? f = some of∧∀ h',h'.get? it = some (ciObj .none .none (.bool true))→Heap.ExtBut it s'.heap h'→Q none { s' with heap:=h' })→Q' (.str l u) s') →
      codeAny (model prog w) A.in1 (.call (.ref f) ⟨[.ref x],[]⟩) (fun r s'=>match r with | .ok (.ret v)=>Q' v s' | .ok _=>False | .error e=>E' e s') s):wpAny (model prog w) A (pyNext (.ref it)) Q E s:=by
  have hT:s.TypeIs (.ref it) "callable_iterator":=⟨_,hI,rfl⟩
  unfold pyNext
  refine wpAny_bind (wpAny_attempt (wpAny_callSpecial?_slot (name:=Str.ofString "__next__") hT slot_ci_next
    (wpAny_call_entry slot_ci_next hT entry_ci_next ?_ (args_ci_next _))))
  show wpAny _ _ (field (.ref it) 2 >>= _) _ _ s
  refine wpAny_bind (wpAny_field hI rfl (x:=.bool false) rfl ?_)
  show wpAny _ _ (if (Value.bool false == .bool true) = true then _ else _) _ _ s
  rw [if_neg (by decide)]
  show wpAny _ _ (field (.ref it) 0 >>= _) _ _ s
  refine wpAny_bind (wpAny_field hI rfl (x:=.ref b) rfl ?_)
  refine wpAny_bind (wpAny_attempt (wpAny_outOfSlot hb hf hd ?_))
  refine hcall _ _ fun l u b2 t2 s' hI' h1 h2=>?_
  show wpAny _ _ (field (.ref it) 2 >>= _) _ _ _
  refine wpAny_bind (wpAny_field hI' rfl (x:=.bool false) rfl ?_)
  show wpAny _ _ (if (Value.bool false == .bool true) = true then _ else _) _ _ _
  rw [if_neg (by decide)]
  show wpAny _ _ (field (.ref it) 1 >>= _) _ _ _
  refine wpAny_bind (wpAny_field hI' rfl (x:=.str ⟨#[]⟩ t2) rfl ?_)
  refine wpAny_bind (wpAny_holding (wpAny_eqBool_str ?_))
  by_cases hl:l = ⟨#[]⟩
  · subst hl
    obtain ⟨⟨x2,g1⟩,g2,g3⟩:=h2 rfl
    rw [show decide ((⟨#[]⟩:Str) = ⟨#[]⟩) = true from by simp]
    show wpAny _ _ (if (!true) = true then _ else _) _ _ _
    rw [if_neg (by decide)]
    refine wpAny_bind (wpAny_rule ?_)
    refine wpAny_bind ?_
    show wpAny _ _ (field (.ref it) 0 >>= _) _ _ _
    refine wpAny_bind (wpAny_field hI' rfl (x:=.ref b2) rfl ?_)
    refine wpAny_bind ?_
    unfold slotLetsGo
    show wpAny _ _ (borrowsExactly (.ref b2) >>= _) _ _ _
    refine wpAny_bind (wpAny_borrows g1 g2 hd ?_)
    show wpAny _ _ (if true = true then _ else _) _ _ _
    rw [if_pos rfl]
    refine wpAny_pure ?_
    refine wpAny_bind (wpAny_setField hI' rfl (by simp) ?_)
    have u1:=Heap.get?_update_self (Obj.mapFields (·.setIfInBounds 0 .none)) hI' rfl
    refine wpAny_bind (wpAny_setField u1 rfl (by simp) ?_)
    have u2:=Heap.get?_update_self (Obj.mapFields (·.setIfInBounds 1 .none)) u1 rfl
    refine wpAny_setField u2 rfl (by simp) ?_
    have u3:=Heap.get?_update_self (Obj.mapFields (·.setIfInBounds 2 (.bool true))) u2 rfl
    show wpAny _ _ (newExc (.type "StopIteration") [] >>= _) _ _ _
    refine wpAny_bind ?_
    simp only [newExc,newTuple]
    refine wpAny_bind (wpAny_newObj_type ?_ (by size_fits))
    refine wpAny_bind (m:=firstArgMember _ _) (wpAny_of_eq (a:=Value.none) (by first | rfl | (simp only [firstArgMember]; rfl)) ?_)
    refine wpAny_newObj_type ?_ (by size_fits)
    simp only [raiseNew]
    refine wpAny_bind (wpAny_handled ?_)
    first | rw [show A.in1.handled = none from hh] | rw [hh]
    refine wpAny_bind (wpAny_pure (wpAny_throw ?_))
    refine wpAny_bind (wpAny_isInstance (T:="StopIteration") (b:=true) ⟨_,Heap.get?_push_size _ rfl,rfl⟩ isSubtype_stop ?_)
    refine wpAny_pure (g3 _ (Heap.get?_push_of_some _ (Heap.get?_push_of_some _ ?_)) ?_)
    · exact u3
    · exact ((((Heap.SameBut.update ..).trans (Heap.SameBut.update ..)).trans (Heap.SameBut.update ..)).extBut.push _).push _
  · rw [show decide ((⟨#[]⟩:Str) = l) = false from by simpa using fun h=>hl h.symm]
    show wpAny _ _ (if (!false) = true then _ else _) _ _ _
    rw [if_pos (by decide)]
    refine wpAny_pure ⟨_,rfl,?_⟩
    exact wpAny_pure (h1 hl)
private theorem ci_done {it:Addr} {b z:Value} {Q:Option Value→Shared→Prop} (hh:A.handled = none) (hI:s.heap.get? it = some (ciObj b z (.bool true)))
    (h:∀ h',(∀ a o,s.heap.get? a = some o→h'.get? a = some o)→Q none { s with heap:=h' }):wpAny (model prog w) A (pyNext (.ref it)) Q E s:=by
  have hT:s.TypeIs (.ref it) "callable_iterator":=⟨_,hI,rfl⟩
  unfold pyNext
  refine wpAny_bind (wpAny_attempt (wpAny_callSpecial?_slot (name:=Str.ofString "__next__") hT slot_ci_next
    (wpAny_call_entry slot_ci_next hT entry_ci_next ?_ (args_ci_next _))))
  show wpAny _ _ (field (.ref it) 2 >>= _) _ _ s
  refine wpAny_bind (wpAny_field hI rfl (x:=.bool true) rfl ?_)
  show wpAny _ _ (if (Value.bool true == .bool true) = true then _ else _) _ _ s
  rw [if_pos (by decide)]
  refine wpAny_bind (wpAny_rule ?_)
  refine wpAny_bind ?_
  show wpAny _ _ (newExc (.type "StopIteration") [] >>= _) _ _ _
  refine wpAny_bind ?_
  simp only [newExc,newTuple]
  refine wpAny_bind (wpAny_newObj_type ?_ (by size_fits))
  refine wpAny_bind (m:=firstArgMember _ _) (wpAny_of_eq (a:=Value.none) (by first | rfl | (simp only [firstArgMember]; rfl)) ?_)
  refine wpAny_newObj_type ?_ (by size_fits)
  simp only [raiseNew]
  refine wpAny_bind (wpAny_handled ?_)
  first | rw [show A.in1.handled = none from hh] | rw [hh]
  refine wpAny_bind (wpAny_pure (wpAny_throw ?_))
  refine wpAny_bind (wpAny_isInstance (T:="StopIteration") (b:=true) ⟨_,Heap.get?_push_size _ rfl,rfl⟩ isSubtype_stop ?_)
  exact wpAny_pure (h _ fun a o e=>Heap.get?_push_of_some _ (Heap.get?_push_of_some _ e))
end
end
section
open PySem PySem.W PyProof.Rows PySem.Calls PySem.SeqAt
noncomputable def CallC (X:Amb) (D:Nat) (f:Addr) (m:Mem) (avs:List AV) (r:AV) (m':Mem):Prop :=
  ∀ (A:Around) (c:Cf) (vs:List Value),Room A D→Hp X c m→Reps c.M avs vs→∀ (Q E:Value→Shared→Prop),(∀ v d,Got X c m' r v d→Q v d.s) →
    codeAny (model X.prog X.w) A (.call (.ref f) ⟨vs,[]⟩) (fun r s'=>match r with | .ok (.ret v)=>Q v s' | .ok _=>False | .error e=>E e s') c.s
section
variable {X:Amb} {D:Nat} {sc:Names} {L:Lc} {m m1 m2 m':Mem} {P:RP} {rest:List Stmt}
private theorem CallC.to {f:Addr} {avs:List AV} {r:AV} (h:CallC X D f m avs r m'):Call X D (opF f) m avs r m':=fun A c vs R S rs Q E k=>wpAny_call (h A c vs R S rs Q E k)
private theorem FnAt.callC {F:Fd} {q:Str} {a:Addr} {ps:List Str} {avs:List AV} {r:AV} {mF:Mem} (h:FnAt X.B F q [] .none a) (lim:NoLim X.B) (ok:CloOk ps F.scope) (hbind:∀ doc pm cd ct,BindN (fnXD F q [] .none doc pm cd ct) ps [] []) (hl:avs.length = ps.length)
    (hb:W X D F.scope.names F.body (ps.zip avs) m (Ret (IsV r mF))):CallC X (D + 1) a m avs r mF:=fun A c vs Ro S rs Q E k=>by
  obtain ⟨o,doc,pm,cd,ct,h⟩:=h
  refine codeAny_call_def (fd:=fnXD F q [] .none doc pm cd ct) (binds:=ps.zip vs) (by have:=Ro.2.1; lia) (S.base h.m) h.data (lim.lim S) (h.code.go S) rfl (BindsTo.of_eq ((hbind doc pm cd ct).to (rs.len.trans hl))) ok.nc (fun x hx=>ok.kd _ (List.of_mem_zip hx).1) (fun h₁ hns hk=>?_) ok.co ok.gen ok.kind
  have e:=enterF (fd:=fnXD F q [] .none doc pm cd ct) (fvs:=[]) (a:=a) (tk:=c.s.toks + (ps.zip vs).length) ok rfl rfl ⟨nofun,nofun⟩ Ro S rs hns hk
  rw [List.append_nil] at e
  exact wpAny_mono (e.run hb.e fun v d r' m'' hr g=>by cases hr; exact k v d g) (fun zz zz x=>x) fun zz zz x=>x.elim
inductive NextK (X:Amb) (D:Nat) (f:Addr) (m:Mem) (j:Nat):Option AV→Mem→Prop
  | done:m[j]? = some (.cit none)→NextK X D f m j none m
  | some {C i l m1 C2 i2}:m[j]? = some (.cit (some (f,C,i)))→CallC X D f m [.inst C i] (.str l) m1→m1[j]? = some (.cit (some (f,C2,i2)))→l ≠ []→NextK X D f m j (some (.str l)) m1
  | last {C i m1 m2 C2 i2}:m[j]? = some (.cit (some (f,C,i)))→CallC X D f m [.inst C i] (.str []) m1→m1[j]? = some (.cit (some (f,C2,i2)))→m1.set j (.cit none) = m2→NextK X D f m j none m2
inductive ORep (M:Map):Option AV→Option Value→Prop
  | none:ORep M none none
  | some {a:AV} {v:Value}:Rep M a v→ORep M (some a) (some v)
structure GotO (X:Amb) (c:Cf) (m:Mem) (o:Option AV) (v:Option Value) (d:Cf):Prop where
  l:c.M.le d.M
  h:Hp X d m
  r:ORep d.M o v
private theorem nextC {F:Fd} {q:Str} {f:Addr} (hf:FnAt X.B F q [] .none f) {c:Cf} (S:Hp X c m) {j:Nat} {a:Addr} (ha:c.M.h a = some (.mu j)) {o:Option AV} (h:NextK X D f m j o m') {A:Around} (R:Room A (D + 1)) {Q:Option Value→Shared→Prop} {E:Value→Shared→Prop} (k:∀ v d,GotO X c m' o v d→Q v d.s) :
    wpAny (model X.prog X.w) A (pyNext (.ref a)) Q E c.s:=by
  obtain ⟨of,doc,pm,cd,ct,hf⟩:=hf
  have R':Room A.in1 D:=⟨R.1,by have:=R.2.1; show A.depth + D < _; exact Nat.le_of_lt this,by have:=R.2.2; show A.units + 1 + 16 * D + 16 < _; lia⟩
  cases h with
  | done hm =>
    cases S.mu ha hm with
    | cit0 hI=>exact ci_done R.1 hI fun h' hk=>k none ⟨{ c.s with heap:=h' },c.M⟩ ⟨.rf _,S.keep (tk:=c.s.toks) fun b o zz e=>hk b o e,.none⟩
  | @some C i l _ C2 i2 hm hc hm1 hl =>
    cases S.mu ha hm with
    | cit hI hb r =>
      refine ci_next R.1 hI (S.frz hb) (S.base hf.m) hf.data fun Q' E' hq=>hc A.in1 c [_] R' S (.one r) Q' E' fun v d g=>?_
      obtain ⟨t',rfl⟩:=g.r.i_str
      cases g.h.mu (g.l.h _ _ ha) hm1 with
      | cit hI2 hb2 r2=>exact hq _ _ _ _ d.s hI2 (fun zz=>k _ d ⟨g.l,g.h,.some (.str _ _)⟩) fun hl'=>absurd (congrArg (fun z:Str=>z.cps.toList) hl') hl
  | @last C i m1 _ C2 i2 hm hc hm1 hm2 =>
    subst hm2
    cases S.mu ha hm with
    | cit hI hb r =>
      refine ci_next R.1 hI (S.frz hb) (S.base hf.m) hf.data fun Q' E' hq=>hc A.in1 c [_] R' S (.one r) Q' E' fun v d g=>?_
      obtain ⟨t',rfl⟩:=g.r.i_str
      have ha2:=g.l.h _ _ ha
      cases g.h.mu ha2 hm1 with
      | cit hI2 hb2 r2=>exact hq _ _ _ _ d.s hI2 (fun hl=>absurd rfl hl) fun zz=>⟨⟨_,g.h.frz hb2⟩,g.h.base hf.m,fun h' hI3 hx=>k none ⟨{ d.s with heap:=h' },d.M⟩ ⟨g.l,g.h.setMut (tk:=d.s.toks) ha2 (fun b o hb' e'=>hx b o hb' e') (.cit0 hI3),.none⟩⟩
private theorem pyIterCit {c:Cf} (S:Hp X c m) {j:Nat} {a:Addr} (ha:c.M.h a = some (.mu j)) {ct:Option (Addr × Addr × Nat)} (hm:m[j]? = some (.cit ct)) {A:Around} {Q E:Value→Shared→Prop} (h:Q (.ref a) c.s):wpAny (model X.prog X.w) A (pyIter (.ref a)) Q E c.s:=by
  cases S.mu ha hm with
  | cit0 hI=>exact wpAny_pyIter_ci hI h
  | cit hI _ _=>exact wpAny_pyIter_ci hI h
inductive TurnC (X:Amb) (D:Nat) (sc:Names) (f:Addr) (j:Nat) (x:Str) (body rest:List Stmt) (I:Nat→Lc→Mem→Prop) (P:RP) (k:Nat) (L:Lc) (m:Mem):Prop
  | stop {mB:Mem}:NextK X D f m j none mB→W X (D + 1) sc rest L mB P→TurnC X D sc f j x body rest I P k L m
  | go {a:AV} {mB:Mem}:NextK X D f m j (some a) mB→W X (D + 1) sc body ((x,a) :: L) mB (Loop (fun L m=>∃ i,i < k∧I i L m) (Then X (D + 1) sc rest P))→TurnC X D sc f j x body rest I P k L m
private theorem W.forC {F:Fd} {q:Str} {f:Addr} (hf:FnAt X.B F q [] .none f) {p px:Pos} {x:Str} {iter:Expr} {body:List Stmt} {j:Nat} {ct:Option (Addr × Addr × Nat)} (hi:PE X (D + 1) sc iter L m (.mref j) m1) (hm:m1[j]? = some (.cit ct)) (hx:okB sc x = true) (I:Nat→Lc→Mem→Prop) (n:Nat) (h0:I n L m1)
    (hs:∀ k L m,I k L m→TurnC X D sc f j x body rest I P k L m) (set:∀ env x,foldedSetIterable iter env x = pure x):W X (D + 1) sc (.For (.Name x px) iter body [] p :: rest) L m P :=
  .seq fun env own A c T Q E q=>by
    refine wpAny_For (hi.go T fun v d l F r=>?_) (set env)
    cases r.i_mref with
    | @mk a ha =>
      refine pyIterCit F.S ha hm ?_
      refine forLoop (fun k s2=>∃ c2 L m,s2 = c2.s∧Map.leB own c.M c2.M∧c2.M.h a = some (.mu j)∧FS X env sc own c2 m L∧I k L m) ?_ n ⟨d,L,m1,rfl,l,ha,F,h0⟩
      rintro k _ ⟨c2,L2,mm,rfl,l2,ha2,F2,i2⟩
      cases hs k L2 mm i2 with
      | stop hn hr =>
        refine nextC hf F2.S ha2 hn T.R fun v d3 g=>?_
        cases g.r with
        | none=>exact wpAny_execs_nil (q _ d3 .next _ _ ⟨l2.tr (g.l.b own),F2.keep g.l g.h,.next,hr⟩)
      | go hn hb =>
        refine nextC hf F2.S ha2 hn T.R fun v d3 g=>?_
        cases g.r with
        | some r =>
          have F3:=F2.keep g.l g.h
          refine wpAny_pure ?_
          rw [PySem.assign_Name]
          refine wpAny_bind (wpAny_standAt (wpAny_bindName (F3.store (T.T x (nameOk hx)) r fun d4 l4 F4=>?_)))
          refine hb env own A d4 (T.on F4) _ _ fun u d5 fl L5 m5 g5=>?_
          have lc:=((l2.tr (g.l.b own)).tr l4).tr g5.l
          have ha5:=F4.l0 g5.l a _ (F3.l0 l4 a _ (g.l.h _ _ ha2) Cel.mnp) Cel.mnp
          cases g5.r with
          | next=>exact g5.p.elim fun i h=>⟨i,h.1,d5,L5,m5,rfl,lc,ha5,g5.F,h.2⟩
          | cont=>exact g5.p.elim fun i h=>⟨i,h.1,d5,L5,m5,rfl,lc,ha5,g5.F,h.2⟩
          | brk=>exact q _ d5 .next L5 m5 ⟨lc,g5.F,.next,g5.p⟩
          | ret r=>exact q _ d5 (.ret _) L5 m5 ⟨lc,g5.F,.ret r,g5.p⟩
end
end
section
open PySem PySem.W PyProof.Rows PySem.Calls PySem.SeqAt
section
variable {X:Amb} {D:Nat} {sc:Names} {L:Lc} {m m1 m2:Mem} {P:RP} {rest:List Stmt}
private theorem W.app {pre:List Stmt} (h:W X D sc pre L m (Then X D sc rest P)):W X D sc (pre++rest) L m P:=fun env own A c T Q E k=>by
  rw [execs_app]
  refine wpAny_bind (h env own A c T _ _ fun v d fl L' m' f=>?_)
  cases f.r with
  | next=>exact f.p env own A d (T.on f.F) Q E fun v e fl L m g=>k v e fl L m (g.fr f.l)
  | brk=>exact wpAny_pure (k _ _ _ _ _ ⟨f.l,f.F,.brk,f.p⟩)
  | cont=>exact wpAny_pure (k _ _ _ _ _ ⟨f.l,f.F,.cont,f.p⟩)
  | ret r=>exact wpAny_pure (k _ _ _ _ _ ⟨f.l,f.F,.ret r,f.p⟩)
private theorem PE.iterM {e:Expr} {name:Str} {apos pos p pc:Pos} {kc:Nat} {C:Addr} {mN:Str→Option Value} {F:Fd} {q:Str} {f:Addr} {i:Nat} {l:List (Str × AV)} (cl:Cls X C mN) (hfn:mN name = some (.ref f)) (mt:FnAt X.B F q [] .none f) {y:Option Value} (hB:typeLookup (.type "object") name = pure y)
    (hcp : (["__module__", "__name__", "__qualname__", "__doc__", "__annotations__"] : List Str).contains name = false) (hx : sc.lookup ("iter" : Str) = some .globalImplicit) (hg : Glo X.B "iter" (.builtin "iter"))
    (he:∀ env,eval (.Attribute e name apos) env = (do
      let o ← eval e env
      standAt apos.atName
      let r ← holding [o] (getAttr o name true)
      letTemporaryGo e o r
      pure r)) (hp:Pl [.Attribute e name apos,.Constant (.str "") kc pc]) (hst:∀ env,starEach [.Attribute e name apos,.Constant (.str "") kc pc] env = (false,eval (.Attribute e name apos) env) :: starEach [.Constant (.str "") kc pc] env) (hf:PE X D sc e L m (.inst C i) m1) (hm:m1[i]? = some (.ns l)) (hl:l.lookup name = Option.none) :
    PE X D sc (.Call (.Name "iter" p) [.Attribute e name apos,.Constant (.str "") kc pc] [] pos) L m (.mref m1.length) (sn m1 (.cit (some (f,C,i)))):=fun env A c T Q E k=>by
  show wpAny (model X.prog X.w) A (do callWith pos (← eval (.Name "iter" p) env) [] (backTo pos (starEach _ env)) (backToKw pos (keywordEach [] env))) Q E c.s
  refine wpAny_bind (globGo T hx hg (callWith_builtin (hp env pos).1 ((hp env pos).2 _ _ _ _ _ _ (wpAny_items_cons (Attribute_any_ (hf env A c T _ _ fun v d g=>?_) (he env)) (hst env)))))
  obtain ⟨x,o,dd,mm,e1,I⟩:=instAt g.h g.r hm
  subst e1
  have r1:=g.r
  obtain ⟨_,hC,hN,nga,nsa,nge⟩:=cl
  obtain ⟨of,doc,pm,cd,ct,hf⟩:=mt
  have hI:o.cls = .ref C∧∀ c,o.data ≠ .cls c:=by
    obtain ⟨o2,e1,e2,e3,_⟩:=I.I
    rw [g.h.frz I.m] at e1; cases e1; exact ⟨e2,e3⟩
  refine bound_load (g.h.base hC) (hN.ns g.h) nga hfn (g.h.base hf.m) hf.cls hB nge (g.h.frz I.m) hI.1 hI.2 I.dict I.ns.ns (I.v.no hl) hcp ?_
  have S2:=g.h.new (methObj f x) rfl (d.s.toks + 1)
  refine wpAny_items_cons (Constant_str (wpAny_items_nil ?_)) rfl
  have hbm:(d.M.set d.s.heap.objs.size (.frz (methObj f x))).h d.s.heap.objs.size = some (.frz (methObj f x)):=Map.set_at _ _ _
  refine wpAny_iter2 (S2.frz hbm) ?_
  have le:=Map.le_set (.frz (methObj f x)) g.h.top
  have S3:=S2.tok (d.s.toks + 1 + 1)
  have S4:=S3.newMut (ciObj (.ref d.s.heap.objs.size) (.str ⟨#[]⟩ (d.s.toks + 1)) (.bool false)) (ao:=.cit (some (f,C,i))) (d.s.toks + 1 + 1) (.cit (Heap.get?_push_size _ rfl) ((Map.le_set _ S3.top).h _ _ hbm) ((r1.up le).up (Map.le_set _ S3.top)))
  exact k _ ⟨_,_⟩ ⟨g.l.tr (le.tr (Map.le_set _ S3.top)),S4,.mref (Map.set_at _ _ _)⟩
end
end
section
open PySem PySem.W PyProof.Rows PySem.Calls PySem.SeqAt
set_option backward.match.sparseCases false in
noncomputable def clsBody:List Stmt:=match prog1[16]? with
  | some (Stmt.ClassDef _ _ _ body _ _ _ _ _ _ _)=>body
  | _=>[]
structure LexNs (mN:Str→Option Value):Prop where
  init:mN "__init__" = some (.ref 109)
  rc:mN "_read_char" = some (.ref 116)
  gt:mN "get_token" = some (.ref 123)
  pt:mN "push_token" = some (.ref 130)
  lineno:mN "lineno" = none
  instream:mN "instream" = none
  white:mN "whitespace" = none
  pushback:mN "pushback" = none
set_option backward.match.sparseCases false in
noncomputable def lamRead:LamS:=match (fdAt prog1 26).body[6]? with
  | some (Stmt.Assign _ (PySem.Expr.Lambda params body scope _) _)=>⟨body,params,scope⟩
  | _=>⟨.Constant .none 0 default,⟨[],[],none,[],[],none,[]⟩,default⟩
private theorem isRead1:IsRead lamRead where
  body:=⟨_,_,_,_,_,_,_,_,_,rfl,rfl⟩
  kind:=rfl
  co:=rfl
  gen:=rfl
  names:=rfl
  bind:=fun fd h1 h2 h3 a=>by
    obtain ⟨name,qual,params,body,scope,gl,cl,df,kw⟩:=fd
    dsimp only at h1 h2 h3
    subst h1; subst h2; subst h3
    rfl
structure KnL (X:Amb):Prop extends KnB X where
  cls:∃ mN,Cls X 133 mN∧LexNs mN
  gcls:Glo X.B "_netrclex" (.ref 133)
  mi':FnAt X.B (fdAt clsBody 0) "_netrclex.__init__" [] .none 109
  mr:FnAt X.B (fdAt clsBody 1) "_netrclex._read_char" [] .none 116
  mg:FnAt X.B (fdAt clsBody 2) "_netrclex.get_token" [] .none 123
  mp:FnAt X.B (fdAt clsBody 3) "_netrclex.push_token" [] .none 130
private theorem lo_lineno:typeLookup (.type "object") "lineno" = pure none:=by rw [typeLookup_type,builtinLookup_eq_fast]; kernel_rfl
private theorem lo_instream:typeLookup (.type "object") "instream" = pure none:=by rw [typeLookup_type,builtinLookup_eq_fast]; kernel_rfl
private theorem lo_white:typeLookup (.type "object") "whitespace" = pure none:=by rw [typeLookup_type,builtinLookup_eq_fast]; kernel_rfl
private theorem lo_pushback:typeLookup (.type "object") "pushback" = pure none:=by rw [typeLookup_type,builtinLookup_eq_fast]; kernel_rfl
private theorem lo_rc:typeLookup (.type "object") "_read_char" = pure none:=by rw [typeLookup_type,builtinLookup_eq_fast]; kernel_rfl
private theorem lo_gt:typeLookup (.type "object") "get_token" = pure none:=by rw [typeLookup_type,builtinLookup_eq_fast]; kernel_rfl
private theorem lo_pt:typeLookup (.type "object") "push_token" = pure none:=by rw [typeLookup_type,builtinLookup_eq_fast]; kernel_rfl
private theorem FnAt.meth {X:Amb} {D:Nat} {F:Fd} {q:Str} {a:Addr} {ps:List Str} {avs:List AV} {r:AV} {m mF:Mem} (h:FnAt X.B F q [] .none a) (lim:NoLim X.B) (hD:4≤D) (mu:List Nat) (ok:cloOkB ps F.scope = true) (hbind:∀ doc pm cd ct,BindN (fnXD F q [] .none doc pm cd ct) ps [] []) (hl:avs.length = ps.length)
    (hb:wpS ⟨X,D,F.scope.names,mu⟩ 40 40 F.body (ps.zip avs) m (Ret (IsV r mF))):Call X (D + 1) (opF a) m avs r mF :=
  (h.callF (fvs:=[]) lim (cloOk ok) ⟨nofun,nofun⟩ hbind hl (by rw [List.append_nil]; exact wpS_ok (G:=⟨X,D,F.scope.names,mu⟩) hD hb)).to
private theorem FnAt.methC {X:Amb} {D:Nat} {F:Fd} {q:Str} {a:Addr} {ps:List Str} {avs:List AV} {r:AV} {m mF:Mem} (h:FnAt X.B F q [] .none a) (lim:NoLim X.B) (hD:4≤D) (mu:List Nat) (ok:cloOkB ps F.scope = true) (hbind:∀ doc pm cd ct,BindN (fnXD F q [] .none doc pm cd ct) ps [] []) (hl:avs.length = ps.length)
    (hb:wpS ⟨X,D,F.scope.names,mu⟩ 40 40 F.body (ps.zip avs) m (Ret (IsV r mF))):CallC X (D + 1) a m avs r mF :=
  h.callC lim (cloOk ok) hbind hl ((wpS_ok (G:=⟨X,D,F.scope.names,mu⟩) hD hb))
end
section
open PySem PySem.W PyProof.Rows PySem.Calls PySem.SeqAt
structure MakeC (X:Amb) (C f:Addr):Prop where
  made:∀ h:Heap,(∀ b o,X.B.h b = some (.frz o)→h.get? b = some o)→PySem.W.Makes (model X.prog X.w) h C
  init:∀ h:Heap,(∀ b o,X.B.h b = some (.frz o)→h.get? b = some o)→Looks (model X.prog X.w) h (typeLookup (.ref C) "__init__") (some (.ref f))
  bind:∀ h:Heap,(∀ b o,X.B.h b = some (.frz o)→h.get? b = some o)→∀ self,Looks (model X.prog X.w) h (bindSpecial (.ref f) self) (.ref f,[self])
private theorem tc_weight (C:Addr) (vs:List Value):(Code.builtin "type.__call__" ⟨.ref C :: vs,[]⟩).weight = 1:=by kernel_rfl
private theorem tc_units (C:Addr) (vs:List Value):(Code.builtin "type.__call__" ⟨.ref C :: vs,[]⟩).cUnits = 1:=by kernel_rfl
section
variable {X:Amb} {D:Nat} {m m':Mem} {C f:Addr} {avs:List AV}
private theorem makeC (mk:MakeC X C f) (oi:CallC X D f (sn m (.ns [])) (.inst C m.length :: avs) .none m'):Call X (D + 1) (opF C) m avs (.inst C m.length) m':=fun A c vs R S rs Q E k=>by
  obtain ⟨⟨h,g,d,t,os⟩,M⟩:=c
  have S:Sep X ⟨h,g,d,t,os⟩ M m:=S
  refine wpAny_call (make_core (mk.made _ fun b o e=>S.base e) (mk.init _ fun b o e=>S.base e) (mk.bind _ fun b o e=>S.base e) (.inl rfl) ?_)
  have hnd:(h.push emptyDict).Ns h.objs.size (fun zz=>none):=⟨_,#[],_,Heap.get?_push_size _ rfl,rfl,fun e he=>absurd he (by simp),fun zz=>rfl⟩
  have S1:=S.newMut emptyDict (ao:=.ns []) t (.ns (Heap.Ns1.of_empty hnd) fun x=>.inr ⟨rfl,rfl⟩)
  have S2:=S1.new (instObj C h.objs.size) rfl t
  have hx:(h.push emptyDict).objs.size = h.objs.size + 1:=Heap.size_push ..
  have le1:M.le (M.set h.objs.size (.mu m.length)):=Map.le_set _ S.top
  have le2:=Map.le_set (.frz (instObj C h.objs.size)) S1.top
  have hr:Rep ((M.set h.objs.size (.mu m.length)).set (h.push emptyDict).objs.size (.frz (instObj C h.objs.size))) (.inst C m.length) (.ref (h.objs.size + 1)):=by
    rw [← hx]
    exact .inst (Map.set_at _ _ _) rfl (fun c q=>by cases q) rfl (le2.h _ _ (Map.set_at _ _ _))
  have R':Room (A.under (.builtin "type.__call__" ⟨.ref C :: vs,[]⟩)) D:=by
    have w1:=tc_weight C vs
    have w2:=tc_units C vs
    have r1:=R.2.1
    have r2:=R.2.2
    exact ⟨R.1,by show A.depth + _ + D < _; lia,by show A.units + _ + 16 * D + 16 < _; lia⟩
  refine codeAny_mono (oi _ ⟨_,_⟩ (.ref (h.objs.size + 1) :: vs) R' S2 (.cons hr (rs.up (le1.tr le2))) (fun v s'=>v = .none∧Q (.ref (h.objs.size + 1)) s') E fun v d' g'=>?_) fun r s' z=>?_
  · exact ⟨g'.r.i_none,k _ d' ⟨(le1.tr le2).tr g'.l,g'.h,hr.up g'.l⟩⟩
  · rcases r with e | (_ | _ | _ | v)
    · exact z
    · exact z.elim
    · exact z.elim
    · exact z.elim
    · exact z
private theorem callWithC {M:Model} {A:Around} {E:Value→Shared→Prop} {s:Shared} {pos:Pos} {C:Addr} {args:List (Bool × Sem Value)} {Q:Value→Shared→Prop} (hplain:args.any (·.1) = false)
    (h:wpAny M A (evalArgs (.ref C) true args []) (fun a s₁=>(∃ r:ClsD,s₁.heap.get? C = some (r.obj C))∧wpAny M A (call (.ref C) a.pos a.kw) Q E s₁) E s) :
    wpAny M A (callWith pos (.ref C) [] args []) Q E s:=by
  unfold callWith
  refine wpAny_bind (wpAny_holding (wpAny_mono h (fun a s₁ h₁=>?_) fun zz zz x=>x))
  obtain ⟨⟨r,hC⟩,h₂⟩:=h₁
  obtain ⟨hh,g,d,t,os⟩:=s₁
  refine wpAny_bind (wpAny_standAt ?_)
  simp only [hplain,List.any_nil,Bool.or_false]
  refine wpAny_bind (wpAny_keeperOf_exc hC ?_)
  exact wpAny_bind (wpAny_mono h₂ (fun r s₂ hr=>wpAny_bind (wpAny_holding (wpAny_point (wpAny_pure hr)))) fun zz zz x=>x)
private theorem Fn.cls {x:Str} {mN:Str→Option Value} {r:AV} (cl:Cls X C mN) (hg:Glo X.B x (.ref C)) (ho:Call X D (opF C) m avs r m'):Fn X D x m avs r m':=fun sc L m0 p es pos hx hes env A c T Q E k=>by
  show wpAny (model X.prog X.w) A (do callWith pos (← eval (.Name x p) env) [] (backTo pos (starEach es env)) (backToKw pos (keywordEach [] env))) Q E c.s
  refine wpAny_bind (globGo T hx hg (callWithC (hes.p env pos).1 ((hes.p env pos).2 _ _ _ _ _ _ (hes.v pos env A c T _ _ fun vs d g=>?_))))
  obtain ⟨r,cl⟩:=cl
  exact ⟨⟨r,g.h.base cl.m⟩,ho A d vs T.R g.h g.r Q E fun v d2 g2=>k v d2 (g2.fr g.l)⟩
end
end
section
open PySem PySem.W PyProof.Rows PySem.Calls PySem.SeqAt Builtin Builtin.ObjectAttr
private theorem slot_fn_sa:Slot "function" "__setattr__" "object.__setattr__":=.of (owner:="object") (n:="__setattr__") (by rw [typeLookup_type,builtinLookup_eq_fast]; kernel_rfl) (by decide +kernel) (by decide +kernel) (by decide +kernel) (by first | exact .inl (by decide +kernel) | exact .inr (by decide +kernel)) (by rw [isSubtype_type]; kernel_rfl)
private theorem args_osa (a b c:Value):argsOk "object.__setattr__" ⟨[a,b,c],[]⟩:=by unfold argsOk; kernel_rfl
private theorem mro_fn:mroOf (.type "function") = pure [.type "function",.type "object"]:=by kernel_rfl
private theorem passes_fn (self:Value):refuseLoop self "__setattr__" [.type "function",.type "object"] = pure ():=by kernel_rfl
section
variable {prog:Program} {w:World} {A:Around} {E:Value→Shared→Prop} {h:Heap} {g:Array GenState} {dr:Drawn} {t:Nat} {os:OsState}
private theorem osa_fn {f:Addr} {o:Obj} {v:Value} {tk:Tok} {Q:PySem.Fin→Shared→Prop} {fd:FuncData} (ho:h.get? f = some o) (hc:o.cls = .type "function") (hd:o.dict = none) (hdt:o.data = .func fd)
    (hq:∀ h' tk' d,h.get? d = none→h'.get? f = some { o with dict:=some d }→h'.Ns1 d (fun y=>if y = "read" then some v else none)→Heap.ExtBut f h h'→Q (.done (.ret .none)) ⟨h',g,dr,tk',os⟩):wpAny (model prog w) A (Builtin.«object.__setattr__» ⟨[.ref f,.str "read" tk,v],[]⟩) Q E ⟨h,g,dr,t,os⟩:=by
  unfold Builtin.«object.__setattr__»
  repeat (first | rw [refuse_eq] | (rw [passes_fn]) | (with_reducible refine wpAny_loadPart_at ho ?_; rw [hc]) | (with_reducible refine wpAny_of_eq mro_fn ?_) | (with_reducible refine wpAny_of_eq lk_fn_read ?_) | wp_step)
  rw [hd]
  dsimp only
  rw [show (!true || !typeHasDict (Value.type "function")) = false from by kernel_rfl,if_neg Bool.false_ne_true,hdt]
  have hx₁:(h.push { cls:=.type "dict",data:=.dict #[] }).get? f = some o:=Heap.get?_push_of_some _ ho
  have hxs:f ≠ h.objs.size:=Nat.ne_of_lt (Heap.lt_size ho)
  refine wpAny_bind (wpAny_alloc' ?_)
  refine wpAny_bind (wpAny_update' hx₁ ?_)
  have hgd:((h.push { cls:=.type "dict",data:=.dict #[] }).update f fun o=>{ cls:=o.cls,dict:=some h.objs.size,data:=o.data,slots:=o.slots }).get? h.objs.size
      = some { cls:=.type "dict",data:=.dict #[] } :=
    (Heap.get?_update_ne _ _ _ _ hxs.symm).trans (Heap.get?_push_at rfl rfl)
  have hnd:((h.push { cls:=.type "dict",data:=.dict #[] }).update f fun o=>{ cls:=o.cls,dict:=some h.objs.size,data:=o.data,slots:=o.slots }).Ns h.objs.size (fun zz=>none) :=
    ⟨_,#[],_,hgd,rfl,fun e he=>absurd he (by simp),fun zz=>rfl⟩
  have hgf:((h.push { cls:=.type "dict",data:=.dict #[] }).update f fun o=>{ cls:=o.cls,dict:=some h.objs.size,data:=o.data,slots:=o.slots }).get? f = some { cls:=o.cls,dict:=some h.objs.size,data:=o.data,slots:=o.slots }:=by
    refine Heap.get?_update_self _ hx₁ ?_
    obtain ⟨oc,od,odt,osl⟩:=o
    dsimp only at hdt
    subst hdt; rfl
  unfold dictMade
  show wpAny _ _ (if finalisedInACycleAlone "function" = true then _ else _) _ _ _
  rw [if_neg (by decide +kernel)]
  refine wpAny_pure ?_
  show wpAny _ _ (storeInDict h.objs.size (.str "read" tk) "read" v) _ _ _
  unfold storeInDict newKeyGuard
  refine wpAny_bind (wpAny_pure (wpAny_bind (wpAny_nsSet1 (Heap.Ns1.of_empty hnd) fun h' hn' hs=>?_)))
  obtain ⟨oD,esD,epD,hoD,hdD,hcD⟩:=hn'.count (Within.cons "read" v Within.nil)
  refine wpAny_bind (wpAny_lookBehind hoD (by rw [hdD]; exact pastItsLine_dict (Nat.le_trans hcD (by rw [List.length_cons,List.length_nil,sizeLine_eq]; lia))) ?_)
  wp_walk
  refine hq h' _ h.objs.size (Heap.get?_none_of_le (Nat.le_refl _)) ((hs.2 f hxs).trans hgf) hn' fun b ob hbx hb=>?_
  exact (hs.2 b (Nat.ne_of_lt (Heap.lt_size hb))).trans ((Heap.get?_update_ne _ _ _ _ hbx).trans (Heap.get?_push_of_some _ hb))
private theorem fn_setAttr {f:Addr} {o:Obj} {v:Value} {Q:Unit→Shared→Prop} {fd:FuncData} (ho:h.get? f = some o) (hc:o.cls = .type "function") (hd:o.dict = none) (hdt:o.data = .func fd)
    (hq:∀ h' tk' d,h.get? d = none→h'.get? f = some { o with dict:=some d }→h'.Ns1 d (fun y=>if y = "read" then some v else none)→Heap.ExtBut f h h'→Q () ⟨h',g,dr,tk',os⟩):wpAny (model prog w) A (setAttr (.ref f) "read" v) Q E ⟨h,g,dr,t,os⟩:=by
  have hT:∀ t',(⟨h,g,dr,t',os⟩:Shared).TypeIs (.ref f) "function":=fun zz=>⟨o,ho,hc⟩
  unfold setAttr
  refine wpAny_bind (wpAny_mkText (wpAny_bind ?_))
  refine wpAny_callSpecial?_slot (name:=Str.ofString "__setattr__") (hT _) slot_fn_sa (wpAny_call_entry slot_fn_sa (hT _) F.entry_object_sa (osa_fn ho hc hd hdt fun h' tk' d h1 h2 h3 h4=>?_) (args_osa _ _ _))
  exact ⟨_,rfl,wpAny_pure (hq h' tk' d h1 h2 h3 h4)⟩
end
end
section
open PySem PySem.W PyProof.Rows PySem.Calls PySem.SeqAt
section
variable {X:Amb} {D:Nat} {m:Mem}
end
end
section
open PySem PySem.W PyProof.Rows PySem.Calls PySem.SeqAt
section
variable {M:Model} {A:Around} {R:GenEnd} {Y:Protocol} {n:Nat} {s₀:Shared} {c:Code} {fs:List Frame} {s:Shared} {env:Env}
  {K:Flow→Sem PySem.Fin} {H:Value→Sem PySem.Fin} {gd:Bool→Bool} {lv:List Value→List Value}
private theorem seg_If {test:Expr} {body orelse:List Stmt} {pos:Pos}
    (h:wpAny M (A.over c fs) (isTrue test env (eval test env)) (fun b s'=>if b = true then Seg M A R Y n s₀ c ((execs body env).wrap K H gd lv) fs s' else Seg M A R Y n s₀ c ((execs orelse env).wrap K H gd lv) fs s') (fun zz zz=>False) s) :
    Seg M A R Y n s₀ c ((exec (.If test body orelse pos) env).wrap K H gd lv) fs s:=by
  show Seg M A R Y n s₀ c (.at pos fun zz=>(isTrue test env (eval test env) >>= fun b=>if b = true then execs body env else execs orelse env).wrap K H gd lv) fs s
  refine seg_at (seg_bind_wrap (wpAny_mono h (fun b s' hb=>?_) fun zz zz x=>x.elim))
  cases b with
  | true=>exact hb
  | false=>exact hb
private theorem seg_plain {st:Stmt} (h:wpAny M (A.over c fs) (exec st env) (fun f s'=>Seg M A R Y n s₀ c (K f) fs s') (fun zz zz=>False) s):Seg M A R Y n s₀ c ((exec st env).wrap K H gd lv) fs s :=
  seg_wrap (wpAny_mono h (fun zz zz x=>x) fun zz zz x=>x.elim)
private theorem seg_For {target iter:Expr} {body orelse:List Stmt} {pos:Pos} (hs:∀ x,foldedSetIterable iter env x = pure x)
    (h:wpAny M (A.over c fs) (eval iter env) (fun x s₁=>wpAny M (A.over c fs) (pyIter x) (fun it s₂ =>
      ∀ p,Seg M A R Y n s₀ (.forLoop target it body orelse env) (M.den (.forLoop target it body orelse env))
        (.ret (fun r=>((match r with | .ok f=>(.pure f:Sem Flow) | .error e=>.raise e).onRaise fun (x:Value)=>do
          if (← field x 1) == Value.none then unsupported "frame.own-activation:exception-without-traceback"
          setFlight x env.frame).wrap K H gd lv) none (gd false) (lv []) c p [] :: fs) s₂) (fun zz zz=>False) s₁) (fun zz zz=>False) s) :
    Seg M A R Y n s₀ c ((exec (.For target iter body orelse pos) env).wrap K H gd lv) fs s:=by
  show Seg M A R Y n s₀ c (.at pos fun zz=>(eval iter env >>= fun x=>foldedSetIterable iter env x >>= fun x=>standAt iter.pos >>= fun zz=>holding [x] (pyIter x) >>= fun it=>runOwn (.forLoop target it body orelse env) env).wrap K H gd lv) fs s
  refine seg_at (seg_bind_wrap (wpAny_mono h (fun x s₁ h₁=>?_) fun zz zz x=>x.elim))
  rw [hs x]
  show Seg M A R Y n s₀ c (.at iter.pos fun zz=>(holding [x] (pyIter x) >>= fun it=>runOwn (.forLoop target it body orelse env) env).wrap K H gd lv) fs s₁
  refine seg_at (seg_bind_wrap (wpAny_holding (wpAny_mono h₁ (fun it s₂ h₂=>?_) fun zz zz x=>x.elim)))
  exact seg_call h₂
end
section
variable {prog:Program} {w:World} {A:Around} {R:GenEnd} {Y:Protocol} {n:Nat} {s₀:Shared} {fs:List Frame} {s:Shared} {env:Env}
noncomputable def notes (env:Env):Value→Sem PySem.Fin:=fun e=>(do noteFrame e env; theTreesLotGoes e:Sem Unit).wrap (fun zz=>.raise e) .raise id id
private theorem seg_forLoop {target:Expr} {it:Value} {body orelse:List Stmt}
    (h:wpAny (model prog w) (A.over (.forLoop target it body orelse env) fs) (pyNext it) (fun r s₁=>match r with
      | none=>Seg (model prog w) A R Y n s₀ (.block orelse env) ((model prog w).den (.block orelse env)) fs s₁
      | some v=>wpAny (model prog w) (A.over (.forLoop target it body orelse env) fs) (letOwnedTupleGo target it v) (fun zz s₂=>wpAny (model prog w) (A.over (.forLoop target it body orelse env) fs) (assign target env v) (fun zz s₃ =>
          Seg (model prog w) A R Y n s₀ (.forLoop target it body orelse env) ((execs body env).wrap (fun f=>match f with
            | .next | .cont=>.pure (.again (.forLoop target it body orelse env))
            | .brk=>.pure (.done .next)
            | .ret v=>.pure (.done (.ret v))) (notes env) id id) fs s₃) (fun zz zz=>False) s₂) (fun zz zz=>False) s₁) (fun zz zz=>False) s) :
    Seg (model prog w) A R Y n s₀ (.forLoop target it body orelse env) ((model prog w).den (.forLoop target it body orelse env)) fs s:=by
  show Seg _ A R Y n s₀ _ ((forTurn target it body orelse env).onRaise (fun x=>do noteFrame x env; theTreesLotGoes x)) fs s
  unfold forTurn
  rw [Sem.onRaise_eq_wrap]
  refine seg_bind_wrap (wpAny_standAt ?_)
  refine seg_bind_wrap (wpAny_onRaise (wpAny_mono h (fun r s₁ h₁=>?_) fun zz zz x=>x.elim))
  cases r with
  | none=>exact seg_again rfl h₁
  | some v =>
    dsimp only at h₁ ⊢
    refine seg_bind_wrap (wpAny_mono h₁ (fun zz s₂ h₂=>?_) fun zz zz x=>x.elim)
    refine seg_bind_wrap (wpAny_mono h₂ (fun zz s₃ h₃=>?_) fun zz zz x=>x.elim)
    rw [Sem.bind_eq_wrap',Sem.wrap_wrap]
    rw [Sem.wrap_congr (execs body env) _ _ (K' := fun f => match f with
          | .next | .cont=>.pure (.again (.forLoop target it body orelse env))
          | .brk=>.pure (.done .next)
          | .ret v=>.pure (.done (.ret v))) (H':=notes env) (fun f=>by cases f <;> rfl)
        (fun e=>by first | exact Sem.bind_eq_wrap _ _ | (show (do noteFrame e env; theTreesLotGoes e:Sem Unit).bind (fun zz=>.raise e) = _; rw [Sem.bind_eq_wrap]; rfl))]
    exact h₃
private theorem seg_block_nil (hfin:Seg (model prog w) A R Y n s₀ (.block [] env) (leafOf (.ok .next)) fs s):Seg (model prog w) A R Y n s₀ (.block [] env) ((model prog w).den (.block [] env)) fs s:=by
  exact hfin
end
section
variable {prog:Program} {w:World} {A:Around} {E:Value→Shared→Prop} {s:Shared}
private theorem pyNext_genQ {a:Addr} {g n:Nat} {gs:GenState} {P:Nat→Shared→Shared→Prop} {Y:Protocol} {Q:Option Value→Shared→Prop} (hh:A.handled = none)
    (hl:s.heap.NoLimit) (hroom:A.depth < recursionLimit)
    (hg:s.heap.IsGen a g) (hgs:s.gens[g]? = some gs)
    (hgo:gs.Goes (model prog w) A.in1 (fun n s₀ r s₁=>r = .ok (.ret .none)∧P n s₀ s₁) Y n (.send .none) (s.setGen g .running))
    (hY:∀ v s₁ gs',gs'.bare = true→Y (n - 1) (s.setGen g .running) v s₁ (fun r' s''=>match n with
        | 0=>False
        | m + 1=>gs'.Goes (model prog w) A.in1 (fun n s₀ r s₁=>r = .ok (.ret .none)∧P n s₀ s₁) Y m r' s'')→Q (some v) (s₁.setGen g gs'))
    (hP:∀ s₁,P n (s.setGen g .running) s₁→∀ h',(∀ b o,s₁.heap.get? b = some o→h'.get? b = some o)→Q none { s₁.setGen g .finished with heap:=h' }) :
    wpAny (model prog w) A (pyNext (.ref a)) Q E s:=by
  unfold pyNext
  refine wpAny_bind (wpAny_attempt (wpAny_callSpecial?_slot (name:=Str.ofString "__next__") hg.typeIs slot_gen_next
    (wpAny_call_entry slot_gen_next hg.typeIs entry_gen_next ?_ (args_gen_next _))))
  show wpAny _ A.in1 (Builtin.Generator.genWake (.ref a) (.send .none)) _ _ s
  unfold Builtin.Generator.genWake
  refine wpAny_bind (wpAny_holding (wpAny_genNumber hg (wpAny_bind (wpAny_genState hgs ?_))))
  cases gs with
  | running=>exact hgo.elim
  | finished=>exact hgo.elim
  | _ =>
    refine wpAny_bind (wpAny_roomToWake hl hroom ?_)
    show wpAny _ A.in1 (.resume g (.send .none) [] _) _ _ s
    refine wpAny_resumeQ hgs hgo (fun x s₁ hx=>?_) (fun v s₁ gs' hb hv=>?_)
    · obtain ⟨rfl,hp⟩:=hx
      show wpAny _ A.in1 (newExc (.type "StopIteration") [] >>= _) _ _ _
      refine wpAny_bind ?_
      simp only [newExc,newTuple]
      refine wpAny_bind (wpAny_newObj_type ?_ (by size_fits))
      refine wpAny_bind (m:=firstArgMember _ _) (wpAny_of_eq (a:=Value.none) (by first | rfl | (simp only [firstArgMember]; rfl)) ?_)
      refine wpAny_newObj_type ?_ (by size_fits)
      simp only [raiseNew]
      refine wpAny_bind (wpAny_bind (wpAny_handled ?_))
      first | rw [show A.in1.handled = none from hh] | rw [hh]
      refine wpAny_throw ?_
      refine wpAny_bind (wpAny_isInstance (T:="StopIteration") (b:=true) ⟨_,Heap.get?_push_size _ rfl,rfl⟩ isSubtype_stop ?_)
      exact wpAny_pure (hP s₁ hp _ fun b o hb=>Heap.get?_push_of_some _ (Heap.get?_push_of_some _ hb))
    · exact wpAny_pure ⟨v,rfl,wpAny_pure (hY v s₁ gs' hb hv)⟩
end
end
section
open PySem PySem.W PyProof.Rows PySem.Calls PySem.SeqAt
noncomputable def frzOf:Option Cel→Option Cel
  | some (.frz o)=>some (.frz o)
  | _=>none
noncomputable def XI (X:Amb) (os:OsState):Amb:={ X with B:=⟨fun a=>frzOf (X.B.h a),fun zz=>none⟩,os:=os }
noncomputable def allM (X:Amb) (s:Shared) (t:Addr):Map:=⟨fun a=>(frzOf (X.B.h a)).elim (if a = t then (s.heap.get? a).map .frz else (s.heap.get? a).map .pin) some,fun i=>s.gens[i]?⟩
private theorem frzOf_is {x:Option Cel} {y:Cel} (h:frzOf x = some y):∃ o,x = some (.frz o)∧y = .frz o:=by
  cases x with
  | none=>cases h
  | some z=>cases z <;> cases h; exact ⟨_,rfl,rfl⟩
private theorem NsM.xi {X:Amb} {os:OsState} {a:Addr} {m:Str→Option Value} (h:NsM X.B a m):NsM (XI X os).B a m:=by
  cases h with
  | mk a b c d=>exact .mk (by show frzOf _ = _; rw [a]; rfl) b c d
private theorem Glo.xi {X:Amb} {os:OsState} {x:Str} {v:Value} (h:Glo X.B x v):Glo (XI X os).B x v:=by
  cases h with
  | main a b=>exact .main a.xi b
  | bu a b c d=>exact .bu a.xi b c.xi d
structure Since (own:List Addr) (s₀ s:Shared):Prop where
  h:∀ a o,a ∉ own→s₀.heap.get? a = some o→s.heap.get? a = some o
  g:∀ (i:Nat) (x:GenState),s₀.gens[i]? = some x→s.gens[i]? = some x
  os:s.os = s₀.os
  bare:AllBare s.gens
private theorem Since.tr {own:List Addr} {a b c:Shared} (x:Since own a b) (y:Since own b c):Since own a c:=⟨fun p o h e=>y.h p o h (x.h p o h e),fun i z e=>y.g i z (x.g i z e),y.os.trans x.os,y.bare⟩
private theorem Since.rf {own:List Addr} {a:Shared} (h:AllBare a.gens):Since own a a:=⟨fun zz zz zz e=>e,fun zz zz e=>e,rfl,h⟩
private theorem Since.more {own own':List Addr} {a b:Shared} (x:Since own a b) (h:∀ p∈own,p∈own'):Since own' a b:=⟨fun p o n e=>x.h p o (fun q=>n (h p q)) e,x.g,x.os,x.bare⟩
structure Stands (X:Amb) (s:Shared):Prop where
  g:∀ a o,X.B.h a = some (.frz o)→s.heap.get? a = some o
  bare:AllBare s.gens
structure GEnv (X:Amb) (env:Env) (sc:Names) (L:Addr):Prop where
  names:env.scope.names = sc
  kind:env.scope.kind = .function
  gl:env.globals = mainGlobals
  bu:env.builtins = builtinsNs
  lc:env.locals = L
  cells:env.cells = []
  dbg:sc.lookup ("__debug__":Str) = none
  cld:sc.lookup ("__classdict__":Str) = none
  gL:X.B.h L = none
  nc:∀ x,sc.lookup x ≠ some .cell
structure GAt (X:Amb) (env:Env) (sc:Names) (L:Addr) (Lc:Lc) (s:Shared) (t:Addr):Prop where
  ns:∃ o es ep,s.heap.get? L = some o∧o.data = .dict es ep∧StrKeys es∧∀ x av,Lc.lookup x = some av→∃ v,Rep (allM X s t) av v∧sc.lookup x = some .local∧nsFind es x = some v
  st:Stands X s
section
variable {X:Amb} {env:Env} {sc:Names} {L t:Addr} {lc lc':Lc} {s:Shared} {m:Mem} {d:Cf} {D:Nat}
inductive AllM (X:Amb) (s:Shared) (t a:Addr):Option Cel→Prop
  | base {o}:X.B.h a = some (.frz o)→AllM X s t a (some (.frz o))
  | t:a = t→AllM X s t a ((s.heap.get? a).map .frz)
  | pin:a ≠ t→AllM X s t a ((s.heap.get? a).map .pin)
private theorem allM_is (a:Addr):AllM X s t a ((allM X s t).h a):=by
  show AllM X s t a ((frzOf (X.B.h a)).elim (if a = t then (s.heap.get? a).map .frz else (s.heap.get? a).map .pin) some)
  cases q:frzOf (X.B.h a) with
  | some y=>obtain ⟨o,h,rfl⟩:=frzOf_is q; exact .base h
  | none =>
    show AllM X s t a (if a = t then _ else _)
    split
    · exact .t ‹_›
    · exact .pin ‹_›
private theorem allM_pin (hb:X.B.h L = none) (ht:L ≠ t) {o:Obj} (e:s.heap.get? L = some o):(allM X s t).h L = some (.pin o):=by
  have:=allM_is (X:=X) (s:=s) (t:=t) L
  generalize (allM X s t).h L = z at this
  cases this with
  | base h=>rw [hb] at h; cases h
  | t h=>exact absurd h ht
  | pin _=>rw [e]; rfl
private theorem allM_ob (S:Stands X s) {a:Addr} {o:Obj} (e:s.heap.get? a = some o):(allM X s t).ob a o:=by
  unfold Map.ob
  have:=allM_is (X:=X) (s:=s) (t:=t) a
  generalize (allM X s t).h a = z at this
  cases this with
  | base h=>have:=S.g _ _ h; rw [e] at this; cases this; exact .inl rfl
  | t h=>rw [e]; exact .inl rfl
  | pin _=>rw [e]; exact .inr rfl
private theorem allM_frz {o:Obj} (S:Stands X s) (e:s.heap.get? t = some o):(allM X s t).h t = some (.frz o):=by
  have:=allM_is (X:=X) (s:=s) (t:=t) t
  generalize (allM X s t).h t = z at this
  cases this with
  | base h=>have:=S.g _ _ h; rw [e] at this; cases this; rfl
  | t h=>rw [e]; rfl
  | pin h=>exact absurd rfl h
private theorem allM_cell (S:Stands X s) {a:Addr} {x:Cel} (e:(allM X s t).h a = some x):CellAt (allM X s t) m s.heap a x∧∀ j,x ≠ .mu j:=by
  have:=allM_is (X:=X) (s:=s) (t:=t) a
  rw [e] at this
  generalize hz:some x = z at this
  cases this with
  | base h=>cases hz; exact ⟨.frz (S.g _ _ h),nofun⟩
  | t h=>obtain ⟨o,h1,rfl⟩:=Option.map_eq_some_iff.mp hz.symm; exact ⟨.frz h1,nofun⟩
  | pin _=>obtain ⟨o,h1,rfl⟩:=Option.map_eq_some_iff.mp hz.symm; exact ⟨.pin h1,nofun⟩
private theorem GAt.fs (V:GEnv X env sc L) (ht:L ≠ t) (g:GAt X env sc L lc s t):FS (XI X s.os) env sc [L] ⟨s,allM X s t⟩ [] lc:=by
  obtain ⟨o,es,ep,h1,h2,h3,h4⟩:=g.ns
  have hp:=allM_pin (t:=t) V.gL ht h1
  exact {
    S:={
      c:=fun a x e=>(allM_cell g.st e).1
      i:=fun a b j e zz=>absurd rfl ((allM_cell (m:=[]) g.st e).2 j)
      g:=fun zz zz e=>e
      x:=⟨fun a x e=>by
        have e:frzOf (X.B.h a) = some x:=e
        show (frzOf (X.B.h a)).elim _ some = _; rw [e]; rfl,fun i x (e:none = some x)=>by cases e⟩
      os:=rfl
      bare:=g.st.bare }
    N:={
      names:=.of V.names
      kind:=V.kind
      gl:=V.gl
      bu:=V.bu
      dbg:=V.dbg
      cld:=V.cld
      cel:=fun x c h=>by rw [V.cells] at h; cases h
      var:=fun x av h=>(h4 x av h).imp fun v q=>⟨q.1,.loc (by unfold Env.kindOf; rw [V.names]; exact q.2.1) (by rw [V.lc]; exact hp) h2 h3 q.2.2⟩ }
    ow:=fun a ha=>by cases List.mem_singleton.mp ha; exact ⟨⟨o,hp⟩,by show frzOf (X.B.h L) = none; rw [V.gL]; rfl⟩
    ns:=⟨nsFind es,by rw [V.lc]; exact ⟨o,es,ep,h1,h2,h3,fun zz=>rfl⟩⟩
    L:=by rw [V.lc]; exact List.mem_cons_self
    cell:=fun x c h=>by rw [V.cells] at h; cases h
    cL:=fun x c h=>by rw [V.cells] at h; cases h
    inj:=fun x y c h=>by rw [V.cells] at h; cases h }
private theorem GEnv.stos (V:GEnv X env sc L):Stos sc env [L]:=fun x h=>h.elim (fun h=>.inl (by unfold Env.kindOf; rw [V.names]; exact h)) fun h=>absurd h (V.nc x)
private theorem Sep.stands {os:OsState} (S:Sep (XI X os) s d.M m):Stands X s:=⟨fun a o e=>S.frz (S.x.h a (.frz o) (by show frzOf (X.B.h a) = _; rw [e]; rfl)),S.bare⟩
private theorem since_of (st:Stands X s) (S:Hp (XI X s.os) d m) (l:Map.leB [L] (allM X s t) d.M):Since [L] s d.s :=
  ⟨fun a o n e=>(allM_ob st e).elim (fun h=>S.frz (l.h a _ n h)) fun h=>S.pin (l.h a _ n h),fun i x e=>S.g i x (l.g i x e),S.os,S.bare⟩
end
end
section
open PySem PySem.W PyProof.Rows PySem.Calls PySem.SeqAt
noncomputable def esc:Nat→Bool→List Nat→List (Nat × List Nat)
  | i,true,[]=>[(i - 1,[92])]
  | _,false,[]=>[]
  | i,true,c :: r=>(i,[92,c]) :: esc (i + 1) false r
  | i,false,c :: r=>if c = 92 then esc (i + 1) true r else (i,[c]) :: esc (i + 1) false r
noncomputable def escF:Fd:=fdAt prog1 12
set_option backward.match.sparseCases false in
noncomputable def escFor:Expr × List Stmt:=match escF.body with
  | [_,_,.For t _ b _ _,_]=>(t,b)
  | _=>(.Name "" ⟨0,0,0,0⟩,[])
structure GLoc (X:Amb) (L:Addr) (b:Bool) (p:Int) (s:Shared):Prop where
  ns:∃ o es ep t,s.heap.get? L = some o∧o.data = .dict es ep∧StrKeys es∧nsFind es "escape" = some (.bool b)∧nsFind es "pos" = some (.int p t)
  st:Stands X s
noncomputable def gLc (b:Bool) (p:Int):Lc:=[("escape",.bool b),("pos",.int p)]
noncomputable def fin:Bool→List Nat→Bool
  | b,[]=>b
  | true,_ :: r=>fin false r
  | false,c :: r=>fin (c == 92) r
noncomputable def ownAt (L:Addr) (own:List Addr) (tr:Bool) (n:Nat):List Addr:=cond (tr && n == 0) [L] own
private theorem ownAt_L {L:Addr} {own:List Addr} {tr:Bool} {n:Nat} (h:L∈own):L∈ownAt L own tr n:=by
  unfold ownAt
  cases tr && n == 0 with
  | true=>exact List.mem_cons_self
  | false=>exact h
private theorem ownAt_sub {L b:Addr} {own:List Addr} {tr:Bool} {n:Nat} (h:L∈own) (hb:b∈ownAt L own tr n):b∈own:=by
  unfold ownAt at hb
  cases e:tr && n == 0 with
  | true=>rw [e] at hb; exact List.mem_singleton.mp hb ▸ h
  | false=>rw [e] at hb; exact hb
private theorem fin_len:∀ (r:List Nat) (i:Nat) (b:Bool),fin b r = true→(esc i b r).length ≠ 0
  | [],i,true,_=>nofun
  | c :: r,i,true,h=>nofun
  | c :: r,i,false,h=>by
    unfold esc
    split
    · rename_i hc
      exact fin_len r (i + 1) true (by subst hc; exact h)
    · exact nofun
private theorem ownAt_all {L:Addr} {own:List Addr} {tr:Bool} {r:List Nat} {i:Nat} {b:Bool} (h:tr = fin b r):ownAt L own tr (esc i b r).length = own:=by
  unfold ownAt
  cases tr with
  | false=>rfl
  | true=>rw [show ((esc i b r).length == 0) = false from beq_eq_false_iff_ne.mpr (fin_len r i b h.symm)]; rfl
noncomputable def gEnd (L:Addr) (own:List Addr) (tr:Bool):GenEnd:=fun n s₀ r s₁=>r = .ok (.ret .none)∧n = 0∧Since (ownAt L own tr 0) s₀ s₁
noncomputable def pairAV (x:Nat × List Nat):AV:=.tup [.int (x.1:Nat),.str x.2]
noncomputable def gProto (X:Amb) (L:Addr) (own:List Addr) (tr:Bool) (T:List (Nat × List Nat)):Protocol:=fun m s₀ v s kap =>
  (∃ x t n tk1 tk2,T.reverse[m]? = some x∧v = .ref t∧s₀.heap.get? t = none∧t ∉ own∧s.heap.get? t = some (tpo [.int x.1 tk1,.str ⟨x.2.toArray⟩ tk2] n))∧Since own s₀ s∧(∀ b∈ownAt L own tr m,∃ o,s.heap.get? b = some o) ∧
  ∀ s'':Shared,(∀ b∈ownAt L own tr m,∀ o,s.heap.get? b = some o→s''.heap.get? b = some o)→Stands X s''→kap (.send .none) s''
private theorem rev_at {α:Type} (pre r:List α) (x:α):(pre++x :: r).reverse[r.length]? = some x:=by
  rw [List.reverse_append,List.reverse_cons,List.append_assoc,List.getElem?_append_right (Nat.le_of_eq List.length_reverse),List.length_reverse,Nat.sub_self]; rfl
noncomputable abbrev escN:Names:=escF.scope.names
section
variable {X:Amb} {env:Env} {L:Addr} {s:Shared} {d:Cf} {m:Mem} {lc:Lc} {b:Bool} {p:Int}
private theorem gn:escN.lookup ("escape":Str) = some .local∧escN.lookup ("pos":Str) = some .local∧escN.lookup ("ch":Str) = some .local:=⟨rfl,rfl,rfl⟩
private theorem GLoc.at' (g:GLoc X L b p s) (t:Addr):GAt X env escN L (gLc b p) s t:=by
  obtain ⟨o,es,ep,tk,h1,h2,h3,h4,h5⟩:=g.ns
  refine ⟨⟨o,es,ep,h1,h2,h3,fun x av h=>?_⟩,g.st⟩
  rcases lookup_set h with ⟨rfl,rfl⟩ | ⟨_,h⟩
  · exact ⟨_,.bool b,gn.1,h4⟩
  · rcases lookup_set h with ⟨rfl,rfl⟩ | ⟨_,h⟩
    · exact ⟨_,.int p tk,gn.2.1,h5⟩
    · cases h
private theorem GLoc.of (V:GEnv X env escN L) {os:OsState} (F:FS (XI X os) env escN [L] d m lc) (hb:lc.lookup ("escape":Str) = some (.bool b)) (hp:lc.lookup ("pos":Str) = some (.int p)):GLoc X L b p d.s:=by
  obtain ⟨v,r,z⟩:=F.N.var _ _ hb
  obtain ⟨w,r2,z2⟩:=F.N.var _ _ hp
  rw [r.i_bool] at z
  obtain ⟨t,rfl⟩:=r2.i_int
  have hk:∀ x,escN.lookup x = some .local→¬ (env.kindOf x = some .cell∨env.kindOf x = some .free):=fun x h q=>by unfold Env.kindOf at q; rw [V.names,h] at q; exact q.elim nofun nofun
  cases z with
  | loc _ q1 q2 q3 q4 =>
    cases z2 with
    | loc _ q1' q2' q3' q4' =>
      rw [q1] at q1'; cases q1'
      rw [q2] at q2'; cases q2'
      rw [V.lc] at q1
      exact ⟨⟨_,_,_,t,F.S.pin q1,q2,q3,q4,q4'⟩,F.S.stands⟩
    | cel k=>exact absurd k (hk _ gn.2.1)
  | cel k=>exact absurd k (hk _ gn.1)
private theorem segYield {A:Around} {T:List (Nat × List Nat)} {n:Nat} {s₀ s3:Shared} {c0:Code} {fs:List Frame} {KF:Flow→Sem PySem.Fin} {H:Value→Sem PySem.Fin} {es:List Expr} {ke:Nat} {epos ypos pos:Pos} {own:List Addr} {t:Addr} {q:Nat} {tx:List Nat} {tr:Bool}
    (V:GEnv X env escN L) (co:env.scope.isCoroutine = false) (hfs:splitAtGen fs = none) (hfg:fs.any Frame.guarded = false) (R:Room (A.over c0 fs) 8) (hLo:L∈own) (hall:∀ b∈ownAt L own tr n,∃ o,s3.heap.get? b = some o) (st:Stands X s3) (F:FS (XI X s3.os) env escN [L] d [] lc) (l:Map.leB [L] (allM X s3 t) d.M)
    (hex:∀ a∈own,∃ a' o,a≤a'∧s3.heap.get? a' = some o) (hs:Since own s₀ s3) (hE:PEs (XI X s3.os) 8 escN es lc [] [.int (q:Nat),.str tx] []) (hT:T.reverse[n]? = some (q,tx)) (hb:lc.lookup ("escape":Str) = some (.bool b)) (hp:lc.lookup ("pos":Str) = some (.int (q:Nat)))
    (hnext:∀ s5 s'',Since [L] s3 s5→(∀ b∈ownAt L own tr n,∀ o,s5.heap.get? b = some o→s''.heap.get? b = some o)→GLoc X L b q s''→Seg (model X.prog X.w) A (gEnd L own tr) (gProto X L own tr T) n s'' c0 (KF .next) fs s'') :
    Seg (model X.prog X.w) A (gEnd L own tr) (gProto X L own tr T) (n + 1) s₀ c0 ((exec (.Expr (.Yield (some (.Tuple es ke epos)) ypos) pos) env).wrap KF H id id) fs d.s:=by
  refine seg_Expr_Yield hfs rfl hfg ?_ co (by unfold interactive; rw [V.kind]; rfl)
  refine wpAny_Tuple (hE epos env _ d (F.at' R) _ _ fun vs d4 g=>⟨by rw [g.r.len]; show 2≤2 ^ 24; decide,?_⟩)
  have F4:=F.keep g.l g.h
  have N:=Got.newTup F4.S g.r d4.s.toks
  have l5:Map.leB [L] (allM X s3 t) (d4.M.set d4.s.heap.objs.size (.frz (tpo vs))):=l.tr ((g.l.tr N.l).b [L])
  have F5:=F4.keep N.l N.h
  have below:∀ a o,s3.heap.get? a = some o→a < d4.s.heap.objs.size:=fun a o h=>by
    by_cases hL:a = L
    · subst hL; exact (F4.ow a List.mem_cons_self).1.elim fun q hq=>Heap.lt_size (F4.S.pin hq)
    · exact Heap.lt_size ((since_of st F4.S (l.tr (g.l.b [L]))).h a o (fun h=>hL (List.mem_singleton.mp h)) h)
  have hsince:=since_of st F5.S l5
  have hto:d4.s.heap.objs.size ∉ own:=fun hto=>(hex _ hto).elim fun a' h=>h.elim fun o h=>absurd (below a' o h.2) (Nat.not_lt.mpr h.1)
  intro kap hkap
  refine ⟨?_,hs.tr (hsince.more fun b hb=>List.mem_singleton.mp hb ▸ hLo),fun b hb=>?_,fun s'' ho hg=>hkap .none s'' (hnext _ s'' hsince ho ?_)⟩
  · cases g.r.i_cons with
    | mk r1 rs=>cases rs.i_cons with
      | mk r2 rs2 =>
        cases rs2.i_nil
        obtain ⟨tk1,rfl⟩:=r1.i_int
        obtain ⟨tk2,rfl⟩:=r2.i_str
        refine ⟨(q,tx),d4.s.heap.objs.size,0,tk1,tk2,hT,rfl,?_,hto,Heap.get?_push_size _ rfl⟩
        cases h:s₀.heap.get? d4.s.heap.objs.size with
        | none=>rfl
        | some o=>exact absurd (below _ o (hs.h _ o hto h)) (Nat.lt_irrefl _)
  · by_cases hbL:b = L
    · exact (F5.ow b (hbL ▸ List.mem_cons_self)).1.imp fun q hq=>F5.S.pin hq
    · exact (hall b hb).imp fun o ho=>hsince.h b o (fun h=>hbL (List.mem_singleton.mp h)) ho
  · obtain ⟨⟨o,es,ep,tk,h1,h2⟩,_⟩:=GLoc.of V F5 hb hp
    exact ⟨⟨o,es,ep,tk,ho _ (ownAt_L hLo) _ h1,h2⟩,hg⟩
end
end
section
open PySem PySem.W PyProof.Rows PySem.Calls PySem.SeqAt
structure GInv (X:Amb) (L e it:Addr) (St:Nat→Heap→Prop) (i:Nat) (b:Bool) (s:Shared):Prop where
  loc:∃ p,GLoc X L b p s∧(b = true→p = (i:Int) - 1∧1≤i)
  en:∃ old,IsEnum s.heap e it i old
  st:St i s.heap
noncomputable abbrev SegG (X:Amb) (A:Around) (L:Addr) (own:List Addr) (tr:Bool) (T:List (Nat × List Nat)) (n:Nat) (s₀:Shared) (c:Code) (t:Sem PySem.Fin) (fs:List Frame) (s:Shared):Prop:=Seg (model X.prog X.w) A (gEnd L own tr) (gProto X L own tr T) n s₀ c t fs s
noncomputable def escLoop (e:Addr) (env:Env):Code:=.forLoop escFor.1 (.ref e) escFor.2 [] env
section
variable {X:Amb} {env:Env} {L e it:Addr} {l:List Nat} {St:Nat→Heap→Prop} {A:Around} {T:List (Nat × List Nat)} {KK:Result→Sem PySem.Fin} {c0:Code} {pp:Pos} {tr:Bool}
private theorem okC {c:Nat} (hl:∀ c∈l,c < 0x110000) (h:c∈l):okS [c]:=okS_1 (hl c h)
private theorem h48:4≤8:=by decide
private theorem ok92:okS [92]:=okS_1 (by decide)
private theorem PEs.wp {D:Nat} {sc:Names} {es:List Expr} {lc:Lc} {m m1:Mem} {avs:List AV} (hD:4≤D) (hs:es.all notStar = true) (h:wpEs ⟨X,D,sc,[]⟩ 20 es lc m (IsV avs m1)):PEs X D sc es lc m avs m1 :=
  OkEs.go ((wpOk (G:=⟨X,D,sc,[]⟩) hD 20).es _ _ _ _ hs h) fun zz zz h1 zz h=>by cases h; exact h1
private theorem GLoc.lt {b:Bool} {p:Int} {s:Shared} (g:GLoc X L b p s):L ≠ s.heap.objs.size:=g.ns.elim fun zz h=>h.elim fun zz h=>h.elim fun zz h=>h.elim fun zz h=>Nat.ne_of_lt (Heap.lt_size h.1)
private theorem GLoc.live {b:Bool} {p:Int} {s:Shared} (g:GLoc X L b p s):∃ o,s.heap.get? L = some o:=g.ns.imp fun zz h=>h.elim fun zz h=>h.elim fun zz h=>h.elim fun zz h=>h.1
private theorem segW {X':Amb} (hp:X'.prog = X.prog∧X'.w = X.w) {own:List Addr} {n:Nat} {s₀:Shared} {c:Code} {fs:List Frame} {KF:Flow→Sem PySem.Fin} {H:Value→Sem PySem.Fin} {sc:Names} {lc:Lc} {P:RP} {sts:List Stmt} {d:Cf} {ow:List Addr} {tr:Bool}
    (h:W X' 8 sc sts lc [] P) (T':Now X' 8 sc env ow (A.over c fs) d lc []) (k:∀ v d' fl L' m',Fin X' env sc ow d P v d' fl L' m'→SegG X A L own tr T n s₀ c (KF v) fs d'.s):SegG X A L own tr T n s₀ c ((execs sts env).wrap KF H id id) fs d.s :=
  seg_wrap (by
    have:=h env ow _ d T' (fun v s'=>SegG X A L own tr T n s₀ c (KF v) fs s') (fun x s'=>SegG X A L own tr T n s₀ c (H x) fs s') k
    rw [hp.1,hp.2] at this
    exact this)
private theorem genLoop (V:GEnv X env escN L) (co:env.scope.isCoroutine = false) (hne:L ≠ e∧L ≠ it∧e ≠ it) (nB:∀ a o,X.B.h a = some (.frz o)→a ≠ e∧a ≠ it)
    (hD:∀ A:Around,A.handled = none→Draws X.prog X.w A it [it] l.length (fun i v=>∃ c u,l.toArray[i]? = some c∧v = .str ⟨#[c]⟩ u) St) (hl:∀ c∈l,c < 0x110000)
    (R:Room (A.over (escLoop e env) [.ret KK none false [] c0 pp []]) 8)
    (hEnd:∀ s₀ s b p,tr = b→GLoc X L b p s→(b = true→p = (l.length:Int) - 1∧1≤l.length)→(∃ pre,T = pre++esc l.length b [])→(∃ o,s.heap.get? e = some o)→Since [L,e,it] s₀ s→SegG X A L [L,e,it] tr T (esc l.length b []).length s₀ c0 (KK (.ok .next)) [] s) :
    ∀ (r:List Nat) (i:Nat) (b:Bool) (s₀ s:Shared),l.drop i = r→i≤l.length→GInv X L e it St i b s→Since [L,e,it] s₀ s→(∃ pre,T = pre++esc i b r)→tr = fin b r →
      SegG X A L [L,e,it] tr T (esc i b r).length s₀ (escLoop e env) ((model X.prog X.w).den (escLoop e env)) [.ret KK none false [] c0 pp []] s:=by
  intro r
  induction r with
  | nil =>
    intro i b s₀ s hd hi I hs hT htr
    have hil:i = l.length:=Nat.le_antisymm hi (List.drop_eq_nil_iff.mp hd)
    subst hil
    obtain ⟨p,g,hbp⟩:=I.loc
    obtain ⟨old,hen⟩:=I.en
    refine seg_forLoop (wpAny_pyNext_enum_endD (hD _ R.1) hen I.st fun h' hx=>?_)
    refine seg_block_nil (seg_leaf (.ok .next) (hEnd s₀ _ b p (by rw [htr]; cases b <;> rfl) ?_ hbp hT ⟨_,hx _ _ hne.2.2 hen⟩ (hs.tr ⟨fun a o ha e=>hx a o (fun h=>ha (h ▸ List.mem_cons_of_mem _ (List.mem_cons_of_mem _ List.mem_cons_self))) e,fun zz zz e=>e,rfl,g.st.bare⟩)))
    obtain ⟨o,es,ep,t,h1,h2⟩:=g.ns
    exact ⟨⟨o,es,ep,t,hx _ _ hne.2.1 h1,h2⟩,fun a o e=>hx a o (nB a o e).2 (g.st.g a o e),g.st.bare⟩
  | cons c r ih =>
    intro i b s₀ s hd hi I hs hT htr
    have hci : l[i]? = some c := by have : (l.drop i)[0]? = some c := by rw [hd]; rfl
                                    simpa using this
    have hlt:i < l.length:=(List.getElem?_eq_some_iff.mp hci).1
    have hcm:=okC hl (List.mem_of_getElem? hci)
    have hd':l.drop (i + 1) = r:=by rw [← List.drop_drop,hd]; rfl
    obtain ⟨p,g,hbp⟩:=I.loc
    obtain ⟨old,hen⟩:=I.en
    have hDA:=hD (A.over (escLoop e env) [.ret KK none false [] c0 pp []]).in1 R.1
    refine seg_forLoop (wpAny_pyNext_enum_itemD hDA hen I.st hlt hne.2.2 (fun h=>hne.2.2 (List.mem_singleton.mp h)) fun x h' tk ⟨cc,u,hcc,hxv⟩ hOut hSt hTup hsz hk=>?_)
    rw [List.getElem?_toArray,hci] at hcc; cases hcc
    subst hxv
    dsimp only
    refine wpAny_letOwnedTupleGo_enum hOut fun h3 hEn hsb=>?_
    have hsize:∀ a o,s.heap.get? a = some o→a ≠ s.heap.objs.size:=fun a o e h=>by subst h; exact absurd (Heap.lt_size e) (Nat.lt_irrefl _)
    obtain ⟨oit,hoit⟩:=hDA.live i _ I.st
    obtain ⟨oL,esL,epL,tL,hL1,hL2,hL3,hL4,hL5⟩:=g.ns
    have keep3:∀ a o,a ≠ e→a ≠ it→s.heap.get? a = some o→h3.get? a = some o:=fun a o h1 h2 q=>hsb.extBut a o h1 (hk a o h1 h2 q)
    have hT3:h3.get? s.heap.objs.size = some (tpo [.int (i:Nat) tk,.str ⟨#[c]⟩ u]):=hsb.extBut _ _ (hsize e _ hen).symm hTup
    have hst3:St (i + 1) h3:=hDA.frame _ _ _ hSt fun b hb o q=>hsb.extBut _ _ (fun h=>hne.2.2 (h.symm.trans (List.mem_singleton.mp hb))) q
    generalize hs3:({ s with heap:=h3,toks:=tk + 1 }:Shared) = s3
    have hh3:s3.heap = h3:=by rw [← hs3]
    subst hh3
    have hS3:Since [L,e,it] s s3:=hs3 ▸ ⟨fun a o ha q=>keep3 a o (fun h=>ha (h ▸ List.mem_cons_of_mem _ List.mem_cons_self)) (fun h=>ha (h ▸ List.mem_cons_of_mem _ (List.mem_cons_of_mem _ List.mem_cons_self))) q,fun zz zz e=>e,rfl,g.st.bare⟩
    have st3:Stands X s3:=⟨fun a o q=>keep3 a o (nB a o q).1 (nB a o q).2 (g.st.g a o q),hS3.bare⟩
    have F3:FS (XI X s3.os) env escN [L] ⟨s3,allM X s3 s.heap.objs.size⟩ [] [("escape",.bool b)]:=GAt.fs V (hsize L _ hL1) ⟨⟨oL,esL,epL,keep3 _ _ hne.1 hne.2.1 hL1,hL2,hL3,fun x av h=>by
      rcases lookup_set h with ⟨rfl,rfl⟩ | ⟨_,h⟩
      · exact ⟨_,.bool b,gn.1,hL4⟩
      · cases h⟩,st3⟩
    refine Asg.tup (X:=XI X s3.os) (D:=8) (st:=escN) (xs:=["pos","ch"]) (avs:=[.int (i:Nat),.str [c]]) (.cons rfl (.cons rfl .nil)) rfl env [L] _ ⟨s3,_⟩ [] (.ref s.heap.objs.size) R V.stos F3 (.tupOf (allM_frz st3 hT3) (.cons (.int _ _) (.one (.str [c] _)))) _ _ fun d4 l4 F4=>?_
    have mkI:∀ (b':Bool) (s5 s'' s6:Shared),Since [L] s3 s5→(∀ a∈[L,e,it],∀ o,s5.heap.get? a = some o→s''.heap.get? a = some o)→Since [L] s'' s6→GLoc X L b' (i:Nat) s6→GInv X L e it St (i + 1) b' s6:=fun b' s5 s'' s6 h1 h2 h3' h4 =>
      have up:∀ a o,a = e∨a = it→s3.heap.get? a = some o→s6.heap.get? a = some o:=fun a o ha q =>
        have hnL:a ∉ [L]:=fun hm=>ha.elim (fun h=>hne.1 ((List.mem_singleton.mp hm).symm.trans h)) (fun h=>hne.2.1 ((List.mem_singleton.mp hm).symm.trans h))
        h3'.h a o hnL (h2 a (ha.elim (fun h=>h ▸ List.mem_cons_of_mem _ List.mem_cons_self) fun h=>h ▸ List.mem_cons_of_mem _ (List.mem_cons_of_mem _ List.mem_cons_self)) o (h1.h a o hnL q))
      ⟨⟨(i:Nat),h4,fun zz=>⟨by lia,Nat.succ_le_succ (Nat.zero_le _)⟩⟩,⟨.str ⟨#[c]⟩ u,up e _ (.inl rfl) hEn⟩,hDA.frame _ _ _ hst3 fun a ha o q=>up _ _ (.inr (List.mem_singleton.mp ha)) q⟩
    have nextT:∀ b' pre',esc i b (c :: r) = pre'++esc (i + 1) b' r→∃ pre,T = pre++esc (i + 1) b' r:=fun b' pre' h=>hT.elim fun pre hp=>⟨pre++pre',by rw [hp,h,List.append_assoc]⟩
    have hall:∀ a∈[L,e,it],∃ o,s3.heap.get? a = some o:=fun a ha=>(List.mem_cons.mp ha).elim (fun h=>⟨_,h ▸ keep3 _ _ hne.1 hne.2.1 hL1⟩) fun ha=>(List.mem_cons.mp ha).elim (fun h=>⟨_,h ▸ hEn⟩) fun ha=>(hDA.live _ _ hst3).imp fun o ho=>List.mem_singleton.mp ha ▸ ho
    have hex:∀ a∈[L,e,it],∃ a' o,a≤a'∧s3.heap.get? a' = some o:=fun a ha=>(hall a ha).elim fun o h=>⟨a,o,Nat.le_refl _,h⟩
    have lown:∀ b∈[L],b∈[L,e,it]:=fun b hb=>List.mem_singleton.mp hb ▸ List.mem_cons_self
    refine seg_execs_cons (seg_If ((PT.wp (G:=⟨XI X _,8,escN,[]⟩) (k:=9) (b:=b) (m1:=[]) h48 (by exact .mk)).go ⟨R,V.stos,F4⟩ fun d5 l5 F5=>?_))
    have l5:=l4.tr l5
    cases b with
    | true =>
      have htr:tr = fin false r:=htr
      rw [if_pos rfl]
      refine seg_execs_cons (segYield (q:=i) (tx:=[92,c]) (b:=true) V co rfl rfl R List.mem_cons_self (by rw [ownAt_all htr]; exact hall) st3 F5 l5 hex (hs.tr hS3) ?_ (hT.elim fun pre h=>h ▸ rev_at pre _ _) rfl rfl fun s6 s'' h6 hown g6=>segW (X:=X) (X':=XI X _) ⟨rfl,rfl⟩ (P:=fun fl L m=>fl = .next∧L = ((("escape":Str),AV.bool false) :: gLc true i)∧m = []) ?_ ⟨R,V.stos,(g6.at' s''.heap.objs.size).fs V g6.lt⟩ fun v d7 fl L7 m7 f=>?_)
      · exact .wp (by decide) rfl ⟨.addS (by show 2≤2 ^ 24; decide),.mk⟩
      · exact wpS_ok (G:=⟨XI X _,8,escN,[]⟩) (k:=9) (n:=9) h48 ⟨rfl,rfl,rfl⟩
      · obtain ⟨rfl,rfl,rfl⟩:=f.p
        cases f.r
        have hS7:=since_of g6.st f.F.S f.l
        exact seg_execs_nil (seg_again rfl (ih (i + 1) false s'' d7.s hd' hlt (mkI false s6 s'' d7.s h6 (by rw [ownAt_all htr] at hown; exact hown) hS7 (GLoc.of V f.F rfl rfl)) (hS7.more lown) (nextT false [(i,[92,c])] rfl) htr))
    | false =>
      rw [if_neg Bool.false_ne_true]
      refine seg_execs_cons (seg_If ((PT.wp (G:=⟨XI X _,8,escN,[]⟩) (k:=9) (b:=decide ([c] = [92])) (m1:=[]) h48 (by exact ⟨.eqS hcm ok92 h48,.mk⟩)).go ⟨R,V.stos,F5⟩ fun d6 l6 F6=>?_))
      have l6:=l5.tr l6
      by_cases hc:c = 92
      · rw [if_pos (decide_eq_true (by rw [hc]))]
        refine segW (X:=X) (X':=XI X _) ⟨rfl,rfl⟩ (P:=fun fl L m=>fl = .next∧L = ((("escape":Str),AV.bool true) :: binds ["pos","ch"] [.int (i:Nat),.str [c]] [("escape",.bool false)])∧m = []) (wpS_ok (G:=⟨XI X _,8,escN,[]⟩) (k:=9) (n:=9) h48 (by exact ⟨rfl,rfl,rfl⟩)) ⟨R,V.stos,F6⟩ fun v d7 fl L7 m7 f=>?_
        obtain ⟨rfl,rfl,rfl⟩:=f.p
        cases f.r
        have hS7:=since_of st3 f.F.S (l6.tr f.l)
        have he:esc i false (c :: r) = esc (i + 1) true r:=if_pos hc
        rw [he]
        exact seg_execs_nil (seg_execs_nil (seg_again rfl (ih (i + 1) true s₀ d7.s hd' hlt (mkI true d7.s d7.s d7.s hS7 (fun zz zz zz q=>q) (.rf hS7.bare) (GLoc.of V f.F rfl rfl)) ((hs.tr hS3).tr (hS7.more lown)) (nextT true [] he) (by rw [htr,hc]; rfl))))
      · rw [if_neg (Bool.eq_false_iff.mp (decide_eq_false fun h=>hc (List.cons.inj h).1))]
        have he:esc i false (c :: r) = (i,[c]) :: esc (i + 1) false r:=if_neg hc
        have htr:tr = fin false r:=by rw [htr]; show fin (c == 92) r = _; rw [beq_eq_false_iff_ne.mpr hc]
        rw [he]
        refine seg_execs_cons (segYield (q:=i) (tx:=[c]) (b:=false) V co rfl rfl R List.mem_cons_self (by rw [ownAt_all htr]; exact hall) st3 F6 l6 hex (hs.tr hS3) ?_ (hT.elim fun pre h=>h ▸ he ▸ rev_at pre _ _) rfl rfl fun s6 s'' h6 hown g6=>?_)
        · exact .wp (by decide) rfl .mk
        · exact seg_execs_nil (seg_execs_nil (seg_execs_nil (seg_again rfl (ih (i + 1) false s'' s'' hd' hlt (mkI false s6 s'' s'' h6 (by rw [ownAt_all htr] at hown; exact hown) (.rf g6.st.bare) g6) (.rf g6.st.bare) (nextT false [(i,[c])] he) htr))))
end
end
section
open PySem PySem.W PyProof.Rows PySem.Calls PySem.SeqAt
private theorem room_func {A:Around} {D:Nat} {b:List Stmt} {env:Env} (R:Room A (D + 1)):Room (A.over (.func b env) []) D:=by
  have h1:(A.over (.func b env) []).depth = A.depth + 0 + 1:=rfl
  have h2:(A.over (.func b env) []).units = A.units + 0 + 3:=rfl
  exact ⟨R.1,by have:=R.2.1; lia,by have:=R.2.2; lia⟩
private theorem room_loop {A:Around} {D:Nat} {b lb:List Stmt} {env:Env} {t:Expr} {v:Value} {KK:Result→Sem PySem.Fin} {g:Bool} {lv:List Value} {p:Pos} (R:Room A (D + 2)):Room (A.over (.forLoop t v lb [] env) [.ret KK none g lv (.func b env) p []]) D:=by
  have h1:(A.over (.forLoop t v lb [] env) [.ret KK none g lv (.func b env) p []]).depth = A.depth + (1 + 0) + 0:=rfl
  have h2:(A.over (.forLoop t v lb [] env) [.ret KK none g lv (.func b env) p []]).units = A.units + (3 + 0) + 0:=rfl
  exact ⟨R.1,by have:=R.2.1; lia,by have:=R.2.2; lia⟩
section
variable {X:Amb} {env:Env} {L:Addr} {l:List Nat} {A:Around}
private theorem genFirst (V:GEnv X env escN L) (co:env.scope.isCoroutine = false) (hl:∀ c∈l,c < 0x110000) (gen:Glo X.B "enumerate" (.type "enumerate")) (R:Room A 10) {s:Shared} {m:Str→Option Value} {t:Tok} (hn:s.heap.Ns L m) (ha:m "addr" = some (.str ⟨l.toArray⟩ t)) (st:Stands X s) {e it:Addr} (ee:e = s.heap.objs.size + 1) (ei:it = s.heap.objs.size) :
    SegG X A L [L,e,it] (fin false l) (esc 0 false l) (esc 0 false l).length s (.func escF.body env) ((model X.prog X.w).den (.func escF.body env)) [] s:=by
  have kind:∀ x,escN.lookup x = some .local→env.kindOf x = some .local:=fun x h=>by unfold Env.kindOf; rw [V.names]; exact h
  have plainF:(env.scope.kind == .class || (env.scope.kind == .module && env.locals != env.globals)) = false:=by rw [V.kind]; rfl
  have R0:Room (A.over (.func escF.body env) []) 8:=room_func (R.le (by decide))
  have hLlt:L < it:=ei ▸ hn.lt
  have hnL:s.heap.Ns env.locals m:=V.lc ▸ hn
  refine seg_func (seg_execs_cons (seg_plain (wpAny_Assign_Name (wpAny_Constant_int (wpAny_storeName_local (kind _ gn.2.1) hnL (fun h1 hn1 hs1=>?_) plainF)) rfl)))
  refine seg_execs_cons (seg_plain (wpAny_Assign_Name (wpAny_pure (wpAny_storeName_local (kind _ gn.1) hn1 (fun h2 hn2 hs2=>?_) plainF)) rfl))
  rw [V.lc] at hn2 hs1 hs2
  have keep2:∀ a o,a ≠ L→s.heap.get? a = some o→h2.get? a = some o:=fun a o h e=>hs2.extBut a o h (hs1.extBut a o h e)
  have hsz2:h2.objs.size = it:=by rw [hs2.1,ei]; exact hs1.1
  have st2:Stands X { s with heap:=h2,toks:=s.toks + 1 + 1 + 1 }:=⟨fun a o e=>keep2 a o (fun h=>by rw [h,V.gL] at e; cases e) (st.g a o e),st.bare⟩
  obtain ⟨oL,esL,epL,hL1,hL2,hL3,hL4⟩:=hn2
  have F0:=GAt.fs (lc:=[("addr",.str l)]) (s:={ s with heap:=h2,toks:=s.toks + 1 + 1 + 1 }) (t:=h2.objs.size) V (Nat.ne_of_lt (hsz2 ▸ hLlt)) ⟨⟨oL,esL,epL,hL1,hL2,hL3,fun x av h=>by
    rcases lookup_set h with ⟨rfl,rfl⟩ | ⟨_,h⟩
    · exact ⟨_,.str l t,rfl,(hL4 _).trans ha⟩
    · cases h⟩,st2⟩
  refine seg_execs_cons (seg_For (fun zz=>rfl) ?_)
  refine (wpAny_bind (globGo (F0.at' R0) rfl gen.xi (PySem.callWith_type rfl ((plain_pl rfl env _).2 _ _ _ _ _ _ ?_))):wpAny _ _ (do callWith _ (← eval _ env) [] (backTo _ (starEach [.Name "addr" _] env)) (backToKw _ (keywordEach [] env))) _ _ _)
  obtain ⟨va,ra,za⟩:=F0.N.var ("addr":Str) (.str l) rfl
  obtain ⟨ta,rfl⟩:=ra.i_str
  refine wpAny_items_cons (wpAny_Name (loadVar F0.N F0.S za ?_) (za.dbg F0.N.dbg')) rfl
  refine wpAny_items_nil (call_enumerate_str fun h4 hEn hIt hsz4 hk4=>?_)
  dsimp only at hEn hIt hsz4 hk4 ⊢
  rw [hsz2] at hEn hIt hsz4
  rw [hsz2]
  rw [← ei] at ee
  rw [← ee] at hEn ⊢
  refine wpAny_pyIter_enum hEn fun pp=>?_
  obtain ⟨St,hD,h0⟩:∃ St,(∀ A:Around,A.handled = none→Draws X.prog X.w A it [it] l.length (fun i v=>∃ c u,l.toArray[i]? = some c∧v = .str ⟨#[c]⟩ u) St)∧St 0 h4:=by
    unfold strIterType at hIt
    split at hIt
    · exact ⟨fun i h=>h.IsStrIter it "str_ascii_iterator" ⟨l.toArray⟩ ta (i:Nat),fun A hA=>Draws.strAscii hA _ ⟨l.toArray⟩ ta,hIt⟩
    · exact ⟨fun i h=>h.IsStrIter it "str_iterator" ⟨l.toArray⟩ ta (i:Nat),fun A hA=>Draws.strWide hA _ ⟨l.toArray⟩ ta,hIt⟩
  have nB:∀ a o,X.B.h a = some (.frz o)→a ≠ e∧a ≠ it:=fun a o q=>by
    have:a < it:=ei ▸ Heap.lt_size (st.g a o q)
    exact ⟨Nat.ne_of_lt (ee ▸ Nat.lt_succ_of_lt this),Nat.ne_of_lt this⟩
  refine genLoop (St:=St) V co ⟨Nat.ne_of_lt (ee ▸ Nat.lt_succ_of_lt hLlt),Nat.ne_of_lt hLlt,ee ▸ Nat.succ_ne_self _⟩ nB hD hl (room_loop R) (fun s₀ s1 b p htr g hb hT he1 hs=>?_) l 0 false s { s with heap:=h4,toks:=s.toks + 1 + 1 + 1 } rfl (Nat.zero_le _) ⟨⟨0,⟨⟨oL,esL,epL,_,hk4 _ _ hL1,hL2,hL3,(hL4 _).trans rfl,(hL4 _).trans rfl⟩,fun a o q=>hk4 a o (st2.g a o q),st.bare⟩,nofun⟩,⟨_,hEn⟩,h0⟩ ⟨fun a o h q=>hk4 a o (keep2 a o (fun h'=>h (h' ▸ List.mem_cons_self)) q),fun zz zz q=>q,rfl,st.bare⟩ ⟨[],rfl⟩ rfl
  show SegG X A _ _ _ _ _ s₀ _ ((execs [.If _ [.Expr (.Yield (some (.Tuple _ _ _)) _) _] [] _] env).wrap _ _ _ _) [] s1
  refine seg_execs_cons (seg_If ((PT.wp (G:=⟨XI X _,8,escN,[]⟩) (k:=9) (b:=b) (m1:=[]) h48 (by exact .mk)).go ⟨R0,V.stos,(g.at' s1.heap.objs.size).fs V g.lt⟩ fun d6 l6 F6=>?_))
  have hS6:=since_of g.st F6.S l6
  cases b with
  | true =>
    obtain ⟨hp,hl1⟩:=hb rfl
    obtain ⟨n,hn⟩:∃ n:Nat,l.length = n + 1:=⟨l.length - 1,by (clear hT hb he1; lia)⟩
    have hpn:p = (n:Nat):=by rw [hp,hn]; lia
    subst hpn
    rw [if_pos rfl]
    refine seg_execs_cons (segYield (n:=0) (q:=n) (tx:=[92]) (b:=true) V co rfl rfl R0 List.mem_cons_self (by rw [htr]; exact fun b hb=>List.mem_singleton.mp hb ▸ g.live) g.st F6 l6 ?_ hs (.wp (by decide) rfl .mk) (hT.elim fun pre h=>?_) rfl rfl fun s7 s'' zz zz g7=>seg_execs_nil (seg_execs_nil (seg_end (.ok (.ret .none)) ⟨rfl,rfl,.rf g7.st.bare⟩)))
    · exact fun a ha=>he1.elim fun oe hoe=>⟨e,oe,(List.mem_cons.mp ha).elim (fun h=>h ▸ ee ▸ Nat.le_of_lt (Nat.lt_succ_of_lt hLlt)) fun ha=>(List.mem_cons.mp ha).elim (fun h=>h ▸ Nat.le_refl _) fun ha=>List.mem_singleton.mp ha ▸ ee ▸ Nat.le_succ _,hoe⟩
    · rw [h,hn]; exact rev_at pre [] _
  | false =>
    rw [if_neg Bool.false_ne_true]
    exact seg_execs_nil (seg_execs_nil (seg_end (.ok (.ret .none)) ⟨rfl,rfl,by rw [htr]; exact hs.tr (hS6.more fun b hb=>List.mem_singleton.mp hb ▸ List.mem_cons_self)⟩))
end
end
section
open PySem PySem.W PyProof.Rows PySem.Calls PySem.SeqAt
noncomputable def star (D:Nat):Around:={ handled:=none,depth:=999 - D,frames:=none,guards:=none,units:=9883 - 16 * D }
private theorem wpAny_star {α:Type} {M:Model} {A:Around} {D:Nat} {m:Sem α} {Q:α→Shared→Prop} {E:Value→Shared→Prop} {s:Shared} (R:Room A D) (h:wpAny M (star D) m Q E s):wpAny M A m Q E s:=fun Γ p hΓ=>h Γ p
  ⟨hΓ.1.trans R.1,Nat.le_sub_of_add_le (Nat.le_trans (Nat.add_le_add_right hΓ.2.1 D) (Nat.le_of_lt_succ R.2.1)),fun l hl=>(by cases hl),fun l hl=>(by cases hl),Nat.le_sub_of_add_le (Nat.le_trans (Nat.add_le_add_right hΓ.2.2.2.2 (16 * D)) (Nat.le_of_add_le_add_right (b:=17) R.2.2))⟩
private theorem setGen_other {s:Shared} {g i:Nat} {x:GenState} (h:i ≠ g):(s.setGen g x).gens[i]? = s.gens[i]?:=by
  simp [Shared.setGen,Ne.symm h]
private theorem AllBare.setGen {s:Shared} {g:Nat} {x:GenState} (h:AllBare s.gens) (hx:x.bare = true):AllBare (s.setGen g x).gens:=fun y hy=>by
  obtain ⟨i,hi⟩:=Array.mem_iff_getElem?.mp hy
  by_cases e:i = g
  · subst e
    have hlt:i < s.gens.size:=by
      obtain ⟨hi',_⟩:=Array.getElem?_eq_some_iff.mp hi
      simpa [Shared.setGen] using hi'
    rw [setGen_self (gs:=s.gens[i]) (Array.getElem?_eq_getElem hlt)] at hi
    cases hi; exact hx
  · rw [setGen_other e] at hi
    exact h y (Array.mem_of_getElem? hi)
noncomputable def Map.plus (M W:Map):Map:=⟨fun a=>(W.h a).elim (M.h a) some,fun i=>(W.g i).elim (M.g i) some⟩
section
variable {X:Amb} {D:Nat} {sc:Names} {M W:Map} {s s':Shared} {m:Mem}
private theorem Map.plus_h {a:Addr} (h:W.h a = none):(M.plus W).h a = M.h a:=congrArg (fun o=>Option.elim o (M.h a) some) h
private theorem Map.plus_g {i:Nat} (h:W.g i = none):(M.plus W).g i = M.g i:=congrArg (fun o=>Option.elim o (M.g i) some) h
private theorem Map.plus_W:W.le (M.plus W):=⟨fun a x e=>congrArg (fun o=>Option.elim o (M.h a) some) e,fun a x e=>congrArg (fun o=>Option.elim o (M.g a) some) e⟩
structure Apart (M W:Map):Prop where
  h:∀ a x,M.h a = some x→W.h a = none
  g:∀ i x,M.g i = some x→W.g i = none
private theorem Map.plus_M (p:Apart M W):M.le (M.plus W):=⟨fun a x e=>(Map.plus_h (p.h a x e)).trans e,fun a x e=>(Map.plus_g (p.g a x e)).trans e⟩
structure PinsIn (W:Map) (s:Shared):Prop where
  h:∀ a x,W.h a = some x→∃ o,x = .pin o∧s.heap.get? a = some o
  g:∀ i x,W.g i = some x→s.gens[i]? = some x
private theorem Sep.plus (S:Sep X s M m) (p:Apart M W) (w:PinsIn W s):Sep X s (M.plus W) m :=
  have l:=Map.plus_M p
  have old:∀ a x,(M.plus W).h a = some x→W.h a = some x∨M.h a = some x:=fun a x e=>by
    cases q:W.h a with
    | none=>exact .inr ((Map.plus_h q) ▸ e)
    | some y=>rw [Map.plus_W.h _ _ q] at e; exact .inl e
  have mu:∀ a j,(M.plus W).h a = some (.mu j)→M.h a = some (.mu j):=fun a j e=>(old a _ e).elim (fun q=>(w.h _ _ q).elim fun o h=>nomatch h.1) id
  { S with
    c:=fun a x e=>(old a x e).elim (fun q=>by obtain ⟨o,rfl,h⟩:=w.h _ _ q; exact .pin h) fun q=>(S.c a x q).go l.l0 (fun zz e=>e) fun zz zz=>rfl
    i:=fun a b j e1 e2=>S.i a b j (mu a j e1) (mu b j e2)
    g:=fun i x e=>by
      cases q:W.g i with
      | none=>exact S.g i x ((Map.plus_g q) ▸ e)
      | some y=>rw [Map.plus_W.g _ _ q] at e; cases e; exact w.g i _ q
    x:=S.x.tr l }
private theorem Sep.subW (S:Sep X s M m) (w:W.le M) (wp:∀ a x,W.h a = some x→∃ o,x = .pin o) (b:Apart X.B W) (hk:∀ a o,W.h a = none→M.h a ≠ none→s.heap.get? a = some o→s'.heap.get? a = some o) (hg:∀ i x,W.g i = none→s.gens[i]? = some x→s'.gens[i]? = some x) (os:s'.os = s.os) (ba:AllBare s'.gens):Sep X s' (M.sub W) m :=
  have l0:M.le0 (M.sub W):=fun a x e n=>(Map.sub_h (by
    cases q:W.h a with
    | none=>rfl
    | some y=>obtain ⟨o,rfl⟩:=wp a y q; have:=w.h _ _ q; rw [e] at this; cases this; exact absurd rfl (n o))).trans e
  { c:=fun a x e=>(S.c a x (Map.sub_le.h _ _ e)).go l0 (fun o=>hk a o (Map.sub_W e) (by rw [Map.sub_le.h _ _ e]; exact nofun)) fun zz zz=>rfl
    i:=fun a b j e1 e2=>S.i a b j (Map.sub_le.h _ _ e1) (Map.sub_le.h _ _ e2)
    g:=fun i x e=>hg i x (Map.sub_Wg e) (S.g i x (Map.sub_le.g _ _ e))
    x:=⟨fun a x e=>(Map.sub_h (b.h a x e)).trans (S.x.h a x e),fun a x e=>(Map.sub_g (b.g a x e)).trans (S.x.g a x e)⟩
    os:=os.trans S.os
    bare:=ba }
noncomputable def WG (own:List Addr) (g:Nat) (s:Shared) (gs:GenState):Map:=⟨fun b=>if b∈own then (s.heap.get? b).map .pin else none,fun i=>if i = g then some gs else none⟩
variable {own own1:List Addr} {g:Nat} {gs gs':GenState} {s0 s1:Shared} {a b t:Addr} {c:Cf}
private theorem WG_no (h:b ∉ own):(WG own g s gs).h b = none:=if_neg h
private theorem WG_is {x:Cel} (h:(WG own g s gs).h b = some x):b∈own∧∃ o,x = .pin o∧s.heap.get? b = some o:=by
  by_cases e:b∈own
  · have h:(if b∈own then (s.heap.get? b).map Cel.pin else none) = some x:=h
    rw [if_pos e] at h
    obtain ⟨o,h1,h2⟩:=Option.map_eq_some_iff.mp h
    exact ⟨e,o,h2.symm,h1⟩
  · rw [WG_no e] at h; cases h
private theorem WG_h (h:b∈own) {o:Obj} (e:s.heap.get? b = some o):(WG own g s gs).h b = some (.pin o):=(if_pos h).trans (by rw [e]; rfl)
private theorem WG_g:(WG own g s gs).g g = some gs:=if_pos rfl
private theorem WG_gn {i:Nat} (h:i ≠ g):(WG own g s gs).g i = none:=if_neg h
private theorem WG_gi {i:Nat} {x:GenState} (h:(WG own g s gs).g i = some x):i = g∧x = gs:=by
  by_cases e:i = g
  · subst e; rw [WG_g] at h; cases h; exact ⟨rfl,rfl⟩
  · rw [WG_gn e] at h; cases h
private theorem WG_pins (hg:s.gens[g]? = some gs):PinsIn (WG own g s gs) s:=⟨fun zz zz e=>(WG_is e).2,fun i x e=>by obtain ⟨rfl,rfl⟩:=WG_gi e; exact hg⟩
private theorem genStep (S:Hp X c m) (w:(WG own g s0 gs).le c.M) (B:Apart X.B (WG own g s0 gs)) (hs:∀ b o,b ∉ own→c.s.heap.get? b = some o→s1.heap.get? b = some o) (hg:∀ i x,i ≠ g→c.s.gens[i]? = some x→s1.gens[i]? = some x) (os:s1.os = c.s.os) (ba:AllBare (s1.setGen g gs').gens) (gl:∃ x,s1.gens[g]? = some x) {o:Obj} (ht:c.s.heap.get? t = none) (ht1:s1.heap.get? t = some o) (h1:∀ b∈own1,b∈own∨c.s.heap.get? b = none) (hto:t ∉ own1) (ex:∀ b∈own,∃ o,s0.heap.get? b = some o) :
    ∃ M2,StepW X (WG own g s0 gs) c ⟨s1.setGen g gs',M2⟩ m∧M2.h t = some (.frz o)∧(WG own1 g (s1.setGen g gs') gs').le M2∧NextW c.M (WG own g s0 gs) (WG own1 g (s1.setGen g gs') gs'):=by
  have cn:∀ b,c.s.heap.get? b = none→c.M.h b = none:=fun b h=>S.fresh h
  have own0:∀ b,b∈own→∃ x,(WG own g s0 gs).h b = some x:=fun b h=>(ex b h).elim fun o e=>⟨_,WG_h h e⟩
  have S1:Sep X (s1.setGen g gs') (c.M.sub (WG own g s0 gs)) m:=S.subW (s':=s1.setGen g gs') w (fun a x e=>(WG_is e).2.imp fun o h=>h.1) B (fun b o n zz e=>hs b o (fun h=>(own0 b h).elim fun x q=>by rw [n] at q; cases q) e)
    (fun i x n e=>by
      have hi:i ≠ g:=fun h=>by rw [h,WG_g] at n; cases n
      rw [setGen_other hi]; exact hg i x hi e) os ba
  have st:(c.M.sub (WG own g s0 gs)).h t = none:=by
    cases e:(c.M.sub (WG own g s0 gs)).h t with
    | none=>rfl
    | some x=>have:=Map.sub_le.h _ _ e; rw [cn t ht] at this; cases this
  have S2:Sep X (s1.setGen g gs') ((c.M.sub (WG own g s0 gs)).set t (.frz o)) m:=S1.putNew (h':=s1.heap) (tk:=s1.toks) (mem':=m) st (fun zz zz zz e=>e) (fun zz zz zz zz=>rfl) nofun (.frz ht1)
  have dis:∀ b∈own1,(c.M.sub (WG own g s0 gs)).h b = none:=fun b hb=>(h1 b hb).elim (fun h=>(by
    cases e:(c.M.sub (WG own g s0 gs)).h b with
    | none=>rfl
    | some x=>obtain ⟨y,q⟩:=own0 b h; rw [Map.sub_W e] at q; cases q)) fun h=>(by
    cases e:(c.M.sub (WG own g s0 gs)).h b with
    | none=>rfl
    | some x=>have:=Map.sub_le.h _ _ e; rw [cn b h] at this; cases this)
  have A2:Apart ((c.M.sub (WG own g s0 gs)).set t (.frz o)) (WG own1 g (s1.setGen g gs') gs'):=⟨fun b x e=>by
      by_cases hb:b∈own1
      · rw [Map.set_ne _ _ fun (q:b = t)=>hto (q ▸ hb),dis b hb] at e; cases e
      · exact WG_no hb,fun i x e=>WG_gn fun h=>by
      have:(c.M.sub (WG own g s0 gs)).g i = some x:=e
      have q:=Map.sub_Wg this
      rw [h,WG_g] at q; cases q⟩
  have S3:=S2.plus A2 (WG_pins (gl.elim fun x q=>setGen_self q))
  refine ⟨_,⟨⟨fun b x n e=>(Map.plus_M A2).h _ _ ((Map.set_ne _ _ fun q=>by rw [q,cn t ht] at e; cases e).trans ((Map.sub_h n).trans e)),fun i x n e=>(Map.plus_M A2).g _ _ ((Map.sub_g n).trans e)⟩,S3⟩,(Map.plus_M A2).h _ _ (Map.set_at _ _ _),Map.plus_W,fun b x e=>(WG_is e).2.imp fun o h=>h.1,fun b x e n=>WG_no fun hb=>?_,fun i x e n=>WG_gn fun h=>by rw [h,WG_g] at n; cases n⟩
  rcases h1 b hb with h | h
  · obtain ⟨y,q⟩:=own0 b h; rw [n] at q; cases q
  · rw [cn b h] at e; cases e
end
end
section
open PySem PySem.W PyProof.Rows PySem.Calls PySem.SeqAt
section
variable {X:Amb} {D:Nat} {L a t:Addr} {g:Nat} {own:List Addr} {tr:Bool} {T:List (Nat × List Nat)} {M0:Map} {tgt:Expr} {m:Mem} {c:Cf} {s0 s1:Shared} {gs gs':GenState} {itv:Value}
structure GenFix (X:Amb) (D:Nat) (a L:Addr) (g:Nat) (own:List Addr):Prop where
  lim:NoLim X.B
  D:12≤D∧D≤500
  na:a ∉ own
  hL:L∈own
  nB:∀ b∈own,X.B.h b = none
  nBa:X.B.h a = none
  nBg:X.B.g g = none
private theorem GenFix.apart (V:GenFix X D a L g own) {ow:List Addr} (h:∀ b∈ow,b = a∨b∈own) {s:Shared}:Apart X.B (WG ow g s gs) :=
  ⟨fun b x e=>WG_no fun hb=>(h b hb).elim (fun q=>(by rw [q,V.nBa] at e; cases e)) fun q=>(by rw [V.nB b q] at e; cases e),fun i x e=>WG_gn fun q=>(by rw [q,V.nBg] at e; cases e)⟩
private theorem genYield (V:GenFix X D a L g own) {ow:List Addr} (S:Hp X c m) (w:(WG ow g s0 gs).le c.M) (how:∀ b∈ow,b = a∨b∈own) (haw:a∈ow) (ex:∀ b∈ow,∃ o,s0.heap.get? b = some o) (new:∀ b∈own,b∈ow∨c.s.heap.get? b = none) (hg:c.s.heap.IsGen a g) (hgs:c.s.gens[g]? = some gs) {x:Nat × List Nat} {r:List (Nat × List Nat)} (hT:∃ pre,T = pre++x :: r) {v:Value} {kap:Resume→Shared→Prop} (hb:gs'.bare = true) (Y:gProto X L own tr T r.length (c.s.setGen g .running) v s1 kap)
    (ih:(s1.setGen g gs').heap.IsGen a g→(∀ b∈a :: ownAt L own tr r.length,∃ o,(s1.setGen g gs').heap.get? b = some o)→(∀ s'':Shared,(∀ b∈a :: ownAt L own tr r.length,∀ o,(s1.setGen g gs').heap.get? b = some o→s''.heap.get? b = some o)→Stands X s''→kap (.send .none) s'')→Feeds X D tgt (.ref a) M0 (r.map pairAV) (WG (a :: ownAt L own tr r.length) g (s1.setGen g gs') gs'))
    {Q:Option Value→Shared→Prop} (q:∀ (v:Value) (d:Cf),(∀ (A2:Around) (Q2:Unit→Shared→Prop) (E2:Value→Shared→Prop),Room A2 D→(∀ d2 W2,StepW X (WG ow g s0 gs) c d2 m→Rep d2.M (pairAV x) v→W2.le d2.M→NextW c.M (WG ow g s0 gs) W2→Feeds X D tgt (.ref a) M0 (r.map pairAV) W2→Q2 () d2.s)→wpAny (model X.prog X.w) A2 (letOwnedTupleGo tgt (.ref a) v) Q2 E2 d.s)→Q (some v) d.s):Q (some v) (s1.setGen g gs'):=by
  obtain ⟨⟨y,t,n,tk1,tk2,hy,rfl,ht0,hto,ht1⟩,hs,hex,hkap⟩:=Y
  have hyx:y = x:=by obtain ⟨pre,rfl⟩:=hT; rw [rev_at] at hy; exact (Option.some.inj hy).symm
  subst hyx
  obtain ⟨oa,nm,qn,hoa,hra⟩:=id hg
  have hoa1:s1.heap.get? a = some oa:=hs.h a oa V.na hoa
  have ht0:c.s.heap.get? t = none:=ht0
  have hat:t ≠ a:=fun h=>by rw [h,hoa] at ht0; cases ht0
  obtain ⟨M2,h1,h2,h3,h4⟩:=genStep (gs':=gs') (own1:=a :: ownAt L own tr r.length) S w (V.apart how) (fun b o n e=>hs.h b o (fun h=>(new b h).elim n fun q=>by rw [q] at e; cases e) e) (fun i x hi e=>hs.g i x (by rw [setGen_other hi]; exact e)) hs.os (AllBare.setGen hs.bare hb) ⟨_,hs.g _ _ (setGen_self hgs)⟩ ht0 ht1 (fun b hb=>(List.mem_cons.mp hb).elim (fun h=>.inl (h ▸ haw)) fun h=>new b (ownAt_sub V.hL h)) (fun h=>(List.mem_cons.mp h).elim hat fun h=>hto (ownAt_sub V.hL h)) ex
  have isg:(s1.setGen g gs').heap.IsGen a g:=⟨oa,nm,qn,hoa1,hra⟩
  exact q (.ref t) ⟨s1.setGen g gs',M2⟩ fun A2 Q2 E2 zz q2=>letOwned_no (s:=s1.setGen g gs') (o:=oa) hoa1 hra.1 (by decide) (q2 ⟨s1.setGen g gs',M2⟩ _ h1 (.tupOf h2 (.cons (.int _ _) (.one (.str _ _)))) h3 h4 (ih isg (fun b hb=>(List.mem_cons.mp hb).elim (fun h=>h ▸ ⟨_,hoa1⟩) (hex b)) fun s'' h=>hkap s'' fun b hb=>h b (List.mem_cons_of_mem _ hb)))
private theorem feedsGen (V:GenFix X D a L g own) :
    ∀ (r:List (Nat × List Nat)) (s0:Shared) (gs:GenState),(∃ pre,T = pre++r)→s0.heap.IsGen a g→(∀ b∈a :: ownAt L own tr r.length,∃ o,s0.heap.get? b = some o) →
      (∀ s'':Shared,(∀ b∈a :: ownAt L own tr r.length,∀ o,s0.heap.get? b = some o→s''.heap.get? b = some o)→Stands X s''→gs.Goes (model X.prog X.w) (star D).in1 (gEnd L own tr) (gProto X L own tr T) r.length (.send .none) s'') →
      Feeds X D tgt (.ref a) M0 (r.map pairAV) (WG (a :: ownAt L own tr r.length) g s0 gs):=by
  intro r
  have start:∀ {n:Nat} {s0:Shared} {gs:GenState} {c:Cf} {m:Mem},s0.heap.IsGen a g→(∀ b∈a :: ownAt L own tr n,∃ o,s0.heap.get? b = some o)→Hp X c m→(WG (a :: ownAt L own tr n) g s0 gs).le c.M →
      c.s.heap.IsGen a g∧c.s.gens[g]? = some gs∧(∀ b∈a :: ownAt L own tr n,∀ o,s0.heap.get? b = some o→(c.s.setGen g .running).heap.get? b = some o)∧Stands X (c.s.setGen g .running):=fun {n s0 gs c m} hg he S w =>
    have k:∀ b∈a :: ownAt L own tr n,∀ o,s0.heap.get? b = some o→c.s.heap.get? b = some o:=fun b hb o e=>S.pin (w.h _ _ (WG_h hb e))
    ⟨hg.imp fun o h=>h.imp fun nm h=>h.imp fun qn h=>⟨k a List.mem_cons_self o h.1,h.2⟩,S.g _ _ (w.g _ _ WG_g),k,fun b o e=>S.frz (S.x.h b _ e),AllBare.setGen S.bare rfl⟩
  induction r with
  | nil =>
    intro s0 gs hT hg he hgo A c m Q E R _ S w q
    obtain ⟨h1,h2,h3,h4⟩:=start hg he S w
    have B:=V.apart (s:=s0) (gs:=gs) fun b (hb:b∈a :: ownAt L own tr 0)=>(List.mem_cons.mp hb).imp id (ownAt_sub V.hL)
    refine wpAny_star R (pyNext_genQ (A:=star D) (P:=fun n s₀ s₁=>n = 0∧Since (ownAt L own tr 0) s₀ s₁) rfl (V.lim.lim S) (by show 999 - D < 1000; have:=V.D; (clear this; omega)) h1 h2 (hgo _ h3 h4) (fun v s₁ gs' zz hY=>?_) (fun s₁ hP h' hk=>?_))
    · obtain ⟨_,hs,_,hkap⟩:=hY
      exact (hkap s₁ (fun zz zz zz e=>e) ⟨fun b o e=>hs.h b o (fun h=>by rw [V.nB b h] at e; cases e) (h4.g b o e),hs.bare⟩).elim
    · refine q ⟨{ s₁.setGen g .finished with heap:=h' },c.M.sub _⟩ ⟨⟨fun b x n e=>(Map.sub_h n).trans e,fun i x n e=>(Map.sub_g n).trans e⟩,S.subW w (fun b x e=>(WG_is e).2.imp fun o h=>h.1) B (fun b o n zz e=>hk b o (hP.2.h b o (fun hb=>?_) e)) (fun i x n e=>?_) hP.2.os (AllBare.setGen hP.2.bare rfl)⟩
      · obtain ⟨o',e'⟩:=he b (List.mem_cons_of_mem _ hb)
        exact nomatch (WG_h (gs:=gs) (g:=g) (show b∈a :: ownAt L own tr ([]:List (Nat × List Nat)).length from List.mem_cons_of_mem _ hb) e').symm.trans n
      · have hi:i ≠ g:=fun h=>by rw [h] at n; exact Option.some_ne_none _ (WG_g.symm.trans n)
        show (s₁.setGen g .finished).gens[i]? = some x
        rw [setGen_other hi]
        exact hP.2.g i x (by rw [setGen_other hi]; exact e)
  | cons x r ih =>
    intro s0 gs hT hg he hgo A c m Q E R _ S w q
    obtain ⟨h1,h2,h3,h4⟩:=start hg he S w
    have ownN:ownAt L own tr (x :: r).length = own:=by unfold ownAt; rw [show ((x :: r).length == 0) = false from rfl,Bool.and_false]; rfl
    refine wpAny_star R (pyNext_genQ (A:=star D) (P:=fun n s₀ s₁=>n = 0∧Since (ownAt L own tr 0) s₀ s₁) rfl (V.lim.lim S) (by show 999 - D < 1000; have:=V.D; (clear this; omega)) h1 h2 (hgo _ h3 h4) (fun v s₁ gs' hb hY=>?_) (fun s₁ hP=>absurd hP.1 (Nat.succ_ne_zero _)))
    exact genYield V S w (fun b hb=>(List.mem_cons.mp hb).imp id (ownAt_sub V.hL)) List.mem_cons_self he (fun b hb=>.inl (List.mem_cons_of_mem _ (ownN.symm ▸ hb))) h1 h2 hT hb hY (fun hg' he' hk=>ih _ gs' (hT.elim fun pre h=>⟨pre++[x],by rw [h,List.append_assoc]; rfl⟩) hg' he' hk) q
end
end
section
open PySem PySem.W PyProof.Rows PySem.Calls PySem.SeqAt
section
variable {X:Amb} {D:Nat} {L a:Addr} {g:Nat} {M0:Map} {tgt:Expr} {l:List Nat} {env:Env}
private theorem feedsFirst {s0:Shared} {m0:Str→Option Value} {t:Tok} (V:GEnv X env escN L) (co:env.scope.isCoroutine = false) (hl:∀ c∈l,c < 0x110000) (gen:Glo X.B "enumerate" (.type "enumerate")) (lim:NoLim X.B) (hD:12≤D∧D≤500) (hn:s0.heap.Ns L m0) (ha:m0 "addr" = some (.str ⟨l.toArray⟩ t)) (hg:s0.heap.IsGen a g) (haL:a ≠ L) (nBa:X.B.h a = none) (nBg:X.B.g g = none) :
    Feeds X D tgt (.ref a) M0 ((esc 0 false l).map pairAV) (WG [a,L] g s0 (.fresh (.func escF.body env))):=by
  have R10:Room (star D).in1 10:=⟨rfl,Nat.lt_of_le_of_lt (Nat.add_le_add_right (Nat.sub_le_sub_left hD.1 999) 10) (by decide),Nat.lt_of_le_of_lt (Nat.add_le_add_right (Nat.add_le_add_right (Nat.add_le_add_right (Nat.sub_le_sub_left (Nat.mul_le_mul_left 16 hD.1) 9883) 1) (16 * 10)) 16) (by decide)⟩
  have nBL:=V.gL
  have how:∀ b∈[a,L],b = a∨b = L:=fun b hb=>(List.mem_cons.mp hb).imp id List.mem_singleton.mp
  have B:Apart X.B (WG [a,L] g s0 (.fresh (.func escF.body env))):=⟨fun b x e=>WG_no fun hb=>(how b hb).elim (fun q=>(by rw [q,nBa] at e; cases e)) fun q=>(by rw [q,nBL] at e; cases e),fun i x e=>WG_gn fun q=>(by rw [q,nBg] at e; cases e)⟩
  have ex:∀ b∈[a,L],∃ o,s0.heap.get? b = some o:=fun b hb=>(how b hb).elim (fun h=>h ▸ hg.imp fun o h=>h.elim fun zz h=>h.elim fun zz h=>h.1) fun h=>h ▸ hn.imp fun o h=>h.elim fun zz h=>h.elim fun zz h=>h.1
  have start:∀ {c:Cf} {m:Mem},Hp X c m→(WG [a,L] g s0 (.fresh (.func escF.body env))).le c.M→c.s.heap.IsGen a g∧c.s.gens[g]? = some (.fresh (.func escF.body env))∧(∃ o,c.s.heap.get? L = some o) ∧
      (GenState.fresh (.func escF.body env)).Goes (model X.prog X.w) (star D).in1 (gEnd L [L,c.s.heap.objs.size + 1,c.s.heap.objs.size] (fin false l)) (gProto X L [L,c.s.heap.objs.size + 1,c.s.heap.objs.size] (fin false l) (esc 0 false l)) (esc 0 false l).length (.send .none) (c.s.setGen g .running):=fun {c m} S w =>
    have k:∀ b∈[a,L],∀ o,s0.heap.get? b = some o→c.s.heap.get? b = some o:=fun b hb o e=>S.pin (w.h _ _ (WG_h hb e))
    have hL:=List.mem_cons_of_mem a (List.mem_cons_self (a:=L) (l:=[]))
    ⟨hg.imp fun o h=>h.imp fun nm h=>h.imp fun qn h=>⟨k a List.mem_cons_self o h.1,h.2⟩,S.g _ _ (w.g _ _ WG_g),(ex L hL).imp (k L hL),
      rfl,genFirst V co hl gen R10 (s:=c.s.setGen g .running) (hn.imp fun o h=>h.imp fun es h=>h.imp fun ep h=>⟨k L hL o h.1,h.2⟩) ha ⟨fun b o e=>S.frz (S.x.h b _ e),AllBare.setGen S.bare rfl⟩ rfl rfl⟩
  have big:∀ (s:Shared) (b:Addr),s.heap.objs.size≤b→s.heap.get? b = none:=fun s b h=>by
    cases e:s.heap.get? b with
    | none=>rfl
    | some o=>exact absurd (Heap.lt_size e) (Nat.not_lt.mpr h)
  have fresh:∀ (s:Shared),∀ b∈[L,s.heap.objs.size + 1,s.heap.objs.size],b = L∨s.heap.get? b = none:=fun s b hb=>(List.mem_cons.mp hb).imp id fun hb=>(List.mem_cons.mp hb).elim (fun h=>big s b (by rw [h]; exact Nat.le_succ _)) fun h=>big s b (by rw [List.mem_singleton.mp h]; exact Nat.le_refl _)
  cases hT:esc 0 false l with
  | nil =>
    intro A c m Q E R _ S w q
    obtain ⟨h1,h2,h3,hgo⟩:=start S w
    rw [hT] at hgo
    refine wpAny_star R (pyNext_genQ (A:=star D) (n:=0) (P:=fun n s₀ s₁=>n = 0∧Since (ownAt L [L,c.s.heap.objs.size + 1,c.s.heap.objs.size] (fin false l) 0) s₀ s₁) rfl (lim.lim S) (by show 999 - D < 1000; (clear hD; omega)) h1 h2 hgo (fun v s₁ gs' zz hY=>?_) (fun s₁ hP h' hk=>?_))
    · obtain ⟨⟨_,_,_,_,_,hx,_⟩,_⟩:=hY; cases hx
    · refine q ⟨{ s₁.setGen g .finished with heap:=h' },c.M.sub _⟩ ⟨⟨fun b x n e=>(Map.sub_h n).trans e,fun i x n e=>(Map.sub_g n).trans e⟩,S.subW w (fun b x e=>(WG_is e).2.imp fun o h=>h.1) B (fun b o n zz e=>hk b o (hP.2.h b o (fun hb=>?_) e)) (fun i x n e=>?_) hP.2.os (AllBare.setGen hP.2.bare rfl)⟩
      · rcases fresh c.s b (ownAt_sub List.mem_cons_self hb) with h | h
        · obtain ⟨o',e'⟩:=ex L (List.mem_cons_of_mem _ List.mem_cons_self)
          rw [h,WG_h (List.mem_cons_of_mem _ List.mem_cons_self) e'] at n; cases n
        · rw [h] at e; cases e
      · have hi:i ≠ g:=fun h=>by rw [h,WG_g] at n; cases n
        show (s₁.setGen g .finished).gens[i]? = some x
        rw [setGen_other hi]
        exact hP.2.g i x (by rw [setGen_other hi]; exact e)
  | cons x r =>
    intro A c m Q E R _ S w q
    obtain ⟨h1,h2,⟨oL,hoL⟩,hgo⟩:=start S w
    rw [hT] at hgo
    have ha:∃ o,c.s.heap.get? a = some o:=h1.imp fun o h=>h.elim fun zz h=>h.elim fun zz h=>h.1
    have V2:GenFix X D a L g [L,c.s.heap.objs.size + 1,c.s.heap.objs.size]:=⟨lim,hD,fun h=>(fresh c.s a h).elim haL fun e=>ha.elim fun o q=>(by rw [e] at q; cases q),List.mem_cons_self,fun b hb=>(fresh c.s b hb).elim (fun h=>h ▸ nBL) fun h=>(by
      cases e:X.B.h b with
      | none=>rfl
      | some y=>have:=S.x.h _ _ e; rw [S.fresh h] at this; cases this),nBa,nBg⟩
    refine wpAny_star R (pyNext_genQ (A:=star D) (P:=fun n s₀ s₁=>n = 0∧Since (ownAt L [L,c.s.heap.objs.size + 1,c.s.heap.objs.size] (fin false l) 0) s₀ s₁) rfl (lim.lim S) (by show 999 - D < 1000; (clear hD; omega)) h1 h2 hgo (fun v s₁ gs' hb hY=>?_) (fun s₁ hP=>absurd hP.1 (Nat.succ_ne_zero _)))
    exact genYield V2 S w (fun b hb=>(how b hb).imp id fun (h:b = L)=>h ▸ List.mem_cons_self) List.mem_cons_self ex (fun b hb=>(fresh c.s b hb).imp (fun (h:b = L)=>h ▸ List.mem_cons_of_mem _ List.mem_cons_self) id) h1 h2 ⟨[],rfl⟩ hb hY (fun hg' he' hk=>feedsGen V2 r _ gs' ⟨[x],rfl⟩ hg' he' hk) q
end
end
section
open PySem PySem.W PyProof.Rows PySem.Calls PySem.SeqAt
section
variable {X:Amb} {D:Nat} {sc:Names} {L:Lc} {m m1:Mem} {tgt:Expr} {l:List Nat}
private theorem Sep.ext {s s':Shared} {M:Map} (S:Sep X s M m) (hk:∀ b o,s.heap.get? b = some o→s'.heap.get? b = some o) (hg:∀ (i:Nat) (x:GenState),s.gens[i]? = some x→s'.gens[i]? = some x) (os:s'.os = s.os) (ba:AllBare s'.gens):Sep X s' M m :=
  { S with c:=fun a x e=>(S.c a x e).go (Map.le.rf M).l0 (hk a) fun zz zz=>rfl,g:=fun i x e=>hg i x (S.g i x e),os:=os.trans S.os,bare:=ba }
private theorem PI.esc {fa:Addr} {p pos:Pos} {es:List Expr} (hF:FnG X escF fa) (lim:NoLim X.B) (gen:Glo X.B "enumerate" (.type "enumerate")) (hD:12≤D∧D≤500) (hx:sc.lookup escF.name = some .globalImplicit) (hes:PA X D sc es L m [.str l] m1) (hl:∀ c∈l,c < 0x110000) :
    PI X D sc tgt (.Call (.Name escF.name p) es [] pos) L m ((esc 0 false l).map pairAV) m1:=fun env A c T Q E k=>by
  obtain ⟨o,doc,pm,cd,ct,hf⟩:=hF.f
  refine (wpAny_bind (globGo T hx hF.g (callWith_function (o:=o) ((hes.p env pos).2 _ _ _ _ _ _ (hes.v pos env A c T _ _ fun vs d1 g=>⟨⟨g.h.base hf.m,hf.data⟩,?_⟩)))):wpAny (model X.prog X.w) A (do callWith pos (← eval (.Name escF.name p) env) [] (backTo pos (starEach es env)) (backToKw pos (keywordEach [] env))) _ _ c.s)
  cases g.r.i_cons with
  | mk r1 r2 =>
    cases r2.i_nil
    obtain ⟨t,rfl⟩:=r1.i_str
    obtain ⟨s1,M1⟩:=d1
    have S1:Sep X s1 M1 m1:=g.h
    have l1:c.M.le M1:=g.l
    dsimp only
    refine wpAny_call (codeAny_call_generator (body:=escF.body) (by have:=T.R.2.1; (clear hD; lia)) (S1.base hf.m) hf.data rfl rfl rfl (hf.code.go (s:=s1) S1) ?_)
    show wpAny _ _ (pure [(("addr":Str),Value.str ⟨l.toArray⟩ t)]) _ _ s1
    have ncell:∀ y∈escN,y.2 ≠ .cell:=fun y hy h=>by
      have:=List.all_eq_true.mp (show (escN.all fun p=>p.2 != .cell) = true from rfl) y hy
      rw [h] at this; cases this
    refine wpAny_pure (wpAny_newFunctionEnv ncell (fun y hy=>by cases List.mem_singleton.mp hy; rfl) (fun h' hns hsb=>?_) rfl)
    have keep:∀ a o,s1.heap.get? a = some o→h'.get? a = some o:=fun a o e=>hsb.extBut a o (Nat.ne_of_lt (Heap.lt_size e)) (Heap.get?_push_of_some _ e)
    refine ⟨(lim.lim S1).keeps keep,?_⟩
    have hsz:h'.objs.size = s1.heap.objs.size + 1:=by rw [hsb.1]; exact Heap.size_push ..
    have hLlt:s1.heap.objs.size < h'.objs.size:=by rw [hsz]; exact Nat.lt_succ_self _
    show wpAny _ A (pyIter (.ref h'.objs.size)) Q E _
    generalize hgo:({ cls:=.type "generator",data:=.fields #[.int s1.gens.size 0,.str escF.name (s1.toks + 1),.str escF.name (s1.toks + 1 + 1)] }:Obj) = gobj
    have hgobj:(h'.push gobj).get? h'.objs.size = some gobj:=Heap.get?_push_size _ (by rw [← hgo]; rfl)
    have hisgen:(h'.push gobj).IsGen h'.objs.size s1.gens.size:=⟨gobj,_,_,hgobj,by rw [← hgo],by rw [← hgo],by rw [← hgo]⟩
    generalize henv:newEnv escF.scope s1.heap.objs.size mainGlobals [] (escF.name++".<locals>.") (some fa) cd none builtinsNs = env'
    show wpAny (model X.prog X.w) A (pyIter (.ref h'.objs.size)) Q E { s1 with heap:=h'.push gobj,gens:=s1.gens.push (.fresh (.func escF.body env')),toks:=s1.toks + 1 + 1 + 1 }
    have S3:Sep X { s1 with heap:=h'.push gobj,gens:=s1.gens.push (.fresh (.func escF.body env')),toks:=s1.toks + 1 + 1 + 1 } M1 m1:=S1.ext (fun b o e=>Heap.get?_push_of_some _ (keep b o e)) (fun i y e=>by
      rw [Array.getElem?_push,if_neg (Nat.ne_of_lt (Array.getElem?_eq_some_iff.mp e).1)]; exact e) rfl (S1.bare.push rfl)
    generalize hs3:({ s1 with heap:=h'.push gobj,gens:=s1.gens.push (.fresh (.func escF.body env')),toks:=s1.toks + 1 + 1 + 1 }:Shared) = s3 at S3
    have eh:s3.heap = h'.push gobj:=by rw [← hs3]
    have eg:s3.gens[s1.gens.size]? = some (.fresh (.func escF.body env')):=by rw [← hs3]; exact Array.getElem?_push_size
    have hNs:s3.heap.Ns s1.heap.objs.size (fun x=>([(("addr":Str),Value.str ⟨l.toArray⟩ t)]:List (Str × Value)).reverse.lookup x):=eh ▸ hns.push gobj
    have hig:s3.heap.IsGen h'.objs.size s1.gens.size:=eh ▸ hisgen
    have gn:M1.g s1.gens.size = none:=by
      cases e:M1.g s1.gens.size with
      | none=>rfl
      | some x=>have:=S1.g _ _ e; rw [Array.getElem?_eq_none (Nat.le_refl _)] at this; cases this
    have dn:∀ b∈[h'.objs.size,s1.heap.objs.size],M1.h b = none:=fun b hb=>S1.fresh (by
      cases e:s1.heap.get? b with
      | none=>rfl
      | some q =>
        refine absurd (Heap.lt_size e) (Nat.not_lt.mpr ?_)
        rcases List.mem_cons.mp hb with h | h
        · rw [h]; exact Nat.le_of_lt hLlt
        · rw [List.mem_singleton.mp h]; exact Nat.le_refl _)
    have Bn:∀ b∈[h'.objs.size,s1.heap.objs.size],X.B.h b = none:=fun b hb=>by
      cases e:X.B.h b with
      | none=>rfl
      | some x=>have:=S1.x.h _ _ e; rw [dn b hb] at this; cases this
    have Bg:X.B.g s1.gens.size = none:=by
      cases e:X.B.g s1.gens.size with
      | none=>rfl
      | some x=>have:=S1.x.g _ _ e; rw [gn] at this; cases this
    have AP:Apart M1 (WG [h'.objs.size,s1.heap.objs.size] s1.gens.size s3 (.fresh (.func escF.body env'))):=⟨fun b x e=>WG_no fun hb=>(by rw [dn b hb] at e; cases e),fun i x e=>WG_gn fun h=>(by rw [h,gn] at e; cases e)⟩
    have le:=Map.plus_M AP
    have V:GEnv X env' escN s1.heap.objs.size:=henv ▸ ⟨rfl,rfl,rfl,rfl,rfl,rfl,rfl,rfl,Bn _ (List.mem_cons_of_mem _ List.mem_cons_self),fun y h=>ncell _ (mem_of_lookup h) rfl⟩
    refine wpAny_pyIter_gen hig (k _ ⟨s3,_⟩ _ { l:=l1.tr le,h:=S3.plus AP (WG_pins eg),w:=Map.plus_W,p:=⟨fun a x e=>(WG_is e).2.imp fun o h=>h.1,fun a x e=>AP.h a x (l1.h _ _ e),fun i x e=>AP.g i x (l1.g _ _ e)⟩,f:=feedsFirst V (henv ▸ rfl) hl gen lim hD hNs rfl hig (Nat.ne_of_gt hLlt) (Bn _ List.mem_cons_self) Bg,self:=fun A2 e2 m2 Q2 E2 w2 S2 hq=>?_ })
    exact wpAny_pyIter_gen (g:=s1.gens.size) ⟨gobj,_,_,S2.pin (w2.h _ _ (WG_h List.mem_cons_self (eh ▸ hgobj))),by rw [← hgo],by rw [← hgo],by rw [← hgo]⟩ hq
end
end
section
open PySem PySem.W PyProof.Rows PySem.Calls PySem.SeqAt
private theorem and_high (x s:Nat):x &&& (x / 2 ^ s * 2 ^ s) = x / 2 ^ s * 2 ^ s:=by
  have h:x / 2 ^ s * 2 ^ s = (x >>> s) <<< s:=by rw [Nat.shiftRight_eq_div_pow,Nat.shiftLeft_eq]
  rw [h]
  refine Nat.eq_of_testBit_eq fun i=>?_
  rw [Nat.testBit_and,Nat.testBit_shiftLeft,Nat.testBit_shiftRight]
  by_cases hi:s≤i
  · have:s + (i - s) = i:=by lia
    simp [hi,this]
  · simp [hi]
private theorem xor_low (x s:Nat):Builtin.bitXor (x:Int) ((x / 2 ^ s * 2 ^ s:Nat):Int) = ((x % 2 ^ s:Nat):Int):=by
  rw [bitXor_and]
  have h1:Builtin.bitAnd (x:Int) ((x / 2 ^ s * 2 ^ s:Nat):Int) = ((x &&& (x / 2 ^ s * 2 ^ s):Nat):Int):=by
    unfold Builtin.bitAnd
    have a:decide ((0:Int)≤x) = true:=by simp
    have b:decide ((0:Int)≤((x / 2 ^ s * 2 ^ s:Nat):Int)) = true:=decide_eq_true (Int.natCast_nonneg _)
    rw [a,b]; rfl
  rw [h1,and_high]
  have h2:=Nat.div_add_mod x (2 ^ s)
  rw [Nat.mul_comm] at h2
  lia
noncomputable def digsF (n:Nat):Nat→Nat→List Nat
  | 0,_=>[]
  | c + 1,x=>(x % 2 ^ n) :: digsF n c (x / 2 ^ n)
private theorem digs_len (n:Nat):∀ c x,(digsF n c x).length = c
  | 0,_=>rfl
  | c + 1,x=>by simp [digsF,digs_len n c]
private theorem digs_split (n:Nat):∀ a b x,digsF n (a + b) x = digsF n a (x % 2 ^ (n * a))++digsF n b (x / 2 ^ (n * a))
  | 0,b,x=>by simp [digsF]
  | a + 1,b,x=>by
    rw [show a + 1 + b = (a + b) + 1 by lia]
    simp only [digsF]
    have hp:2 ^ (n * (a + 1)) = 2 ^ n * 2 ^ (n * a):=by rw [Nat.mul_succ,Nat.add_comm,Nat.pow_add]
    rw [digs_split n a b (x / 2 ^ n),List.cons_append,hp,Nat.mod_mul_right_mod,Nat.mod_mul_right_div_self,Nat.div_div_eq_div_mul]
private theorem digs_one {n x:Nat} (h:x < 2 ^ n):digsF n 1 x = [x]:=by simp [digsF,Nat.mod_eq_of_lt h]
noncomputable def ofDigs (n:Nat):List Nat→Nat
  | []=>0
  | d :: r=>d + 2 ^ n * ofDigs n r
private theorem ofDigs_app (n:Nat):∀ a b,ofDigs n (a++b) = ofDigs n a + 2 ^ (n * a.length) * ofDigs n b
  | [],b=>by simp [ofDigs]
  | d :: r,b=>by
    simp only [List.cons_append,ofDigs,ofDigs_app n r b,List.length_cons]
    have hp:2 ^ (n * (r.length + 1)) = 2 ^ n * 2 ^ (n * r.length):=by rw [Nat.mul_succ,Nat.add_comm,Nat.pow_add]
    rw [hp,Nat.mul_add,Nat.mul_assoc,Nat.add_assoc]
private theorem ofDigs_digs (n:Nat):∀ c x,ofDigs n (digsF n c x) = x % 2 ^ (n * c)
  | 0,x=>by simp [digsF,ofDigs,Nat.mod_one]
  | c + 1,x=>by
    simp only [digsF,ofDigs,ofDigs_digs n c]
    have hp:2 ^ (n * (c + 1)) = 2 ^ n * 2 ^ (n * c):=by rw [Nat.mul_succ,Nat.add_comm,Nat.pow_add]
    rw [hp,Nat.mod_mul]
private theorem digs_lt (n:Nat):∀ c x,∀ d∈digsF n c x,d < 2 ^ n
  | 0,_=>by simp [digsF]
  | c + 1,x=>by
    intro d hd
    simp only [digsF,List.mem_cons] at hd
    rcases hd with rfl | hd
    · exact Nat.mod_lt _ (Nat.two_pow_pos n)
    · exact digs_lt n c _ d hd
private theorem ofDigs_lt (n:Nat):∀ ds:List Nat,(∀ d∈ds,d < 2 ^ n)→ofDigs n ds < 2 ^ (n * ds.length)
  | [],_=>by simp [ofDigs]
  | d :: r,h=>by
    have h1:=ofDigs_lt n r fun x hx=>h x (List.mem_cons_of_mem _ hx)
    have h2:=h d List.mem_cons_self
    have hp:2 ^ (n * (r.length + 1)) = 2 ^ n * 2 ^ (n * r.length):=by rw [Nat.mul_succ,Nat.add_comm,Nat.pow_add]
    simp only [ofDigs,List.length_cons,hp]
    calc d + 2 ^ n * ofDigs n r < 2 ^ n + 2 ^ n * ofDigs n r:=by lia
      _ = 2 ^ n * (ofDigs n r + 1):=by rw [Nat.mul_succ,Nat.add_comm]
      _≤2 ^ n * 2 ^ (n * r.length):=Nat.mul_le_mul_left _ h1
end
section
open PySem PySem.W PyProof.Rows PySem.Calls PySem.SeqAt
private theorem esc_ok:∀ (l:List Nat) (i:Nat) (b:Bool),okS l→∀ x∈esc i b l,okS x.2
  | [],i,true,h,x,hx=>by simp [esc] at hx; subst hx; intro c hc; simp at hc; lia
  | [],i,false,h,x,hx=>by simp [esc] at hx
  | c :: r,i,true,h,x,hx=>by
    simp only [esc,List.mem_cons] at hx
    rcases hx with rfl | hx
    · intro d hd; simp at hd; rcases hd with rfl | rfl
      · lia
      · exact h _ List.mem_cons_self
    · exact esc_ok r (i + 1) false (fun d hd=>h d (List.mem_cons_of_mem _ hd)) x hx
  | c :: r,i,false,h,x,hx=>by
    unfold esc at hx
    split at hx
    · exact esc_ok r (i + 1) true (fun d hd=>h d (List.mem_cons_of_mem _ hd)) x hx
    · simp only [List.mem_cons] at hx
      rcases hx with rfl | hx
      · intro d hd; simp at hd; subst hd; exact h _ List.mem_cons_self
      · exact esc_ok r (i + 1) false (fun d hd=>h d (List.mem_cons_of_mem _ hd)) x hx
private theorem esc_length:∀ (l:List Nat) (i:Nat) (b:Bool),(esc i b l).length≤l.length + 1
  | [],i,true=>by simp [esc]
  | [],i,false=>by simp [esc]
  | c :: r,i,true=>by have:=esc_length r (i + 1) false; simp [esc]; exact this
  | c :: r,i,false=>by
    unfold esc
    split
    · have:=esc_length r (i + 1) true; simp; exact Nat.le_succ_of_le this
    · have:=esc_length r (i + 1) false; simp; exact this
private theorem foldl_take_succ {α β:Type} (f:β→α→β) (b:β) {l:List α} {k:Nat} {x:α} (h:l[k]? = some x):(l.take (k + 1)).foldl f b = f ((l.take k).foldl f b) x:=by
  rw [List.take_add_one,h,List.foldl_append]; rfl
noncomputable def stripStep (l:List Nat) (st:Nat × Option Nat × List (List Nat)) (x:Nat × List Nat):Nat × Option Nat × List (List Nat) :=
  if x.2 = [34] then (match st.2.1 with
    | none=>(st.1,some x.1,st.2.2)
    | some o=>(x.1 + 1,none,if st.1 = o then st.2.2 else st.2.2++[sl (some (st.1:Int)) (some (o:Int)) l])) else st
noncomputable def stripAt (l:List Nat) (k:Nat):Nat × Option Nat × List (List Nat):=((esc 0 false l).take k).foldl (stripStep l) (0,none,[])
noncomputable def stripF (l:List Nat):List Nat :=
  if 34∈l then
    (let st := stripAt l (esc 0 false l).length
     if st.1 < l.length then st.2.2++[sl (some (st.1:Int)) none l] else st.2.2).flatten
  else l
noncomputable def openStep (o:Option Int) (x:Nat × List Nat):Option Int:=match o with
  | none=>none
  | some n=>if x.2 = [40] then some (n + 1) else if x.2 = [41] then (if n - 1 < 0 then none else some (n - 1)) else some n
noncomputable def checkF (l:List Nat):Bool:=match (esc 0 false (stripF l)).foldl openStep (some 0) with
  | some n=>decide (n = 0)
  | none=>false
private theorem stripAt_succ {l:List Nat} {k:Nat} {x:Nat × List Nat} (h:(esc 0 false l)[k]? = some x):stripAt l (k + 1) = stripStep l (stripAt l k) x:=foldl_take_succ _ _ h
private theorem stripAt_sum {l:List Nat}:∀ k,k≤(esc 0 false l).length→(stripAt l k).2.2.length≤k∧((stripAt l k).2.2.map List.length).sum≤k * l.length
  | 0,_=>by simp [stripAt]
  | k + 1,hk=>by
    have ih:=stripAt_sum (l:=l) k (Nat.le_of_lt hk)
    rw [stripAt_succ (List.getElem?_eq_getElem (show k < _ from hk)),Nat.succ_mul]
    unfold stripStep
    split
    · split
      · exact ⟨by simp; exact Nat.le_succ_of_le ih.1,by simp; lia⟩
      · split
        · exact ⟨by simp; lia,by simp; lia⟩
        · rename_i o _ _
          have:=sl_len (l:=some ((stripAt l k).1:Int)) (u:=some (o:Int)) l
          exact ⟨by simp; exact ih.1,by simp; lia⟩
    · exact ⟨by lia,by lia⟩
private theorem sl_mem {α:Type} {lo hi:Option Int} {l:List α} {x:α} (h:x∈sl lo hi l):x∈l:=List.mem_of_mem_take (List.mem_of_mem_drop h)
private theorem okS_sl {lo hi:Option Int} {l:List Nat} (h:okS l):okS (sl lo hi l):=fun c hc=>h c (sl_mem hc)
private theorem okS_stripAt {l:List Nat} (h:okS l):∀ k,k≤(esc 0 false l).length→∀ y∈(stripAt l k).2.2,okS y
  | 0,_=>by simp [stripAt]
  | k + 1,hk=>by
    have ih:=okS_stripAt h k (Nat.le_of_lt hk)
    rw [stripAt_succ (List.getElem?_eq_getElem (show k < _ from hk))]
    unfold stripStep
    split
    · split
      · exact ih
      · split
        · exact ih
        · intro y hy
          rcases List.mem_append.mp hy with hy | hy
          · exact ih y hy
          · simp at hy; subst hy; exact okS_sl h
    · exact ih
private theorem okS_strip {l:List Nat} (h:okS l):okS (stripF l):=by
  unfold stripF
  split
  · intro c hc
    obtain ⟨y,hy,hcy⟩:=List.mem_flatten.mp hc
    dsimp only at hy
    split at hy
    · rcases List.mem_append.mp hy with hy | hy
      · exact okS_stripAt h _ (Nat.le_refl _) y hy c hcy
      · simp at hy; subst hy; exact okS_sl h c hcy
    · exact okS_stripAt h _ (Nat.le_refl _) y hy c hcy
  · exact h
noncomputable def openAt (l:List Nat) (k:Nat):Option Int:=((esc 0 false l).take k).foldl openStep (some 0)
private theorem openAt_succ {l:List Nat} {k:Nat} {x:Nat × List Nat} (h:(esc 0 false l)[k]? = some x):openAt l (k + 1) = openStep (openAt l k) x:=foldl_take_succ _ _ h
private theorem openAt_none {l:List Nat} {k:Nat} (h:openAt l k = none):(esc 0 false l).foldl openStep (some 0) = none:=by
  have:(esc 0 false l).foldl openStep (some 0) = ((esc 0 false l).drop k).foldl openStep (openAt l k):=by
    unfold openAt; rw [← List.foldl_append,List.take_append_drop]
  rw [this,h]
  induction ((esc 0 false l).drop k) with
  | nil=>rfl
  | cons x r ih=>exact ih
end
section
open PySem PySem.W PyProof.Rows PySem.Calls PySem.SeqAt
noncomputable def optAV:Option Nat→AV
  | none=>.none
  | some n=>.int (n:Nat)
private theorem sum_flatten (outs:List (List Nat)):(outs.map List.length).sum = outs.flatten.length:=by simp [List.length_flatten]
private theorem strip_app {a q:Nat} {out:List (List Nat)} {l:List Nat} (h:¬ (a:Int) = q):out.map AV.str++[.str (sl (some (a:Int)) (some (q:Int)) l)] = (if a = q then out else out++[sl (some (a:Int)) (some (q:Int)) l]).map .str:=by rw [if_neg fun e=>h (congrArg _ e),List.map_append]; rfl
private theorem strip_no {a q:Nat} {out:List (List Nat)} {l:List Nat} (h:(a:Int) = q):out.map AV.str = (if a = q then out else out++[sl (some (a:Int)) (some (q:Int)) l]).map .str:=by rw [if_pos (Int.ofNat.inj h)]
private theorem ok34:okS [34]:=okS_1 (by decide)
private theorem op_strip {X:Amb} {D:Nat} (kn:Kn X) (hD:12≤D∧D≤500) {l:List Nat} (hz:l.length≤1000) (hl:okS l) {m:Mem}:Fn X (D + 1) "_strip_quoted_realnames" m [.str l] (.str (stripF l)) m:=by
  have hD4:4≤D:=Nat.le_trans (by decide) hD.1
  have hlen:=esc_length l 0 false
  refine (kn.fn 13 88 rfl).mk' kn.lim hD4 (ps:=["addr"]) [] (by rfl) (fun zz zz zz zz zz=>rfl) rfl ⟨.notInS (x:=34),.n (fun h=>?_) fun h34=>?_⟩
  · rw [show stripF l = l from if_neg h]; exact .s
  · refine W.forP (G:=⟨X,D,_,[]⟩) (σ:=Unit) hD4 (.esc (kn.fn 12 81 rfl) kn.lim (kn.bu "enumerate" _ rfl) hD rfl ⟨.wp hD4 rfl (by exact .mk),plain_pl rfl⟩ hl) (fun k zz=>bd "result" (.mref m.length) (bd "open_pos" (optAV (stripAt l k).2.1) (bd "start" (.int (stripAt l k).1) (bd "addr" (.str l) [])))) (fun k zz=>sn m (.lst ((stripAt l k).2.2.map .str))) (fun zz zz=>True) (.mk () trivial rfl (.rf rfl)) (fun k x s hx zz=>?_) (fun s zz=>?_) (fun zz zz=>rfl)
    · have hch:okS x.2:=esc_ok _ 0 false hl _ (List.mem_of_getElem? hx)
      have hk:k < _:=(List.getElem?_eq_some_iff.mp hx).1
      have hb:(stripAt l k).2.2.length≤2 ^ 23:=by have:=(stripAt_sum (l:=l) k (Nat.le_of_lt hk)).1; lia
      have hs:=stripAt_succ hx
      generalize stripAt l (k + 1) = st' at hs
      generalize stripAt l k = st at hs hb
      obtain ⟨a,o,out⟩:=st
      obtain ⟨p,ch⟩:=x
      refine ⟨_,.tup (.cons rfl (.cons rfl .nil)) rfl,.eqS hch ok34 hD4,.d (fun (h:ch = [34])=>?_) fun (h:¬ ch = [34])=>?_⟩
      · replace hs:=hs.trans (if_pos h)
        subst hs
        cases o with
        | none=>exact ⟨.isNN,.t rfl (.mk () trivial rfl (.rf rfl))⟩
        | some q =>
          exact ⟨.isIN,.f rfl (.n (fun h2=>⟨.str (Nat.le_trans hz (by decide)),.appendN (by rw [List.length_map]; exact hb),.mk (.mk () trivial (congrArg (fun z=>sn m (.lst z)) (strip_app h2)) (.cons rfl (.cons rfl (.cons rfl (.cons rfl .nil)))))⟩) fun h2=>.mk () trivial (congrArg (fun z=>sn m (.lst z)) (strip_no h2)) (.cons rfl (.cons rfl (.cons rfl (.cons rfl .nil)))))⟩
      · replace hs:=hs.trans (if_neg h)
        subst hs
        exact .mk () trivial rfl (.rf rfl)
    · obtain ⟨hn,hsum⟩:=stripAt_sum (l:=l) _ (Nat.le_refl _)
      have hmul:(esc 0 false l).length * l.length≤1001 * 1000:=Nat.mul_le_mul (by lia) hz
      replace hn:=Nat.le_trans hn (show _≤1001 by lia)
      replace hsum:=Nat.le_trans hsum hmul
      have e:stripF l = _:=if_pos h34
      generalize stripAt l (esc 0 false l).length = st at hn hsum e
      obtain ⟨a,o,out⟩:=st
      have:=sl_len (l:=some (a:Int)) (u:=none) l
      exact ⟨.b (kn.bu "len" _ rfl) (.lenS (Nat.le_trans hz (by decide))),.d (fun h=>⟨.str (Nat.le_trans hz (by decide)),.appendN (by rw [List.length_map]; exact Nat.le_trans hn (by decide)),.mk ⟨.joinM (zs:=out++[sl (some (a:Int)) none l]) (by rw [List.map_append]; exact sn_get _ _) (by rw [List.map_append,List.sum_append]; simp; lia),(e.trans (congrArg List.flatten (if_pos (Int.ofNat_lt.mp h)))) ▸ .s1⟩⟩) fun h=>⟨.joinM (sn_get _ _) (Nat.le_trans hsum (by decide)),(e.trans (congrArg List.flatten (if_neg fun q=>h (Int.ofNat_lt.mpr q)))) ▸ .s1⟩⟩
end
section
open PySem PySem.W PyProof.Rows PySem.Calls PySem.SeqAt
private theorem ok40:okS [40]:=okS_1 (by decide)
private theorem ok41:okS [41]:=okS_1 (by decide)
private theorem open_40 {n:Int} {o:Option Int} {p:Nat} {ch:List Nat} (hs:o = openStep (some n) (p,ch)) (h:ch = [40]):o = some (n + 1):=hs.trans (if_pos h)
private theorem open_41 {n:Int} {o:Option Int} {p:Nat} {ch:List Nat} (hs:o = openStep (some n) (p,ch)) (h:ch = [41]):o = if n - 1 < 0 then none else some (n - 1):=(hs.trans (if_neg (show ¬ ch = [40] by rw [h]; decide))).trans (if_pos h)
private theorem open_no {n:Int} {o:Option Int} {p:Nat} {ch:List Nat} (hs:o = openStep (some n) (p,ch)) (h:¬ ch = [40]) (h':¬ ch = [41]):o = some n:=(hs.trans (if_neg h)).trans (if_neg h')
private theorem op_check {X:Amb} {D:Nat} (kn:Kn X) (hD:13≤D∧D≤500) {l:List Nat} (hz:l.length≤1000) (hl:okS l) {m:Mem}:Fn X (D + 1) "_check_parenthesis" m [.str l] (.bool (checkF l)) m:=by
  obtain ⟨D,rfl⟩:∃ d,D = d + 1:=⟨D - 1,by lia⟩
  have hD4:4≤D + 1:=Nat.le_trans (by decide) hD.1
  have hD1:12≤D∧D≤500:=by exact ⟨dC hD.1 rfl,Nat.le_of_lt hD.2⟩
  have hS:=okS_strip hl
  refine (kn.fn 14 95 rfl).mk' kn.lim hD4 (ps:=["addr"]) [] (by rfl) (fun zz zz zz zz zz=>rfl) rfl ⟨op_strip kn hD1 hz hl,?_⟩
  refine W.forP (G:=⟨X,D + 1,_,[]⟩) (σ:=Int) hD4 (.esc (l:=stripF l) (kn.fn 12 81 rfl) kn.lim (kn.bu "enumerate" _ rfl) ⟨by exact Nat.le_succ_of_le hD1.1,hD.2⟩ rfl ⟨.wp hD4 rfl (by exact .mk),plain_pl rfl⟩ hS) (fun k n=>bd "opens" (.int n) []) (fun k zz=>m) (fun k n=>openAt (stripF l) k = some n) (.mk 0 rfl rfl (.cons rfl .nil)) (fun k x n hx hI=>?_) (fun n hI=>?_) (fun zz zz=>rfl)
  · have hch:okS x.2:=esc_ok _ 0 false hS _ (List.mem_of_getElem? hx)
    have hs:=openAt_succ hx
    rw [hI] at hs
    obtain ⟨p,ch⟩:=x
    refine ⟨_,.tup (.cons rfl (.cons rfl .nil)) rfl,.eqS hch ok40 hD4,.d (fun h=>.mk _ (open_40 hs h) rfl (.cons rfl .nil)) fun h=>⟨.eqS hch ok41 hD4,.d (fun h'=>.d (fun hn=>?_) fun hn=>.mk _ ((open_41 hs h').trans (if_neg hn)) rfl (.cons rfl .nil)) fun h'=>.mk _ (open_no hs h h') rfl (.cons rfl .nil)⟩⟩
    have:=openAt_none ((open_41 hs h').trans (if_pos hn))
    exact (show checkF l = false by unfold checkF; rw [this]) ▸ .b
  · have h4:(esc 0 false (stripF l)).foldl openStep (some 0) = some n:=by rw [← hI]; unfold openAt; rw [List.take_length]
    exact (show checkF l = decide (n = 0) by unfold checkF; rw [h4]) ▸ .b
end
section
open PySem PySem.W PyProof.Rows PySem.Calls PySem.SeqAt
noncomputable def rowStep (code:Int) (pairs:Nat) (row:List Nat) (place:Nat):List Nat :=
  row++[if row.count 40 < pairs∧(2 * row.count 40 = place∨Builtin.bitAnd (code.fdiv (2 ^ place)) 1 = 0) then 40 else 41]
noncomputable def rowL (code:Int) (pairs:Nat):List Nat:=(List.range (2 * pairs)).foldl (rowStep code pairs) []
noncomputable def rowAt (code:Int) (n k:Nat):List Nat:=(List.range k).foldl (rowStep code n) []
private theorem rowAt_succ (code:Int) (n k:Nat):rowAt code n (k + 1) = rowStep code n (rowAt code n k) k:=by simp [rowAt,List.range_succ]
private theorem rowAt_len (code:Int) (n:Nat):∀ k,(rowAt code n k).length = k
  | 0=>rfl
  | k + 1=>by rw [rowAt_succ,rowStep]; simp [rowAt_len code n k]
private theorem range_at {n k x:Nat} (h:(List.range n)[k]? = some x):x = k:=by
  obtain ⟨h1,h2⟩:=List.getElem?_eq_some_iff.mp h
  rw [← h2,List.getElem_range]
private theorem row_cond (c n k:Nat) (code:Int):(decide ((c:Int) < n) && (decide (2 * (c:Int) = k) || decide (Builtin.bitAnd (code.fdiv (2 ^ (k:Int).toNat)) 1 = 0))) = decide (c < n∧(2 * c = k∨Builtin.bitAnd (code.fdiv (2 ^ k)) 1 = 0)):=by
  rw [show decide ((c:Int) < n) = decide (c < n) from decide_eq_decide.mpr Int.ofNat_lt,show decide (2 * (c:Int) = k) = decide (2 * c = k) from decide_eq_decide.mpr (Int.ofNat_inj (m:=2 * c)),Bool.decide_and,Bool.decide_or]; rfl
private theorem op_row {X:Amb} {D:Nat} (kn:Kn X) (hD:4≤D) {m:Mem} {code:Int} {n:Nat} (hn:n≤1000):Fn X (D + 1) "_law_row" m [.int code,.int n] (.str (rowL code n)) m:=by
  refine (kn.fn 18 144 rfl).mk' kn.lim hD (ps:=["code","pairs"]) [] (by rfl) (fun zz zz zz zz zz zz=>rfl) rfl ?_
  refine W.forW (G:=⟨X,D,_,[]⟩) (σ:=Unit) (xs:=List.range (2 * n)) (av:=.rng 0 ((2 * n:Nat):Int)) (m1:=m) hD ⟨.mul (.inl (by decide)),.t (kn.bu "range" _ rfl) .range,.mk⟩ (.rng' (by lia)) (fun k zz=>bd "row" (.str (rowAt code n k)) (bd "code" (.int code) (bd "pairs" (.int n) []))) (fun zz zz=>m) (fun zz zz=>True) (.mk () trivial rfl (.rf rfl)) (fun k x s hx zz=>?_) (fun s zz=>?_) (fun zz zz=>rfl)
  · cases range_at hx
    have hk:=rowAt_len code n k
    have hk2:k < 2 * n:=by have:=(List.getElem?_eq_some_iff.mp hx).1; simpa using this
    exact ⟨_,.name rfl,.count (c:=40),fun zz=>⟨.mul (.inl (by decide)),fun zz=>⟨.shr (Int.natCast_nonneg _),.and,.mk⟩,.mk⟩,.str [if (rowAt code n k).count 40 < n∧(2 * (rowAt code n k).count 40 = k∨Builtin.bitAnd (code.fdiv (2 ^ k)) 1 = 0) then 40 else 41],m,fun h=>by
      rw [row_cond] at h; rw [if_pos (of_decide_eq_true h)]; exact .mk,fun h=>by
      rw [row_cond] at h; rw [if_neg (of_decide_eq_false h)]; exact .mk,.iaddS (by rw [hk]; exact Nat.le_trans (Nat.succ_le_of_lt hk2) (by lia)),.mk () trivial rfl (.cons (congrArg (some∘AV.str) (rowAt_succ code n k).symm) (.cons rfl (.cons rfl .nil)))⟩
  · exact (show rowAt code n (List.range (2 * n)).length = rowL code n by rw [List.length_range]; rfl) ▸ .s
end
section
open PySem PySem.W PyProof.Rows PySem.Calls PySem.SeqAt
section
variable {X:Amb} {D:Nat} {sc:Names} {L:Lc} {m m1 m2 m3:Mem} {M:Map} {P:RP} {rest:List Stmt}
private theorem clipAt_nat (n k:Nat):clipAt n (k:Int) = min k n:=by
  have:=clipAt_cast n k
  rw [if_neg (Int.not_lt.mpr (Int.natCast_nonneg k))] at this
  rcases Nat.le_total k n with h | h
  · rw [Int.min_eq_left (Int.ofNat_le.mpr h),Int.max_eq_right (Int.natCast_nonneg _)] at this
    rw [Nat.min_eq_left h]; exact Int.ofNat.inj this
  · rw [Int.min_eq_right (Int.ofNat_le.mpr h),Int.max_eq_right (Int.natCast_nonneg _)] at this
    rw [Nat.min_eq_right h]; exact Int.ofNat.inj this
noncomputable def cutC (row:List Nat) (k:Nat):Bool:=decide (2 + 2 * k < row.length) && !checkF (row.take (2 + 2 * k))
private theorem sl_take {α:Type} (l:List α) (n:Nat):sl none (some (n:Int)) l = l.take n:=by
  unfold sl; simp only [Option.elim,clipAt_nat,List.drop_zero]
  rcases Nat.le_total n l.length with h | h
  · rw [Nat.min_eq_left h]
  · rw [Nat.min_eq_right h,List.take_length,List.take_of_length_le h]
private theorem sl_drop {α:Type} (l:List α) (n:Nat):sl (some (n:Int)) none l = l.drop n:=by
  unfold sl; simp only [Option.elim,clipAt_nat,List.take_length]
  rcases Nat.le_total n l.length with h | h
  · rw [Nat.min_eq_left h]
  · rw [Nat.min_eq_right h,List.drop_length,List.drop_eq_nil_of_le h]
private theorem sl_both {α:Type} (l:List α) (a b:Nat):sl (some (a:Int)) (some (b:Int)) l = (l.take b).drop a:=by
  have h1:=sl_take l b
  unfold sl at h1 ⊢
  simp only [Option.elim,clipAt_nat,List.drop_zero] at h1 ⊢
  rw [h1]
  rcases Nat.le_total a l.length with h | h
  · rw [Nat.min_eq_left h]
  · rw [Nat.min_eq_right h,List.drop_eq_nil_of_le (by simp; lia),List.drop_eq_nil_of_le (by simp; lia)]
private theorem okS_drop {l:List Nat} {n:Nat} (h:okS l):okS (l.drop n):=fun c hc=>h c (List.mem_of_mem_drop hc)
private theorem KeptA.ints {m:Mem} {l:List Int}:KeptA m (.lst (l.map .int)) (.lst (l.map .int)) m:=.same fun zz=>.lstL Frz.ints
private theorem cut_is (l:List Nat) (k:Nat):(decide (((2 + 2 * k:Nat):Int) < (l.length:Int)) && (checkF (sl none (some ((2 + 2 * k:Nat):Int)) l) != true)) = cutC l k:=by
  rw [sl_take]
  unfold cutC
  rw [show decide (((2 + 2 * k:Nat):Int) < (l.length:Int)) = decide (2 + 2 * k < l.length) by simp only [Int.ofNat_lt]]
  cases checkF (l.take (2 + 2 * k)) <;> rfl
private theorem sl_dropLast {α:Type} (l:List α):sl none (some (-1)) l = l.dropLast:=by
  have h:=clipAt_cast l.length (-1)
  rw [List.dropLast_eq_take]
  refine congrArg (fun n=>(l.take n).drop 0) (?_:clipAt l.length (-1) = l.length - 1)
  rw [if_pos (by decide)] at h
  omega
private theorem KeptA.eq {m m' g:Mem} {r r':AV} (e:m' = m++g) (h:∀ M,Frz M m.length m' r' r):KeptA m r r' m':=by
  subst e; exact .of h
private theorem ItV.lst' {X:Amb} {D:Nat} {tgt:Expr} {m:Mem} {xs ys:List AV} (e:xs = ys):ItV X D tgt m (.lst xs) ys:=e ▸ .lst
end
end
section
open PySem PySem.W PyProof.Rows PySem.Calls PySem.SeqAt
noncomputable def dAV (d:Nat):AV:=.int (d:Nat)
private theorem Nat.shr_int (x s:Nat):((x:Int)).fdiv (2 ^ s) = ((x / 2 ^ s:Nat):Int):=by
  have h:(2:Int) ^ s = ((2 ^ s:Nat):Int):=by simp
  rw [h,Int.fdiv_eq_ediv_of_nonneg _ (Int.natCast_nonneg _)]; simp
private theorem Nat.shl_int (x s:Nat):(x:Int) * 2 ^ s = ((x * 2 ^ s:Nat):Int):=by simp
private theorem castSub (l a:Nat):((l + a:Nat):Int) - (l:Int) = (a:Int):=by rw [Int.natCast_add,Int.add_comm,Int.add_sub_cancel]
private theorem castSubN (l a:Nat):(((l + a:Nat):Int) - (l:Int)).toNat = a:=by rw [castSub,Int.toNat_natCast]
private theorem half_pack {l c k:Nat} (h:¬ (l:Int) + 1 = ((l + c:Nat):Int)) (h2:(l:Int) < ((l + c:Nat):Int)) (hk:c≤2 ^ k * 2):∃ a b:Nat,0 < a∧0 < b∧a + b = c∧a≤2 ^ k∧b≤2 ^ k∧a = c / 2:=by
  have h3:2≤c:=by omega
  (clear h h2)
  have h4:=Nat.div_add_mod c 2
  have h5:=Nat.mod_lt c (show 2 > 0 by decide)
  generalize c / 2 = a at h4
  generalize c % 2 = r at h4 h5
  generalize 2 ^ k = K at hk
  exact ⟨a,a + r,by omega,by omega,by omega,by omega,by omega,rfl⟩
private theorem mid_is (l c:Nat):((l:Int) + ((l + c:Nat):Int)).fdiv (2 ^ (1:Int).toNat) = ((l + c / 2:Nat):Int):=by
  rw [Int.fdiv_eq_ediv_of_nonneg _ (by decide)]
  show ((l + (l + c):Nat):Int) / 2 = _
  rw [show l + (l + c) = c + l * 2 by omega]
  exact congrArg Int.ofNat ((Nat.add_mul_div_right c l (by decide)).trans (Nat.add_comm ..))
private theorem split_fill {ds:List AV} {l a b:Nat} {d1 d2:List AV} (h:l + (a + b)≤ds.length) (h1:d1.length = a) :
    (ds.take l++d1++ds.drop (l + a)).take (l + a)++d2++(ds.take l++d1++ds.drop (l + a)).drop (l + a + b) = ds.take l++(d1++d2)++ds.drop (l + (a + b)):=by
  have h2:(ds.take l++d1).length = l + a:=by rw [List.length_append,List.length_take,h1,Nat.min_eq_left (by lia)]
  rw [List.take_append_of_le_length (Nat.le_of_eq h2.symm),List.take_of_length_le (Nat.le_of_eq h2),← h2,List.drop_append,List.drop_eq_nil_of_le (Nat.le_add_right _ _),Nat.add_sub_cancel_left,List.drop_drop,List.nil_append,h2,Nat.add_assoc]; simp only [List.append_assoc]
structure Inn (n:Nat) (x L R:Int) (len k:Nat):Prop where
  x0:0≤x
  L0:0≤L
  LR:L < R
  R':R≤len
  len':len≤100000
  k':(R - L).toNat≤2 ^ k
  n':n * (R - L).toNat≤1000
  x':x.toNat < 2 ^ (n * (R - L).toNat)
noncomputable def innF (n:Nat) (ds:List AV) (x L R:Int):List AV:=ds.take L.toNat++(digsF n (R - L).toNat x.toNat).map dAV++ds.drop R.toNat
structure InnS (n:Nat) (x L R:Int) (ds:List AV) (k:Nat) (mid sh up low:Int):Prop where
  m:(mid - L).natAbs < 2 ^ 63
  s0:0≤sh
  s1:sh≤1000
  u:up.natAbs < 2 ^ 1000
  a:Inn n low L mid ds.length k
  b:Inn n up mid R (innF n ds low L mid).length k
  e:innF n (innF n ds low L mid) up mid R = innF n ds x L R
private theorem inn_one {n:Nat} {x L R:Int} {ds:List AV} {k:Nat} (I:Inn n x L R ds.length k) (h:L + 1 = R):ds.set L.toNat (.int x) = innF n ds x L R:=by
  obtain ⟨x,rfl⟩:=Int.eq_ofNat_of_zero_le I.x0
  obtain ⟨l,rfl⟩:=Int.eq_ofNat_of_zero_le I.L0
  subst h
  have e:((l:Int) + 1 - l).toNat = 1:=by lia
  have hx:=I.x'
  rw [e,Nat.mul_one] at hx
  have hl:=I.R'
  unfold innF
  rw [e,digs_one hx,List.set_eq_take_append_cons_drop,if_pos (by lia),show ((l:Int) + 1).toNat = l + 1 from rfl,List.append_assoc]
  rfl
private theorem inn_step {n:Nat} {x L R:Int} {ds:List AV} {k:Nat} (I:Inn n x L R ds.length (k + 1)) (h:¬ L + 1 = R) :
    InnS n x L R ds k ((L + R).fdiv (2 ^ (1:Int).toNat)) (((L + R).fdiv (2 ^ (1:Int).toNat) - L) * n) (x.fdiv (2 ^ (((L + R).fdiv (2 ^ (1:Int).toNat) - L) * n).toNat)) (Builtin.bitXor x (x.fdiv (2 ^ (((L + R).fdiv (2 ^ (1:Int).toNat) - L) * n).toNat) * 2 ^ (((L + R).fdiv (2 ^ (1:Int).toNat) - L) * n).toNat)):=by
  obtain ⟨x,rfl⟩:=Int.eq_ofNat_of_zero_le I.x0
  obtain ⟨l,rfl⟩:=Int.eq_ofNat_of_zero_le I.L0
  obtain ⟨c,rfl⟩:∃ c:Nat,R = ((l + c:Nat):Int):=⟨(R - l).toNat,by have:=I.LR; (clear h; lia)⟩
  have e1:=castSubN l c
  have hk:=I.k'
  have hn:=I.n'
  have hx:=I.x'
  have hR:l + c≤ds.length:=Int.ofNat_le.mp I.R'
  have hLR:=I.LR
  rw [e1] at hk hn hx
  rw [Nat.pow_succ] at hk
  have hx:x < 2 ^ (n * c):=hx
  obtain ⟨a,b,ha,hb,hab,hak,hbk,hac⟩:∃ a b:Nat,0 < a∧0 < b∧a + b = c∧a≤2 ^ k∧b≤2 ^ k∧a = c / 2:=half_pack h hLR hk
  have z1:((l:Int) + ((l + c:Nat):Int)).fdiv (2 ^ (1:Int).toNat) = ((l + a:Nat):Int):=hac ▸ mid_is l c
  have z2:(((l + a:Nat):Int) - (l:Int)) * n = ((n * a:Nat):Int):=by
    rw [castSub,Int.mul_comm]; exact (Int.natCast_mul n a).symm
  have z3:=castSubN l a
  have z4:(((l + c:Nat):Int) - ((l + a:Nat):Int)).toNat = b:=by rw [← hab,← Nat.add_assoc]; exact castSubN (l + a) b
  have hac':a≤c:=hab ▸ Nat.le_add_right a b
  have hla:l + a≤ds.length:=Nat.le_trans (Nat.add_le_add_left hac' l) hR
  have hlc:l + a < l + c:=Nat.add_lt_add_left (hab ▸ Nat.lt_add_of_pos_right hb) l
  rw [z1,z2,Int.toNat_natCast,Nat.shr_int,Nat.shl_int,xor_low]
  have hna:n * a≤n * c:=Nat.mul_le_mul_left n hac'
  have hsp:n * c = n * a + n * b:=by rw [← hab,Nat.mul_add]
  have hd:((digsF n a (x % 2 ^ (n * a))).map dAV).length = a:=by rw [List.length_map,digs_len]
  have hF:innF n ds ((x % 2 ^ (n * a):Nat):Int) l ((l + a:Nat):Int) = ds.take l++(digsF n a (x % 2 ^ (n * a))).map dAV++ds.drop (l + a):=by
    unfold innF; rw [z3]; rfl
  have hlen:(innF n ds ((x % 2 ^ (n * a):Nat):Int) l ((l + a:Nat):Int)).length = ds.length:=by
    rw [hF,List.length_append,List.length_append,hd,List.length_take_of_le (Nat.le_trans (Nat.le_add_right l a) hla),List.length_drop,Nat.add_sub_cancel' hla]
  have hlen':=I.len'
  refine ⟨by rw [castSub,Int.natAbs_natCast]; exact Nat.lt_of_le_of_lt (Nat.le_trans (Nat.le_trans (Nat.le_add_left a l) hla) I.len') (by decide),Int.natCast_nonneg _,Int.ofNat_le.mpr (Nat.le_trans hna hn),?_,⟨Int.natCast_nonneg _,Int.natCast_nonneg _,Int.ofNat_lt.mpr (Nat.lt_add_of_pos_right ha),Int.ofNat_le.mpr hla,I.len',by rw [z3]; exact hak,by rw [z3]; exact Nat.le_trans hna hn,by rw [z3]; exact Nat.mod_lt _ (Nat.two_pow_pos _)⟩,⟨Int.natCast_nonneg _,Int.natCast_nonneg _,Int.ofNat_lt.mpr hlc,by rw [hlen]; exact Int.ofNat_le.mpr hR,by rw [hlen]; exact I.len',by rw [z4]; exact hbk,by rw [z4]; exact Nat.le_trans (hsp ▸ Nat.le_add_left ..) hn,?_⟩,?_⟩
  · rw [Int.natAbs_natCast]; exact Nat.lt_of_le_of_lt (Nat.div_le_self _ _) (Nat.lt_of_lt_of_le hx (Nat.pow_le_pow_right (by decide) hn))
  · rw [z4]; exact Nat.div_lt_of_lt_mul (by rw [← Nat.pow_add,← hsp]; exact hx)
  · rw [hF]
    unfold innF
    rw [z4,e1]
    show (ds.take l++_++ds.drop (l + a)).take (l + a)++(digsF n b (x / 2 ^ (n * a))).map dAV++(ds.take l++_++ds.drop (l + a)).drop (l + c) = ds.take l++(digsF n c x).map dAV++ds.drop (l + c)
    rw [← hab,← Nat.add_assoc,split_fill (hab.symm ▸ hR) hd,← List.map_append,← digs_split,Nat.add_assoc]
noncomputable def fdI:Fd:=fdAt (fdAt prog1 7).body 1
noncomputable def fvI (i n:Nat) (f:Addr):Lc:=bd "a_digits" (.mref i) (bd "n" (.int n) (bd "inner" (.ext (.ref f)) []))
private theorem op_inner1 {X:Amb} {q:Str} {cl:List (Str × Addr)} {f:Addr} {i n:Nat} (fa:FnAt X.B fdI q cl .none f) (lim:NoLim X.B) (Fv:FreeK X.B fdI.scope.names cl (fvI i n f)):∀ (k:Nat) {D:Nat} (_:5 + k≤D) {m:Mem} {ds:List AV} {x L R:Int} (_:m[i]? = some (.lst ds)) (_:Inn n x L R ds.length k),
    FnV X (D + 1) (.ext (.ref f)) m [.int x,.int L,.int R] .none (m.set i (.lst (innF n ds x L R))):=by
  intro k
  induction k with
  | zero =>
    intro D hD m ds x L R hm I
    have hD4:4≤D:=by exact Nat.le_of_lt hD
    have h:L + 1 = R:=by have:=I.k'; have:=I.LR; lia
    have hR:=I.R'
    have hl:=I.len'
    refine fa.mkX lim hD4 (ps:=["x","L","R"]) [] (by rfl) Fv (fun zz zz zz zz zz zz zz=>rfl) rfl (.d (fun zz=>?_) fun h'=>absurd h h')
    exact W.setItR (G:=⟨X,D,_,_⟩) hD4 rfl (.mk hm I.L0 (by (clear h; lia)) (dB hl rfl) (congrArg (fun z=>m.set i (.lst z)) (inn_one I h)) .mk)
  | succ k ih =>
    intro D hD m ds x L R hm I
    obtain ⟨D,rfl⟩:∃ d,D = d + 1:=⟨D - 1,by lia⟩
    have hD4:4≤D + 1:=by lia
    have hR:=I.R'
    have hl:=I.len'
    have hL:=I.LR
    refine fa.mkX lim hD4 (ps:=["x","L","R"]) [] (by rfl) Fv (fun zz zz zz zz zz zz zz=>rfl) rfl (.d (fun h=>?_) fun h=>?_)
    · exact W.setItR (G:=⟨X,D + 1,_,_⟩) hD4 rfl (.mk hm I.L0 (by (clear h; lia)) (dB hl rfl) (congrArg (fun z=>m.set i (.lst z)) (inn_one I h)) .mk)
    · have s:=inn_step I h
      have hil:i < m.length:=(List.getElem?_eq_some_iff.mp hm).1
      refine ⟨.shr (by decide),.mul (.inl s.m),.shr s.s0,.shl s.s0 s.s1 s.u,.xor,ih (by lia) hm s.a,.mk ⟨ih (by lia) (List.getElem?_set_self hil) s.b,.mk ?_⟩⟩
      rw [List.set_set,s.e]
      exact .mk
end
section
open PySem PySem.W PyProof.Rows PySem.Calls PySem.SeqAt
noncomputable def cntF (a n:Nat):Nat:=(Builtin.Int.intBits a + n - 1) / n
private theorem cnt_mul {a n:Nat} (h:1≤n):Builtin.Int.intBits a≤n * cntF a n∧n * cntF a n≤Builtin.Int.intBits a + n - 1:=by
  unfold cntF
  have h1:=Nat.div_add_mod (Builtin.Int.intBits a + n - 1) n
  have h2:=Nat.mod_lt (Builtin.Int.intBits a + n - 1) h
  (clear h; omega)
private theorem lt_bits (a:Nat):a < 2 ^ Builtin.Int.intBits a:=by
  have:=(intBits_le_iff (m:=Builtin.Int.intBits a) (x:=(a:Int))).mp (Nat.le_refl _)
  simpa using this
private theorem cnt_div {a n:Nat} (h:1≤n):(((Builtin.Int.intBits (a:Int):Nat):Int) + n - 1).fdiv n = ((cntF a n:Nat):Int):=by
  rw [Int.fdiv_eq_ediv_of_nonneg _ (Int.natCast_nonneg _),show ((Builtin.Int.intBits (a:Int):Nat):Int) + n - 1 = ((Builtin.Int.intBits (a:Int) + n - 1:Nat):Int) from (Int.natCast_sub (Nat.le_trans h (Nat.le_add_left ..))).symm]
  unfold cntF; simp
private theorem cnt_zero {n:Nat} (h:1≤n):cntF 0 n = 0:=by
  unfold cntF
  exact Nat.div_eq_of_lt (by have:Builtin.Int.intBits ((0:Nat):Int) = 0:=rfl; omega)
private theorem inn_all {a n:Nat} (h:1≤n) (ha:a ≠ 0) (hc:cntF a n≤64) (hn:n * cntF a n≤1000):Inn n a 0 ((cntF a n:Nat):Int) (cntF a n) 6:=by
  have c1:=(cnt_mul (a:=a) h).1
  have hp:0 < cntF a n:=Nat.pos_of_ne_zero fun e=>by
    have:=lt_bits a
    rw [e,Nat.mul_zero] at c1
    rw [Nat.le_zero.mp c1] at this; lia
  refine ⟨Int.natCast_nonneg _,Int.le_refl _,by exact Int.ofNat_lt.mpr hp,Int.le_refl _,by exact dB hc rfl,by exact hc,by rw [Int.sub_zero]; exact hn,?_⟩
  rw [Int.sub_zero]; exact Nat.lt_of_lt_of_le (lt_bits a) (Nat.pow_le_pow_right (by decide) c1)
private theorem KeptA.digs {m mF:Mem} {l:List Nat} (h:mF = sn m (.lst (l.map dAV))):KeptA m (.lst (l.map dAV)) (.mref m.length) mF:=by
  subst h
  exact .sn1 fun M=>.mrefL (Nat.le_refl _) (sn_get _ _) (.map (f:=dAV) (g:=dAV) (fun x=>.int _) _)
private theorem inn_full {n a:Nat} {ds:List AV}:innF n ds a 0 (ds.length:Int) = (digsF n ds.length a).map dAV:=by
  show ds.take 0++(digsF n ((ds.length:Int) - 0).toNat a).map dAV++ds.drop ds.length = _
  rw [List.drop_length,List.append_nil,Int.sub_zero]; rfl
private theorem i2d_tail {X:Amb} {D:Nat} (kn:KnC X) (hD:12≤D) {a n:Nat} (h1:1≤n) (hc:cntF a n≤64) (hnc:n * cntF a n≤1000) {m:Mem} {ds:List AV} (hds:ds.length = cntF a n) :
    WE X (D + 1) (fdAt prog1 7).scope.names (.ref 52) ("_int2digits"++".<locals>.") ((fdAt prog1 7).body.drop 1) (bd "a_digits" (.mref m.length) (bd "a" (.int a) (bd "n" (.int n) []))) (sn m (.lst ds)) (Ret (KeptA m (.lst ((digsF n (cntF a n) a).map dAV)))):=by
  have hD4:4≤D + 1:=by exact dE hD rfl
  refine .def kn.mi (qual:="_int2digits.<locals>.inner") rfl (by rfl) (by rfl) (by rfl) rfl rfl (fun zz=>rfl) (fun pq h zz zz=>by cases List.mem_singleton.mp h; rfl) ⟨_,List.mem_singleton.mpr rfl,rfl⟩ (fun f=>by rfl) fun X' cl f k=>?_
  have kn':Kn X':=kn.toKn.up k.b
  refine wpS_ok (G:=⟨X',D + 1,_,[]⟩) (k:=40) (n:=40) hD4 (.mk (fun h=>?_) fun h=>?_)
  · have ha:a ≠ 0:=fun e=>by subst e; cases h
    have I:=inn_all h1 ha hc hnc
    rw [← hds] at I ⊢
    exact ⟨.b (kn'.bu "len" _ rfl) (.lenM (sn_get m _) (by lia)),op_inner1 k.f kn'.lim (k.v.weak (.cons rfl (.cons rfl (.cons rfl .nil)))) 6 (Nat.le_of_lt hD) (sn_get m _) I,.mk (.digs ((sn_set m _ _).trans (congrArg (fun z=>sn m (.lst z)) inn_full)))⟩
  · have ha:a = 0:=by simpa using h
    subst ha
    rw [cnt_zero h1] at hds ⊢
    cases List.eq_nil_of_length_eq_zero hds
    exact .digs rfl
private theorem op_int2digits {X:Amb} {D:Nat} (kn:KnC X) (hD:13≤D) {a n:Nat} (h1:1≤n) (hn:n≤400) (hc:cntF a n≤64) (hnc:n * cntF a n≤1000) {m:Mem}:Fn X (D + 1) "_int2digits" m [.int a,.int n] (.lst ((digsF n (cntF a n) a).map dAV)) m:=by
  obtain ⟨D,rfl⟩:∃ d,D = d + 1:=⟨D - 1,by lia⟩
  have hD4:4≤D + 1:=by exact dA hD rfl
  refine kn.ci.mk' kn.lim hD4 (ps:=["a","n"]) [100071] (pre:=(fdAt prog1 7).body.take 1) (rest:=(fdAt prog1 7).body.drop 1) rfl (by rfl) (fun zz zz zz zz zz zz=>rfl) rfl ?_
  exact ⟨.bits,.of .add,.of .sub,.of (.div (by lia) (by (clear h1; omega))),.mul (by simp) (by rw [cnt_div h1]; lia) (by rw [cnt_div h1]; exact Int.natCast_nonneg _) (by rw [cnt_div h1,Int.toNat_natCast]; show 1 * _≤_; lia),i2d_tail kn (dC hD rfl) h1 hc hnc (by rw [cnt_div h1,Int.toNat_natCast]; simp)⟩
end
section
open PySem PySem.W PyProof.Rows PySem.Calls PySem.SeqAt
section
variable {X:Amb} {D:Nat} {sc:Names} {L:Lc} {m m1 m2 m3:Mem} {M:Map}
private theorem Bin.pow {a n:Int} (h0:0≤n) (h1:n≤1000000) (h2:a.natAbs < 2 ^ 64):Bin X D (binaryOp .Pow) m (.int a) (.int n) (.int (a ^ n.toNat)):=.ofI fun t u A s Q E h=>pow_int_small h0 h1 h2 (h _)
private theorem inLong {i:Int} (h0:0≤i) (h1:i < 2 ^ 62):(decide (i < -(2 ^ 63:Int)) || decide (i ≥ 2 ^ 63)) = false:=by
  rw [decide_eq_false (Int.not_lt.mpr (Int.le_trans (by decide) h0)),decide_eq_false (Int.not_le.mpr (lt62 h1))]; rfl
private theorem seqAt {α:Type} {l:List α} {i:Int} {c:α} (h0:0≤i) (hx:l[i.toNat]? = some c):seqIndex? i l.length = some i.toNat:=by
  have h1:=(List.getElem?_eq_some_iff.mp hx).1
  obtain ⟨k,rfl⟩:=Int.eq_ofNat_of_zero_le h0
  rw [Int.toNat_natCast] at h1
  unfold seqIndex?
  have h2:¬ ((k:Int) < 0):=Int.not_lt.mpr h0
  simp [h2]
  lia
private theorem Sub.str {l:List Nat} {i:Int} {c:Nat} (h0:0≤i) (h1:i < 2 ^ 62) (hx:l[i.toNat]? = some c):Sub X D m (.str l) (.int i) (.str [c]):=fun ev es hs A d v w R S r q Q E k=>by
  obtain ⟨t,rfl⟩:=r.i_str
  obtain ⟨u,rfl⟩:=q.i_int
  refine tail_any (T:="str") (typeIs_str _ _ _) F.slot_str_getitem.lookup (PySem.P.getItem_str (c:=c) (inLong h0 h1) ?_ (k (.str ⟨[c].toArray⟩ _) _ (.tok S (.str [c] _) _))) (hs _ _)
  show (seqIndex? i l.length).bind (fun j=>l.toArray[j]?) = _
  rw [seqAt h0 hx]
  simpa using hx
private theorem Sub.tup {xs:List AV} {i:Int} {x:AV} (h0:0≤i) (h1:i < 2 ^ 62) (hx:xs[i.toNat]? = some x):Sub X D m (.tup xs) (.int i) x:=fun ev es hs A c v w R S r q Q E k=>by
  obtain ⟨t,rfl⟩:=q.i_int
  cases r.i_tup with
  | @mk a vs n hk b =>
    obtain ⟨v,hv,rv⟩:=b.get hx
    exact tail_any (T:="tuple") ⟨_,S.frz hk,rfl⟩ PySem.F.slot_tuple_getitem.lookup (PySem.P.getItem_tuple (items:=vs.toArray) (k:=i.toNat) (S.frz hk) (Int.le_trans (by decide) h0) (lt62 h1) (seqAt h0 hv) (by simpa using hv) (k v _ (.now S rv))) (hs _ _)
private theorem repl1 (c:Nat):∀ (n:Nat) (acc:Array Nat),(List.replicate n #[c]).foldl (·++·) acc = acc++(List.replicate n c).toArray
  | 0,acc=>by simp
  | n + 1,acc=>by rw [List.replicate_succ,List.foldl_cons,repl1 c n,List.replicate_succ]; apply Array.ext'; simp
private theorem mulTxt (c:Nat) (n:Int):Txt.mul ⟨[c].toArray⟩ n = ⟨(List.replicate n.toNat c).toArray⟩:=by
  unfold Txt.mul
  split
  · rw [Int.toNat_of_nonpos (by lia)]; rfl
  · split
    · rename_i h1 h2
      have:n = 1:=by
        rcases Bool.or_eq_true_iff.mp h2 with h | h
        · exact beq_iff_eq.mp h
        · cases h
      subst this; rfl
    · show (⟨List.foldl (·++·) #[] (List.replicate n.toNat #[c])⟩:Str) = _
      rw [repl1]; simp
private theorem Bin.mulS {c:Nat} {n:Int} (h0:-1000≤n) (h1:n≤1000):Bin X D (binaryOp .Mult) m (.str [c]) (.int n) (.str (List.replicate n.toNat c)):=fun A d v w R S r q Q E k=>by
  obtain ⟨t,rfl⟩:=r.i_str
  obtain ⟨u,rfl⟩:=q.i_int
  refine SB.mul ⟨by rw [decide_eq_false (by lia),decide_eq_false (by lia)]; rfl,fun h zz=>?_,fun h zz=>?_⟩ fun t' k'=>mulTxt c n ▸ k _ _ (.tok S (.str _ _) _)
  · show ¬ ((1:Int) > (2 ^ 63 - 1) / n)
    rw [Int.not_lt,Int.le_ediv_iff_mul_le (by lia)]
    lia
  · show Builtin.Str.tooLong (1 * n.toNat) = false
    unfold Builtin.Str.tooLong; simp [sizeLine_is]; lia
private theorem b2i_lt {p q:Bool}:decide (b2i p < b2i q) = (!p && q):=by cases p <;> cases q <;> rfl
private theorem Bin.ltB {p q:Bool}:Bin X D (compareOp .Lt) m (.bool p) (.bool q) (.bool (!p && q)):=fun A c v w R S r q Q E k=>r.i_bool ▸ q.i_bool ▸ lt_bool (b2i_lt ▸ k _ _ (.now S (.bool _)))
inductive LstOf (m:Mem) (xs:List AV):AV→Prop
  | f:LstOf m xs (.lst xs)
  | m {i:Nat}:m[i]? = some (.lst xs)→LstOf m xs (.mref i)
inductive LstAt (s:Shared) (M:Map) (xs:List AV):Value→Prop
  | mk {a vs n}:s.heap.get? a = some (lo vs n)→Reps M xs vs→LstAt s M xs (.ref a)
private theorem LstOf.at' {av:AV} {xs:List AV} (h:LstOf m xs av) {s:Shared} (S:Sep X s M m) {v:Value} (r:Rep M av v):LstAt s M xs v:=by
  cases h with
  | f=>cases r.i_lst with
    | mk a b=>exact .mk (S.frz a) b
  | m e=>cases r.i_mref with
    | mk a=>obtain ⟨vs,n,g,b⟩:=S.mlist a e; exact .mk g b
private theorem Slc.l {av:AV} {l u:Option Int} {xs:List AV} (h:LstOf m xs av) (hz:xs.length≤2 ^ 24):Slc X m l u none av (.lst (sl l u xs)):=fun A c v vl vu vt sl e S r hs pl pu ps hop ev Q E k=>by
  cases h.at' S r with
  | mk a b =>
    have:=slcLst (A:=A) (e:=e) (ev:=ev) (Q:=Q) (E:=E) S a b hs pl pu ps nofun hz hop
    unfold pick at this
    rw [picks_sl] at this
    exact this k
private theorem Call.listL {av:AV} {xs:List AV} (h:LstOf m xs av) (hz:xs.length≤2 ^ 23):Call X D (opT "list") m [av] (.mref m.length) (sn m (.lst xs)):=.of1 fun A c v R S r Q E k=>by
  cases h.at' S r with
  | mk a b=>exact listSeq a b S hz k
private theorem LstOf.sub {av x:AV} {xs:List AV} {i:Int} (h:LstOf m xs av) (h0:0≤i) (h1:i < 2 ^ 62) (hx:xs[i.toNat]? = some x):Sub X D m av (.int i) x:=by
  cases h with
  | f=>exact .lst h0 h1 hx
  | m e=>exact .mut e h0 h1 hx
private theorem LstOf.len {av:AV} {xs:List AV} (h:LstOf m xs av) (hz:xs.length≤2 ^ 40):Call X D (opB "len") m [av] (.int xs.length) m:=by
  cases h with
  | f=>exact .lenL hz
  | m e=>exact .lenM e hz
private theorem LstOf.tru {av:AV} {xs:List AV} (h:LstOf m xs av) (hz:xs.length≤2 ^ 24):Tru X m av (!xs.isEmpty):=fun A c v S r Q E k=>by
  cases h.at' S r with
  | mk a b=>exact truLst a b hz k
private theorem Reps.intsAre:∀ {ns:List Int} {vs:List Value},Reps M (ns.map .int) vs→IntsAre vs ns
  | [],_,r=>by rw [r.i_nil]; exact .nil
  | n :: ns,vs,r=>by
    cases r.i_cons with
    | mk r1 r2=>obtain ⟨t,rfl⟩:=r1.i_int; exact .cons _ _ (Reps.intsAre r2)
private theorem Call.min {ns:List Int} {x:Int} (hx:x∈ns) (hm:∀ y∈ns,x≤y):Call X D (opB "min") m [.lst (ns.map .int)] (.int x) m:=.of1 fun A c v R S r Q E k=>by
  cases r.i_lst with
  | @mk a us n hk rx =>
    have hi:=rx.intsAre
    obtain ⟨xs,e⟩:=hi.allInts.items
    have hns:ns = xs.toList.map (·.1):=by rw [← hi.numsOf,← nums_intItems,← e]
    have hsz:0 < xs.size:=by
      have h3:=List.length_pos_of_mem hx; rw [hns,List.length_map,Array.length_toList] at h3; exact h3
    have hl:c.s.heap.IsList a (intItems xs):=e ▸ ⟨_,S.frz hk,rfl,n,rfl⟩
    refine min_intList R.1 hl hsz fun v h' tk hv hk=>?_
    obtain ⟨t,rfl⟩:=intItems_at hv
    obtain ⟨h1,h2⟩:=argBest_lt (numAt xs) (xs.size - 1)
    have h3:numAt xs (argBest (fun i j=>decide (numAt xs i < numAt xs j)) (xs.size - 1)) = x:=by
      refine Int.le_antisymm ?_ (hm _ ?_)
      · rw [hns] at hx
        obtain ⟨j,hj,rfl⟩:=mem_getD hx
        rw [List.length_map,Array.length_toList] at hj
        rw [← numAt_eq]; exact h2 j (by lia)
      · rw [hns,numAt_eq]; exact getD_mem (by rw [List.length_map,Array.length_toList]; lia)
    rw [h3]
    exact k _ ⟨{ c.s with heap:=h',toks:=tk },c.M⟩ ⟨.rf _,S.keep fun b o zz e=>hk b o e,.int _ _⟩
private theorem Mt.indexI {ns:List Int} {x:Int} {j:Nat} (hz:ns.length≤2 ^ 23) (hj:ns[j]? = some x) (hf:∀ i y,i < j→ns[i]? = some y→y ≠ x):Mt X D "index" m1 m2 (.lst (ns.map .int)) [.int x] (.int j) m2:=.f F.slot_list_index F.type_list_index (.of2 fun A c v w R S r q Q E k=>by
  obtain ⟨t,rfl⟩:=q.i_int
  cases r.i_lst with
  | @mk a us n hk ry =>
    have hl:=ry.len
    rw [List.length_map] at hl
    have at':∀ i (h:i < us.length),∃ y u,ns[i]? = some y∧us[i] = .int y u:=fun i h=>by
      obtain ⟨z,h1,rz⟩:=ry.get' (List.getElem?_eq_getElem h)
      rw [List.getElem?_map] at h1
      obtain ⟨y,h2,rfl⟩:=Option.map_eq_some_iff.mp h1
      obtain ⟨u,e⟩:=rz.i_int
      exact ⟨y,u,h2,e⟩
    have hju:j < us.length:=hl ▸ (List.getElem?_eq_some_iff.mp hj).1
    refine call_meets PySem.F.slot_list_index ⟨_,S.frz hk,rfl⟩ PySem.F.entry_list_index (PySem.F.args_list_index_2 _ _)
      (list_indexAt a us.toArray n none #[] (.int x t) (fun v=>numOf v == x) j (by simpa using hju) (by lia) ?_ (fun i hi hlt=>?_)) ⟨S.frz hk,fun y hy=>?_,k _ _ (.tok S (.int _ _) _)⟩
    · obtain ⟨y,u,h1,h2⟩:=at' j hju
      rw [hj] at h1; cases h1
      rw [List.getElem_toArray,h2]
      exact beq_self_eq_true _
    · obtain ⟨y,u,h1,h2⟩:=at' i (by simpa using hi)
      rw [List.getElem_toArray,h2]
      exact beq_eq_false_iff_ne.mpr (hf i y hlt h1)
    · obtain ⟨i,hi,rfl⟩:=List.getElem_of_mem (show y∈us by simpa using hy)
      obtain ⟨y,u,h1,h2⟩:=at' i hi
      rw [h2]; exact EqAt.int_int _ _ _ _)
private theorem Mt.find {l:List Nat} {c:Nat} {i:Int} (h:Txt.find ⟨l.toArray⟩ ⟨#[c]⟩ = i):Mt X D "find" m1 m2 (.str l) [.str [c]] (.int i) m2:=.s F.slot_str_find F.type_str_find (.of2 fun A d v w R S r q Q E k=>by
  obtain ⟨t,rfl⟩:=r.i_str
  obtain ⟨u,rfl⟩:=q.i_str
  refine SC.find ?_
  rw [show (⟨[c].toArray⟩:Str) = ⟨#[c]⟩ from rfl,h]
  exact k _ _ (.tok S (.int _ _) _))
end
end
section
open PySem PySem.W PyProof.Rows PySem.Calls PySem.SeqAt
noncomputable def fdO:Fd:=fdAt (fdAt prog1 8).body 0
noncomputable def fvO (av:AV) (n:Nat) (f:Addr):Lc:=bd "digits" av (bd "n" (.int n) (bd "inner" (.ext (.ref f)) []))
structure Inn2 (n:Nat) (ds:List Nat) (L R:Int) (k:Nat):Prop where
  L0:0≤L
  LR:L < R
  R':R≤ds.length
  len:ds.length≤64
  k':(R - L).toNat≤2 ^ k
  n':n * ds.length≤900
  d:∀ d∈ds,d < 2 ^ n
noncomputable def ofD (n:Nat) (ds:List Nat) (L R:Int):Int:=(ofDigs n ((ds.take R.toNat).drop L.toNat):Nat)
structure Inn2S (n:Nat) (ds:List Nat) (L R:Int) (k:Nat) (mid sh:Int):Prop where
  m:(mid - L).natAbs < 2 ^ 63
  s0:0≤sh
  s1:sh≤1000
  u:(ofD n ds mid R).natAbs < 2 ^ 1000
  a:Inn2 n ds mid R k
  b:Inn2 n ds L mid k
  e:ofD n ds mid R * 2 ^ sh.toNat + ofD n ds L mid = ofD n ds L R
private theorem inn2_one {n:Nat} {ds:List Nat} {L R:Int} {k:Nat} (I:Inn2 n ds L R k) (h:L + 1 = R):(ds.map dAV)[L.toNat]? = some (.int (ofD n ds L R)):=by
  obtain ⟨l,rfl⟩:=Int.eq_ofNat_of_zero_le I.L0
  subst h
  have hl:l < ds.length:=by have:=I.R'; lia
  have e:(ds.take (l + 1)).drop l = [ds[l]]:=by
    rw [List.take_add_one,List.getElem?_eq_getElem hl,List.drop_append,List.length_take,Nat.min_eq_left (Nat.le_of_lt hl),Nat.sub_self,List.drop_eq_nil_of_le (by rw [List.length_take]; exact Nat.min_le_left _ _)]; rfl
  show (ds.map dAV)[l]? = some (.int (ofDigs n ((ds.take (l + 1)).drop l):Nat))
  rw [e,List.getElem?_map,List.getElem?_eq_getElem hl]
  simp [ofDigs,dAV]
private theorem inn2_step {n:Nat} {ds:List Nat} {L R:Int} {k:Nat} (I:Inn2 n ds L R (k + 1)) (h:¬ L + 1 = R):Inn2S n ds L R k ((L + R).fdiv (2 ^ (1:Int).toNat)) (((L + R).fdiv (2 ^ (1:Int).toNat) - L) * n):=by
  obtain ⟨l,rfl⟩:=Int.eq_ofNat_of_zero_le I.L0
  obtain ⟨c,rfl⟩:∃ c:Nat,R = ((l + c:Nat):Int):=⟨(R - l).toNat,by have:=I.LR; (clear h; lia)⟩
  have e1:=castSubN l c
  have hk:=I.k'
  have hn:=I.n'
  have hR:l + c≤ds.length:=Int.ofNat_le.mp I.R'
  have hz:=I.len
  have hLR:=I.LR
  rw [e1,Nat.pow_succ] at hk
  obtain ⟨a,b,ha,hb,hab,hak,hbk,hac⟩:∃ a b:Nat,0 < a∧0 < b∧a + b = c∧a≤2 ^ k∧b≤2 ^ k∧a = c / 2:=half_pack h hLR hk
  have z1:((l:Int) + ((l + c:Nat):Int)).fdiv (2 ^ (1:Int).toNat) = ((l + a:Nat):Int):=hac ▸ mid_is l c
  have z2:(((l + a:Nat):Int) - (l:Int)) * n = ((n * a:Nat):Int):=by
    rw [castSub,Int.mul_comm]; exact (Int.natCast_mul n a).symm
  have z3:=castSubN l a
  have z4:(((l + c:Nat):Int) - ((l + a:Nat):Int)).toNat = b:=by rw [← hab,← Nat.add_assoc]; exact castSubN (l + a) b
  have hac':a≤c:=hab ▸ Nat.le_add_right a b
  have hla:l + a≤ds.length:=Nat.le_trans (Nat.add_le_add_left hac' l) hR
  have hlc:l + a < l + c:=Nat.add_lt_add_left (hab ▸ Nat.lt_add_of_pos_right hb) l
  rw [z1,z2]
  have hna:n * a≤n * ds.length:=Nat.mul_le_mul_left n (Nat.le_trans (Nat.le_add_left a l) hla)
  refine ⟨by rw [castSub,Int.natAbs_natCast]; exact Nat.lt_of_le_of_lt (Nat.le_trans (Nat.le_trans (Nat.le_add_left a l) hla) hz) (by decide),Int.natCast_nonneg _,Int.ofNat_le.mpr (Nat.le_trans hna (dB hn rfl)),?_,⟨Int.natCast_nonneg _,Int.ofNat_lt.mpr hlc,Int.ofNat_le.mpr hR,hz,by rw [z4]; exact hbk,hn,I.d⟩,⟨Int.natCast_nonneg _,Int.ofNat_lt.mpr (Nat.lt_add_of_pos_right ha),Int.ofNat_le.mpr hla,hz,by rw [z3]; exact hak,hn,I.d⟩,?_⟩
  · show (((ofDigs n ((ds.take (l + c)).drop (l + a)):Nat):Int)).natAbs < _
    rw [Int.natAbs_natCast]
    refine Nat.lt_of_lt_of_le (ofDigs_lt n _ fun d hd=>I.d d (List.mem_of_mem_take (List.mem_of_mem_drop hd))) (Nat.pow_le_pow_right (by decide) ?_)
    rw [List.length_drop]
    exact Nat.le_trans (Nat.mul_le_mul_left n (Nat.le_trans (Nat.sub_le ..) (List.length_take_le' ..))) (Nat.le_trans hn (by decide))
  · show ((ofDigs n ((ds.take (l + c)).drop (l + a)):Nat):Int) * 2 ^ ((n * a:Nat):Int).toNat + ((ofDigs n ((ds.take (l + a)).drop l):Nat):Int) = ((ofDigs n ((ds.take (l + c)).drop l):Nat):Int)
    have e2:(ds.take (l + c)).drop l = (ds.take (l + a)).drop l++(ds.take (l + c)).drop (l + a):=by
      have h1:ds.take (l + a) = (ds.take (l + c)).take (l + a):=by rw [List.take_take,Nat.min_eq_left (Nat.le_of_lt hlc)]
      rw [h1]
      generalize ds.take (l + c) = t
      rw [List.drop_take,← List.drop_drop,Nat.add_sub_cancel_left,List.take_append_drop]
    have e3:((ds.take (l + a)).drop l).length = a:=by rw [List.length_drop,List.length_take_of_le hla,Nat.add_sub_cancel_left]
    rw [e2,ofDigs_app,e3,Int.toNat_natCast]
    simp [Int.mul_comm,Int.add_comm]
private theorem op_inner2 {X:Amb} {q:Str} {cl:List (Str × Addr)} {f:Addr} {n:Nat} {av:AV} (fa:FnAt X.B fdO q cl .none f) (lim:NoLim X.B) (Fv:FreeK X.B fdO.scope.names cl (fvO av n f)) {m:Mem} {ds:List Nat} (hm:LstOf m (ds.map dAV) av):∀ (k:Nat) {D:Nat} (_:5 + k≤D) {L R:Int} (_:Inn2 n ds L R k),
    FnV X (D + 1) (.ext (.ref f)) m [.int L,.int R] (.int (ofD n ds L R)) m:=by
  intro k
  induction k with
  | zero =>
    intro D hD L R I
    have h:L + 1 = R:=by have:=I.k'; have:=I.LR; lia
    have:=I.R'
    have:=I.len
    exact fa.mkX lim (Nat.le_of_lt hD) (ps:=["L","R"]) [] (by rfl) Fv (fun zz zz zz zz zz zz=>rfl) rfl (.d (fun zz=>⟨hm.sub I.L0 (by (clear h; lia)) (inn2_one I h),.mk⟩) fun h'=>absurd h h')
  | succ k ih =>
    intro D hD L R I
    obtain ⟨D,rfl⟩:∃ d,D = d + 1:=⟨D - 1,by lia⟩
    have:=I.R'
    have:=I.len
    have:=I.LR
    refine fa.mkX lim (by lia) (ps:=["L","R"]) [] (by rfl) Fv (fun zz zz zz zz zz zz=>rfl) rfl (.d (fun h=>⟨hm.sub I.L0 (by (clear h; lia)) (inn2_one I h),.mk⟩) fun h=>?_)
    have s:=inn2_step I h
    exact ⟨.shr (by decide),.mul (.inl s.m),ih (by lia) s.a,.shl s.s0 s.s1 s.u,ih (by lia) s.b,s.e ▸ .mk⟩
private theorem inn2_all {n:Nat} {ds:List Nat} (h0:0 < ds.length) (hz:ds.length≤64) (hn:n * ds.length≤900) (hd:∀ d∈ds,d < 2 ^ n):Inn2 n ds 0 ds.length 6:=⟨Int.le_refl _,by exact Int.ofNat_lt.mpr h0,Int.le_refl _,hz,by exact hz,hn,hd⟩
private theorem isV' {α:Type} {v w:α} {m:Mem} (e:v = w):IsV w m v m:=e ▸ .mk
private theorem op_digits2int {X:Amb} {D:Nat} (kn:KnC X) (hD:13≤D) {n:Nat} {av:AV} {m:Mem} {ds:List Nat} (hm:LstOf m (ds.map dAV) av) (hz:ds.length≤64) (hn:n * ds.length≤900) (hd:∀ d∈ds,d < 2 ^ n):Fn X (D + 1) "_digits2int" m [av,.int n] (.int (ofDigs n ds)) m:=by
  obtain ⟨D,rfl⟩:∃ d,D = d + 1:=⟨D - 1,by lia⟩
  have hD4:4≤D + 1:=by exact dA hD rfl
  refine kn.cd.mk' kn.lim hD4 (ps:=["digits","n"]) [] (pre:=[]) (rest:=(fdAt prog1 8).body) rfl (by rfl) (fun zz zz zz zz zz zz=>rfl) rfl ?_
  refine WE.def kn.md (qual:="_digits2int.<locals>.inner") rfl (by rfl) (by rfl) (by rfl) rfl rfl (fun zz=>rfl) (fun pq h zz zz=>by cases List.mem_singleton.mp h; rfl) ⟨_,List.mem_singleton.mpr rfl,rfl⟩ (fun f=>by rfl) fun X' cl f k=>?_
  have kn':Kn X':=kn.toKn.up k.b
  have e:ofD n ds 0 ((ds.map dAV).length:Nat) = (ofDigs n ds:Nat):=by
    rw [List.length_map]
    show ((ofDigs n ((ds.take ds.length).drop 0):Nat):Int) = _
    rw [List.take_length]; rfl
  have h1:ds = []∨0 < ds.length:=by
    cases ds with
    | nil=>exact .inl rfl
    | cons d ds=>exact .inr (Nat.succ_pos _)
  have ht:=hm.tru (X:=X') (by rw [List.length_map]; exact dB hz rfl)
  have hl:=hm.len (X:=X') (D:=D + 1) (by rw [List.length_map]; exact dB hz rfl)
  have k2:(!(ds.map dAV).isEmpty) = true→_:=fun h=>by
    have h0:0 < ds.length:=h1.elim (fun e=>by rw [e] at h; cases h) id
    have I:=inn2_all h0 hz hn hd
    rw [← List.length_map (f:=dAV)] at I
    exact op_inner2 k.f kn'.lim (k.v.weak (.cons rfl (.cons rfl (.cons rfl .nil)))) hm 6 (dC hD rfl) I
  have k3:(!(ds.map dAV).isEmpty) = false→AV.int 0 = .int (ofDigs n ds:Nat):=fun h=>h1.elim (fun e=>by rw [e]; rfl) fun e=>by
    cases ds with
    | nil=>cases e
    | cons d ds=>cases h
  rw [e] at k2
  generalize (!(ds.map dAV).isEmpty) = b at ht k2 k3
  cases hm with
  | f=>exact wpS_ok (G:=⟨X',D + 1,_,[]⟩) (k:=40) (n:=40) hD4 ⟨ht,.int (ofDigs n ds:Nat),m,fun h=>⟨.b (kn'.bu "len" _ rfl) hl,k2 h,.mk⟩,fun h=>isV' (k3 h),.i⟩
  | m q=>exact wpS_ok (G:=⟨X',D + 1,_,[]⟩) (k:=40) (n:=40) hD4 ⟨ht,.int (ofDigs n ds:Nat),m,fun h=>⟨.b (kn'.bu "len" _ rfl) hl,k2 h,.mk⟩,fun h=>isV' (k3 h),.i⟩
end
section
open PySem PySem.W PyProof.Rows PySem.Calls PySem.SeqAt
private theorem op_div2n1n {X:Amb} {D:Nat} (kn:KnC X) (hD:4≤D) {a b n:Int} (h1:(Builtin.Int.intBits a:Int) - n≤4000) (h2:b ≠ 0) (h3:b.natAbs < 1073741824) {m:Mem}:Fn X (D + 1) "_div2n1n" m [.int a,.int b,.int n] (.tup [.int (a.fdiv b),.int (a.fmod b)]) m :=
  (kn.fn 5 39 rfl).mk' kn.lim hD (ps:=["a","b","n"]) [] (by rfl) (fun zz zz zz zz zz zz zz=>rfl) rfl ⟨.bits,kn.dl,.d (fun zz=>⟨.b (kn.bu "divmod" _ rfl) (.divmod h2 h3),.same fun zz=>.tupL (.cons (.int _) (.cons (.int _) .nil))⟩) fun h=>absurd h1 h⟩
noncomputable def divStep (n b:Nat) (st:List Nat × Nat) (d:Nat):List Nat × Nat:=(st.1++[(st.2 * 2 ^ n + d) / b],(st.2 * 2 ^ n + d) % b)
noncomputable def divAt (n b:Nat) (l:List Nat) (k:Nat):List Nat × Nat:=(l.take k).foldl (divStep n b) ([],0)
private theorem divAt_succ {n b:Nat} {l:List Nat} {k d:Nat} (h:l[k]? = some d):divAt n b l (k + 1) = divStep n b (divAt n b l k) d:=foldl_take_succ _ _ h
private theorem divAt_inv {n b:Nat} (hb:0 < b) (hn:b≤2 ^ n) {l:List Nat} (hl:∀ d∈l,d < 2 ^ n):∀ k,k≤l.length→(divAt n b l k).2 < b∧(divAt n b l k).1.length = k∧(∀ q∈(divAt n b l k).1,q < 2 ^ n)∧ofDigs n (l.take k).reverse = ofDigs n (divAt n b l k).1.reverse * b + (divAt n b l k).2
  | 0,_=>by simp [divAt,ofDigs,hb]
  | k + 1,hk=>by
    obtain ⟨h1,h2,h3,h4⟩:=divAt_inv hb hn hl k (Nat.le_of_lt hk)
    have hd:l[k]? = some l[k]:=List.getElem?_eq_getElem (hk)
    have hdl:=hl l[k] (List.getElem_mem _)
    rw [divAt_succ hd]
    generalize l[k] = d at *
    generalize hst:divAt n b l k = st at *
    obtain ⟨qs,r⟩:=st
    dsimp only at h1 h2 h3 h4
    unfold divStep
    dsimp only
    have hq:(r * 2 ^ n + d) / b < 2 ^ n:=by
      refine Nat.div_lt_of_lt_mul ?_
      have h5:r + 1≤b:=h1
      have h6:=Nat.mul_le_mul_right (2 ^ n) h5
      rw [Nat.succ_mul] at h6
      lia
    refine ⟨Nat.mod_lt _ hb,by simp [h2],fun q hq'=>?_,?_⟩
    · rcases List.mem_append.mp hq' with h | h
      · exact h3 q h
      · simp at h; subst h; exact hq
    · have ht:l.take (k + 1) = l.take k++[d]:=by rw [List.take_add_one,hd]; rfl
      rw [ht,List.reverse_append,List.reverse_append]
      simp only [List.reverse_cons,List.reverse_nil,List.nil_append,List.singleton_append,ofDigs]
      rw [h4,Nat.mul_add,Nat.add_mul]
      have h7:=Nat.div_add_mod (r * 2 ^ n + d) b
      have h8:2 ^ n * (ofDigs n qs.reverse * b) = 2 ^ n * ofDigs n qs.reverse * b:=by rw [Nat.mul_assoc]
      have h9:2 ^ n * r = r * 2 ^ n:=Nat.mul_comm _ _
      rw [h8,h9,Nat.mul_comm ((r * 2 ^ n + d) / b) b]
      lia
structure DmP (a b n:Nat):Prop where
  n1:1≤n
  n2:n≤30
  bn:b < 2 ^ n
  c64:cntF a n≤64
  nc:n * cntF a n≤900
  q:a / b = ofDigs n (divAt n b (digsF n (cntF a n) a).reverse (cntF a n)).1.reverse
  r:a % b = (divAt n b (digsF n (cntF a n) a).reverse (cntF a n)).2
private theorem dmP {a b:Nat} (ha:a < 2 ^ 60) (hb:0 < b) (hb2:b < 1073741824):DmP a b (Builtin.Int.intBits (b:Int)):=by
  generalize hn:Builtin.Int.intBits (b:Int) = n
  have hbn:b < 2 ^ n:=by rw [← hn]; exact lt_bits b
  have hn1:1≤n:=by
    rcases Nat.eq_zero_or_pos n with h | h
    · rw [h] at hbn; exact absurd hb (Nat.not_lt.mpr (Nat.le_of_lt_succ hbn))
    · exact h
  have hn2:n≤30:=by rw [← hn]; exact intBits_le_iff.mpr (by rw [Int.natAbs_natCast]; exact hb2)
  have ha60:Builtin.Int.intBits (a:Int)≤60:=intBits_le_iff.mpr (by rw [Int.natAbs_natCast]; exact ha)
  obtain ⟨c1,c2⟩:=cnt_mul (a:=a) hn1
  have hc64:cntF a n≤64:=by
    rcases hz:cntF a n with _ | j
    · exact Nat.zero_le _
    · rw [hz,Nat.mul_succ] at c2
      have:1 * j≤n * j:=Nat.mul_le_mul_right _ hn1
      (clear hz; lia)
  have hlt:∀ d∈(digsF n (cntF a n) a).reverse,d < 2 ^ n:=fun d hd=>digs_lt n _ a d (List.mem_reverse.mp hd)
  have hlen:(digsF n (cntF a n) a).reverse.length = cntF a n:=by rw [List.length_reverse,digs_len]
  obtain ⟨i1,i2,i3,i4⟩:=divAt_inv (n:=n) (b:=b) hb (Nat.le_of_lt hbn) hlt (cntF a n) (Nat.le_of_eq hlen.symm)
  rw [List.take_of_length_le (Nat.le_of_eq hlen),List.reverse_reverse,ofDigs_digs,Nat.mod_eq_of_lt (Nat.lt_of_lt_of_le (lt_bits a) (Nat.pow_le_pow_right (by decide) c1))] at i4
  have:=(Nat.div_mod_unique (a:=a) (b:=b) (c:=(divAt n b (digsF n (cntF a n) a).reverse (cntF a n)).2) (d:=ofDigs n (divAt n b (digsF n (cntF a n) a).reverse (cntF a n)).1.reverse) hb).mpr ⟨by rw [Nat.mul_comm b,Nat.add_comm]; exact i4.symm,i1⟩
  exact ⟨hn1,hn2,hbn,hc64,by lia,this.1,this.2⟩
structure DmS (n b:Nat) (st:List Nat × Nat) (d:Nat) (x:Int):Prop where
  r:(st.2:Int).natAbs < 2 ^ 1000
  bits:(Builtin.Int.intBits x:Int) - n≤4000
  q:x.fdiv b = ((st.2 * 2 ^ n + d) / b:Nat)
  m:x.fmod b = ((st.2 * 2 ^ n + d) % b:Nat)
private theorem dmS {n b:Nat} {st:List Nat × Nat} {d:Nat} (hn:n≤30) (hb:b < 2 ^ n) (hr:st.2 < b) (hd:d < 2 ^ n):DmS n b st d ((st.2:Int) * 2 ^ (n:Int).toNat + d):=by
  have p30:2 ^ n≤2 ^ 30:=Nat.pow_le_pow_right (by decide) hn
  have e:(st.2:Int) * 2 ^ (n:Int).toNat + d = ((st.2 * 2 ^ n + d:Nat):Int):=by rw [Int.toNat_natCast,Nat.shl_int]; rfl
  have hb0:(0:Int)≤b:=Int.natCast_nonneg _
  rw [e]
  refine ⟨?_,?_,?_,?_⟩
  · rw [Int.natAbs_natCast]
    exact Nat.lt_of_lt_of_le (Nat.lt_of_lt_of_le (Nat.lt_trans hr hb) p30) (Nat.pow_le_pow_right (by decide) (by decide))
  · have:Builtin.Int.intBits ((st.2 * 2 ^ n + d:Nat):Int)≤70:=intBits_le_iff.mpr (by
      rw [Int.natAbs_natCast]
      have:st.2 * 2 ^ n≤2 ^ 30 * 2 ^ 30:=Nat.mul_le_mul (by lia) p30
      have e2:(2:Nat) ^ 30 * 2 ^ 30 = 2 ^ 60:=by decide
      have e3:(2:Nat) ^ 60 + 2 ^ 30 < 2 ^ 70:=by decide
      (clear e; lia))
    (clear hn; omega)
  · rw [Int.fdiv_eq_ediv_of_nonneg _ hb0]; rfl
  · rw [Int.fmod_eq_emod_of_nonneg _ hb0]; rfl
private theorem dm_loop {X:Amb} {D:Nat} (kn:KnC X) (hD:13≤D) {b n:Nat} {l:List Nat} (hb:0 < b) (hb2:b < 1073741824) (hn:n≤30) (hbn:b < 2 ^ n) (hl:∀ d∈l,d < 2 ^ n) (hz:l.length≤64) (hnz:n * l.length≤900) {m:Mem} :
    W X (D + 1) (fdAt prog1 9).scope.names ((fdAt prog1 9).body.drop 4) (bd "q_digits" (.mref m.length) (bd "r" (.int 0) (bd "a_digits" (.lst (l.reverse.map dAV)) (bd "n" (.int n) (bd "b" (.int b) []))))) (sn m (.lst [])) (Ret (KeptA m (.tup [.int (ofDigs n (divAt n b l l.length).1.reverse:Nat),.int ((divAt n b l l.length).2:Nat)]))):=by
  have hD4:4≤D + 1:=by exact dE hD rfl
  have hinv:=divAt_inv (n:=n) (b:=b) hb (Nat.le_of_lt hbn) hl
  have hb0:(b:Int) ≠ 0:=by lia
  have hb3:(b:Int).natAbs < 1073741824:=by rw [Int.natAbs_natCast]; exact hb2
  have hrev:(l.reverse.map dAV).reverse = l.map dAV:=by rw [List.map_reverse,List.reverse_reverse]
  refine W.forP (G:=⟨X,D + 1,_,[]⟩) (σ:=Unit) (xs:=l) (f:=dAV) hD4 (hrev ▸ .reversed (kn.bu "reversed" _ rfl) (.cons (fun zz=>rfl) (.var rfl) .nil) rfl) (fun k zz=>bd "r" (.int ((divAt n b l k).2:Nat)) (bd "q_digits" (.mref m.length) (bd "n" (.int n) (bd "b" (.int b) [])))) (fun k zz=>sn m (.lst ((divAt n b l k).1.map dAV))) (fun zz zz=>True) (.mk () trivial rfl (.rf rfl)) (fun k d s hx zz=>?_) (fun s zz=>?_) (fun zz zz=>rfl)
  · have hk:=(List.getElem?_eq_some_iff.mp hx).1
    have h:=hinv k (Nat.le_of_lt hk)
    have S:=dmS (st:=divAt n b l k) hn hbn h.1 (hl d (List.mem_of_getElem? hx))
    have e:=divAt_succ (n:=n) (b:=b) hx
    refine ⟨_,.name rfl,W.tup (G:=⟨X,D + 1,_,_⟩) (xs:=["q_digit","r"]) hD4 rfl rfl (.cons rfl (.cons rfl .nil)) ⟨.shl (Int.natCast_nonneg _) (by lia) S.r,op_div2n1n kn (dA hD rfl) S.bits hb0 hb3,.mk rfl ⟨.appendN (by rw [List.length_map]; lia),.mk (.mk () trivial ?_ (.cons ?_ (.cons rfl (.cons rfl (.cons rfl .nil)))))⟩⟩⟩
    · rw [e]
      show sn m (.lst (_++[_])) = sn m (.lst (((divAt n b l k).1++[_]).map dAV))
      rw [List.map_append,S.q]; rfl
    · rw [e]; exact congrArg (fun z=>some (AV.int z)) S.m
  · have h:=hinv l.length (Nat.le_refl _)
    exact ⟨.reverse (sn_get _ _) (by rw [List.length_map,h.2.1]; exact dB hz rfl) ((sn_set _ _ _).trans (congrArg (fun z=>sn m (.lst z)) List.map_reverse.symm)),.mk ⟨op_digits2int kn hD (.m (sn_get _ _)) (by rw [List.length_reverse,h.2.1]; exact hz) (by rw [List.length_reverse,h.2.1]; exact hnz) (fun d hd=>h.2.2.1 d (List.mem_reverse.mp hd)),.sn1 fun M=>.tupL (.cons (.int _) (.cons (.int _) .nil))⟩⟩
private theorem op_divmod_pos {X:Amb} {D:Nat} (kn:KnC X) (hD:14≤D) {a b:Nat} (ha:a < 2 ^ 60) (hb:0 < b) (hb2:b < 1073741824) {m:Mem}:Fn X (D + 1) "_divmod_pos" m [.int a,.int b] (.tup [.int (a / b:Nat),.int (a % b:Nat)]) m:=by
  obtain ⟨D,rfl⟩:∃ d,D = d + 1:=⟨D - 1,by lia⟩
  have hD4:4≤D + 1:=by exact dA hD rfl
  have H:=dmP ha hb hb2
  have hlen:(digsF (Builtin.Int.intBits (b:Int)) (cntF a (Builtin.Int.intBits (b:Int))) a).reverse.length = cntF a (Builtin.Int.intBits (b:Int)):=by rw [List.length_reverse,digs_len]
  have t:=dm_loop kn (D:=D) (dC hD rfl) hb hb2 H.n2 H.bn (l:=(digsF (Builtin.Int.intBits (b:Int)) (cntF a (Builtin.Int.intBits (b:Int))) a).reverse) (m:=m) (fun d hd=>digs_lt _ _ a d (List.mem_reverse.mp hd)) (Nat.le_trans (Nat.le_of_eq hlen) H.c64) (by rw [hlen]; exact H.nc)
  rw [hlen,← H.q,← H.r,List.reverse_reverse] at t
  exact (kn.fn 9 67 rfl).mk' kn.lim hD4 (ps:=["a","b"]) [] (by rfl) (fun zz zz zz zz zz zz=>rfl) rfl ⟨.bits,op_int2digits kn (dC hD rfl) H.n1 (by have:=H.n2; exact dB this rfl) H.c64 (by have:=H.nc; exact dB this rfl),t.weak (Sub0.cons rfl (.cons rfl (.cons rfl (.cons rfl (.cons rfl .nil)))))⟩
end
section
open PySem PySem.W PyProof.Rows PySem.Calls PySem.SeqAt
noncomputable abbrev dmAV (a b:Int):AV:=.tup [.int (a.fdiv b),.int (a.fmod b)]
private theorem KeptA.two {m:Mem} {q r q' r':Int} (h1:q = q') (h2:r = r'):KeptA m (.tup [.int q,.int r]) (.tup [.int q',.int r']) m:=by
  subst h1; subst h2
  exact .same fun zz=>.tupL (.cons (.int _) (.cons (.int _) .nil))
private theorem dm_not {a b:Int} (hb:0 < b):a.fdiv b = -((-a - 1).fdiv b) - 1∧a.fmod b = b + (-((-a - 1).fmod b) - 1):=by
  have h6:=(Int.fdiv_fmod_unique (a:=-a - 1) (b:=b) (r:=(-a - 1).fmod b) (q:=(-a - 1).fdiv b) hb).mp ⟨rfl,rfl⟩
  refine (Int.fdiv_fmod_unique hb).mpr ⟨?_,by omega,by omega⟩
  have e1:b * (-((-a - 1).fdiv b) - 1) = -(b * (-a - 1).fdiv b) - b:=by rw [Int.mul_sub,Int.mul_neg,Int.mul_one]
  rw [e1]; omega
private theorem dm_main {X:Amb} {D:Nat} (kn:KnC X) (hD:15≤D) {a b:Int} (h1:a.natAbs < 2 ^ 60) (h2:b ≠ 0) (h3:b.natAbs < 1073741824) {m:Mem} (r1:b < 0→Fn X D "int_divmod" m [.int (-a),.int (-b)] (dmAV (-a) (-b)) m) (r2:0 < b→a < 0→Fn X D "int_divmod" m [.int (-a - 1),.int b] (dmAV (-a - 1) b) m) :
    Fn X (D + 1) "int_divmod" m [.int a,.int b] (dmAV a b) m:=by
  obtain ⟨D,rfl⟩:∃ d,D = d + 1:=⟨D - 1,by lia⟩
  have hD4:4≤D + 1:=by exact dA hD rfl
  refine (kn.fn 10 74 rfl).mk' kn.lim hD4 (ps:=["a","b"]) [] (by rfl) (fun zz zz zz zz zz zz=>rfl) rfl (.d (fun h=>absurd h h2) fun zz=>.d (fun h=>?_) fun h=>.d (fun ha=>?_) fun ha=>?_)
  · exact W.tup (G:=⟨X,D + 1,_,_⟩) (xs:=["q","r"]) hD4 rfl rfl (.cons rfl (.cons rfl .nil)) ⟨.neg,.neg,r1 h,.mk rfl ⟨.neg,.two (Int.neg_fdiv_neg _ _).symm (by rw [Int.neg_fmod_neg,Int.neg_neg])⟩⟩
  · have hb:0 < b:=by lia
    exact W.tup (G:=⟨X,D + 1,_,_⟩) (xs:=["q","r"]) hD4 rfl rfl (.cons rfl (.cons rfl .nil)) ⟨.inv,r2 hb ha,.mk rfl ⟨.inv,.inv,.two (dm_not hb).1 (dm_not hb).2⟩⟩
  · obtain ⟨a,rfl⟩:=Int.eq_ofNat_of_zero_le (show 0≤a by lia)
    obtain ⟨b,rfl⟩:=Int.eq_ofNat_of_zero_le (show 0≤b by lia)
    exact ⟨op_divmod_pos kn (dC hD rfl) h1 (by lia) h3,.two (Int.fdiv_eq_ediv_of_nonneg _ (Int.natCast_nonneg _)) (Int.fmod_eq_emod_of_nonneg _ (Int.natCast_nonneg _))⟩
private theorem op_divmod {X:Amb} {D:Nat} (kn:KnC X) (hD:18≤D) {a b:Int} (h1:a.natAbs < 2 ^ 60) (h2:b ≠ 0) (h3:b.natAbs < 1073741824) {m:Mem}:Fn X (D + 1) "int_divmod" m [.int a,.int b] (dmAV a b) m:=by
  obtain ⟨D,rfl⟩:∃ d,D = d + 2:=⟨D - 2,by lia⟩
  have p2:∀ {a b:Int},a.natAbs < 2 ^ 60→0 < b→b.natAbs < 1073741824→Fn X (D + 2) "int_divmod" m [.int a,.int b] (dmAV a b) m:=fun h1 h2 h3 =>
    dm_main kn (by lia) h1 (by lia) h3 (fun h=>by omega) fun zz ha=>dm_main kn (dC hD rfl) (by omega) (by lia) h3 (fun h=>by omega) fun zz h=>by omega
  exact dm_main kn (dA hD rfl) h1 h2 h3 (fun h=>p2 (by (clear h h3 h2; omega)) (by lia) (by omega)) fun hb ha=>p2 (by lia) hb h3
end
section
open PySem PySem.W PyProof.Rows PySem.Calls PySem.SeqAt
noncomputable def bisGo (p:Nat→Bool):Nat→Nat→Nat→Nat
  | 0,lo,_=>lo
  | n + 1,lo,hi=>if lo < hi then (if p ((lo + hi) / 2) then bisGo p n lo ((lo + hi) / 2) else bisGo p n ((lo + hi) / 2 + 1) hi) else lo
structure BisI (p:Nat→Bool) (N r:Nat) (n:Nat) (s:Nat × Nat):Prop where
  a:s.1≤s.2
  b:s.2≤N
  c:s.2 - s.1 < 2 ^ n
  e:bisGo p n s.1 s.2 = r
private theorem half {l h N:Nat} (hl:l < h) (c:h - l < N * 2):l≤(l + h) / 2∧(l + h) / 2 < h∧(l + h) / 2 - l < N∧h - ((l + h) / 2 + 1) < N:=by
  have h1:=Nat.div_mul_le_self (l + h) 2
  have h2:l + h < (l + h) / 2 * 2 + 2:=Nat.lt_div_mul_add (by decide)
  generalize (l + h) / 2 = m at h1 h2
  have c:=(Nat.sub_lt_iff_lt_add (Nat.le_of_lt hl)).mp c
  have q:l≤m:=by (clear c; omega)
  have q2:m < h:=by (clear c h2 q; omega)
  exact ⟨q,q2,(Nat.sub_lt_iff_lt_add q).mpr (by (clear h2 q q2 hl; omega)),(Nat.sub_lt_iff_lt_add q2).mpr (by (clear h1 q q2 hl; omega))⟩
private theorem bis_step {p:Nat→Bool} {N r n l h:Nat} (I:BisI p N r n (l,h)) (hl:l < h):∃ j,j + 1 = n∧(l + h) / 2 < N∧(p ((l + h) / 2) = true→BisI p N r j (l,(l + h) / 2))∧(p ((l + h) / 2) = false→BisI p N r j ((l + h) / 2 + 1,h)):=by
  have hb:h≤N:=I.b
  have hc:h - l < 2 ^ n:=I.c
  have he:bisGo p n l h = r:=I.e
  cases n with
  | zero=>exact absurd hc (Nat.not_lt.mpr (Nat.sub_pos_of_lt hl))
  | succ n =>
    unfold bisGo at he
    rw [if_pos hl] at he
    obtain ⟨q1,q2,q3,q4⟩:=half hl hc
    refine ⟨n,rfl,Nat.lt_of_lt_of_le q2 hb,fun q=>⟨q1,Nat.le_of_lt (Nat.lt_of_lt_of_le q2 hb),q3,?_⟩,fun q=>⟨q2,hb,q4,?_⟩⟩
    · rw [if_pos q] at he; exact he
    · rw [if_neg (by rw [q]; exact Bool.false_ne_true)] at he; exact he
private theorem bis_end {p:Nat→Bool} {N r n l h:Nat} (I:BisI p N r n (l,h)) (hl:¬ l < h):l = r:=by
  have he:bisGo p n l h = r:=I.e
  cases n with
  | zero=>exact he
  | succ n=>unfold bisGo at he; rw [if_neg hl] at he; exact he
private theorem bis_mid (l h:Nat):((l:Int) + h).fdiv 2 = (((l + h) / 2:Nat):Int):=by
  rw [Int.fdiv_eq_ediv_of_nonneg _ (by decide)]; rfl
structure Arr (X:Amb) (D:Nat) (m:Mem) (av:AV) (N:Nat) (g:Nat→Int):Prop where
  len:Call X D (opB "len") m [av] (.int N) m
  at':∀ i,i < N→Sub X D m av (.int (i:Nat)) (.int (g i))
noncomputable def bisL (av kv:AV) (x:Int) (s:Nat × Nat):Lc:=bd "lo" (.int s.1) (bd "hi" (.int s.2) (bd "a" av (bd "x" (.int x) (bd "key" kv []))))
private theorem op_bisR {X:Amb} {D:Nat} (kn:KnB X) (hD:4≤D) {m:Mem} {av:AV} {N:Nat} {g:Nat→Int} {x:Int} (A:Arr X D m av N g) (hN:N < 2 ^ 12):Fn X (D + 1) "bisect_right" m [av,.int x] (.int (bisGo (fun i=>decide (x < g i)) 12 0 N:Nat)) m:=by
  refine kn.bR.two kn.lim hD (by rfl) (fun h zz zz zz zz zz zz=>kp_binds h fun zz=>by rfl) (.f rfl ⟨.isNN,.t rfl ⟨.b (kn.bu "len" _ rfl) A.len,.isNN,.t rfl ?_⟩⟩)
  refine W.whileW (G:=⟨X,D,_,[]⟩) hD (bisL av .none x) (fun zz=>m) (BisI (fun i=>decide (x < g i)) N (bisGo (fun i=>decide (x < g i)) 12 0 N)) 12 (.mk (0,N) ⟨Nat.zero_le _,Nat.le_refl _,hN,rfl⟩ rfl (.rf rfl)) ?_
  rintro n ⟨l,h⟩ I
  by_cases hl:l < h
  · obtain ⟨j,rfl,h1,h2,h3⟩:=bis_step I hl
    have e:=bis_mid l h
    have hs:Sub X D m av (.int (((l:Int) + h).fdiv 2)) (.int (g ((l + h) / 2))):=e.symm ▸ A.at' _ h1
    refine .go ⟨decide_eq_true (Int.ofNat_lt.mpr hl),.div (by decide) (by decide),hs,.d (fun q=>?_) fun q=>?_⟩
    · exact ⟨j,Nat.lt_succ_self _,.mk (l,(l + h) / 2) (h2 (decide_eq_true q)) rfl (.cons rfl (.cons (congrArg (fun z=>some (AV.int z)) e) (.cons rfl (.cons rfl (.cons rfl .nil)))))⟩
    · exact ⟨j,Nat.lt_succ_self _,.mk ((l + h) / 2 + 1,h) (h3 (decide_eq_false q)) rfl (.cons (congrArg (fun z=>some (AV.int (z + 1))) e) (.cons rfl (.cons rfl (.cons rfl (.cons rfl .nil)))))⟩
  · cases bis_end I hl
    exact .no ⟨decide_eq_false (fun q=>hl (Int.ofNat_lt.mp q)),.mk⟩
end
section
open PySem PySem.W PyProof.Rows PySem.Calls PySem.SeqAt
section
variable {X:Amb} {D:Nat} {m m0 m1:Mem} {av:AV} {N:Nat} {g ks:Nat→Int} {x:Int} {f:Addr} {sc:Names} {L:Lc} {p pos kp:Pos} {e ke:Expr} {es:List Expr}
end
end
section
open PySem PySem.W PyProof.Rows PySem.Calls PySem.SeqAt
noncomputable def sgAV (c:Nat):AV:=.str [c]
noncomputable def lexNs (ln:Int) (i p:Nat):List (Str × AV):=[("lineno",.int ln),("instream",.strm lamRead i),("whitespace",.str [10,9,13,32]),("pushback",.mref p)]
structure LexAt (mem:Mem) (j:Nat) (ln:Int) (i p:Nat) (cs:List Nat) (ts:List (List Nat)):Prop where
  ns:mem[j]? = some (.ns (lexNs ln i p))
  hcs:mem[i]? = some (.lst (cs.map sgAV))
  hts:mem[p]? = some (.lst (ts.map .str))
  ij:i ≠ j
  pj:p ≠ j
  ip:i ≠ p
  ok:okS cs
  sz:cs.length≤100000
  tz:ts.length≤100000
noncomputable def rcMem (mem:Mem) (j:Nat) (ln:Int) (i p:Nat):List Nat→Mem
  | []=>mem
  | c :: r=>if c = 10 then (mem.set i (.lst (r.map sgAV))).set j (.ns (lexNs (ln + 1) i p)) else mem.set i (.lst (r.map sgAV))
section
variable {X:Amb} {D:Nat} {m:Mem} {j i p:Nat} {ln:Int} {cs:List Nat} {ts:List (List Nat)}
private theorem op_rc (kn:KnL X) (hD:5≤D) (L:LexAt m j ln i p cs ts):CallC X (D + 1) 116 m [.inst 133 j] (.str (cs.take 1)) (rcMem m j ln i p cs):=by
  obtain ⟨D,rfl⟩:∃ d,D = d + 1:=⟨D - 1,by lia⟩
  have hD4:4≤D + 1:=by exact Nat.le_of_lt hD
  obtain ⟨mN,cl,lx⟩:=kn.cls
  refine kn.mr.methC kn.lim hD4 (ps:=["self"]) [] (by rfl) (fun zz zz zz zz zz=>rfl) rfl ?_
  cases cs with
  | nil=>exact .mk (.attr cl lx.instream lo_instream (.var rfl) L.ns rfl trivial fun zz=>rfl) ⟨.read isRead1 kn.lim (dC hD rfl) (.none L.hcs),.eqS okS_nil (okS_1 (by decide)) hD4,.d (fun h=>nomatch h) fun zz=>.mk⟩
  | cons c r =>
    have hz:(r.map sgAV).length≤2 ^ 23:=by have:=L.sz; rw [List.length_cons] at this; rw [List.length_map]; exact dD this rfl
    refine .mk (.attr cl lx.instream lo_instream (.var rfl) L.ns rfl trivial fun zz=>rfl) ⟨.read isRead1 kn.lim (dC hD rfl) (.some L.hcs hz rfl),.eqS (okS_1 (L.ok c List.mem_cons_self)) (okS_1 (by decide)) hD4,.d (fun h=>?_) fun h=>?_⟩
    · have hc:c = 10:=(List.cons.inj h).1
      have hns:(m.set i (.lst (r.map sgAV)))[j]? = some (.ns (lexNs ln i p)):=by rw [List.getElem?_set_ne L.ij]; exact L.ns
      have e:rcMem m j ln i p (c :: r) = (m.set i (.lst (r.map sgAV))).set j (.ns (lexNs (ln + 1) i p)):=if_pos hc
      rw [e]
      exact W.augAttr cl lx.lineno lo_lineno (.var rfl) hns rfl trivial .int .iadd hns (by show 4≤1000; decide) (.nil .mk)
    · have e:rcMem m j ln i p (c :: r) = m.set i (.lst (r.map sgAV)):=if_neg fun q=>h (congrArg (fun z=>[z]) q)
      rw [e]
      exact .mk
private theorem op_push (kn:KnL X) (hD:4≤D) (L:LexAt m j ln i p cs ts) {t:List Nat}:Call X (D + 1) (opF 130) m [.inst 133 j,.str t] .none (m.set p (.lst ((ts++[t]).map .str))):=by
  obtain ⟨mN,cl,lx⟩:=kn.cls
  refine kn.mp.meth kn.lim hD (ps:=["self","token"]) [] (by rfl) (fun zz zz zz zz zz zz=>rfl) rfl ?_
  exact .mk (.attr cl lx.pushback lo_pushback (.var rfl) L.ns rfl trivial fun zz=>rfl) ⟨.append L.hts L.hts (by have:=L.tz; rw [List.length_map]; exact dB this rfl) (by rw [List.map_append]; rfl),.mk .mk⟩
private theorem LexAt.lt (L:LexAt m j ln i p cs ts):j < m.length∧i < m.length∧p < m.length :=
  ⟨(List.getElem?_eq_some_iff.mp L.ns).1,(List.getElem?_eq_some_iff.mp L.hcs).1,(List.getElem?_eq_some_iff.mp L.hts).1⟩
end
end
section
open PySem PySem.W PyProof.Rows PySem.Calls PySem.SeqAt
noncomputable def gTok (z:Nat→Bool):List Nat→List Nat→List Nat × List Nat × Bool
  | tok,[]=>(tok,[],true)
  | tok,c :: r=>if z c = true then (tok,r,false) else if c = 92 then (match r with
    | []=>(tok,[],true)
    | d :: r'=>gTok z (tok++[d]) r') else gTok z (tok++[c]) r
private theorem gTok_nil (z:Nat→Bool) (tok:List Nat):gTok z tok [] = (tok,[],true):=by rw [gTok.eq_def]
private theorem gTok_cons (z:Nat→Bool) (tok:List Nat) (c:Nat) (r:List Nat):gTok z tok (c :: r) = if z c = true then (tok,r,false) else gTok z (tok++if c = 92 then r.take 1 else [c]) (if c = 92 then r.drop 1 else r):=by
  rw [gTok.eq_def]
  dsimp only
  by_cases hz:z c = true
  · rw [if_pos hz,if_pos hz]
  · rw [if_neg hz,if_neg hz]
    by_cases hc:c = 92
    · simp only [if_pos hc]
      rcases r with _ | ⟨d,r'⟩
      · simp only [List.take_nil,List.append_nil,List.drop_nil,gTok_nil]
      · rfl
    · simp only [if_neg hc]
noncomputable def wsB (c:Nat):Bool:=decide (c∈[10,9,13,32])
noncomputable def qtB (c:Nat):Bool:=decide (c = 34)
noncomputable def tokF:List Nat→List Nat × List Nat × Bool
  | []=>([],[],true)
  | c :: r=>if wsB c = true then tokF r else if c = 34 then gTok qtB [] r else if c = 92 then (match r with
    | []=>([],[],true)
    | d :: r'=>gTok wsB [d] r') else gTok wsB [c] r
noncomputable def lxM (mem:Mem) (j:Nat) (L:Int) (i p:Nat) (e:Bool) (cs:List Nat):Mem:=((mem.set i (.lst (cs.map sgAV))).set j (.ns (lexNs (L - (cs.count 10:Nat)) i p)))++[.cit (if e then none else some (116,133,j))]
section
variable {mem:Mem} {j i p:Nat} {L:Int} {ts:List (List Nat)}
structure LxOk (mem:Mem) (j i p:Nat) (ts:List (List Nat)):Prop where
  lj:j < mem.length
  li:i < mem.length
  hts:mem[p]? = some (.lst (ts.map .str))
  ij:i ≠ j
  pj:p ≠ j
  ip:i ≠ p
  tz:ts.length≤100000
private theorem lxM_at (o:LxOk mem j i p ts) {e:Bool} {cs:List Nat} (hc:okS cs) (hz:cs.length≤100000):LexAt (lxM mem j L i p e cs) j (L - (cs.count 10:Nat)) i p cs ts:=by
  have h1:=o.lj; have h2:=o.li
  have h3:=(List.getElem?_eq_some_iff.mp o.hts).1
  refine ⟨?_,?_,?_,o.ij,o.pj,o.ip,hc,hz,o.tz⟩ <;> unfold lxM
  · rw [List.getElem?_append_left (by simpa using h1),List.getElem?_set_self (by simpa using h1)]
  · rw [List.getElem?_append_left (by simpa using h2),List.getElem?_set_ne o.ij.symm,List.getElem?_set_self h2]
  · rw [List.getElem?_append_left (by simpa using h3),List.getElem?_set_ne o.pj.symm,List.getElem?_set_ne o.ip]; exact o.hts
private theorem lxM_rc (o:LxOk mem j i p ts) {e:Bool} {cs:List Nat}:rcMem (lxM mem j L i p e cs) j (L - (cs.count 10:Nat)) i p cs = lxM mem j L i p e (cs.drop 1):=by
  have h1:=o.lj; have h2:=o.li
  rcases cs with _ | ⟨c,r⟩
  · rfl
  · simp only [List.drop_succ_cons,List.drop_zero]
    have key:(lxM mem j L i p e (c :: r)).set i (.lst (r.map sgAV)) = ((mem.set i (.lst (r.map sgAV))).set j (.ns (lexNs (L - ((c :: r).count 10:Nat)) i p)))++[.cit (if e then none else some (116,133,j))]:=by
      unfold lxM
      rw [List.set_append_left _ _ (by simpa using h2),List.set_comm _ _ o.ij.symm,List.set_set]
    by_cases hc:c = 10
    · subst hc
      rw [show rcMem (lxM mem j L i p e (10 :: r)) j (L - ((10 :: r).count 10:Nat)) i p (10 :: r) = ((lxM mem j L i p e (10 :: r)).set i (.lst (r.map sgAV))).set j (.ns (lexNs (L - ((10 :: r).count 10:Nat) + 1) i p)) from (by simp only [rcMem,if_true]),key,List.set_append_left _ _ (by simpa using h1),List.set_set]
      have:L - ((10 :: r).count 10:Nat) + 1 = L - (r.count 10:Nat):=by simp only [List.count_cons_self]; lia
      rw [this]; rfl
    · rw [show rcMem (lxM mem j L i p e (c :: r)) j (L - ((c :: r).count 10:Nat)) i p (c :: r) = (lxM mem j L i p e (c :: r)).set i (.lst (r.map sgAV)) from if_neg hc,key]
      rw [List.count_cons_of_ne (by simpa using hc)]; rfl
private theorem lxM_cit {e:Bool} {cs:List Nat}:(lxM mem j L i p e cs)[mem.length]? = some (.cit (if e then none else some (116,133,j))):=by
  unfold lxM
  rw [List.getElem?_append_right (by simp)]; simp
private theorem lxM_end:(lxM mem j L i p false []).set mem.length (.cit none) = lxM mem j L i p true []:=by
  unfold lxM
  rw [List.set_append_right _ _ (by simp)]; simp
end
section
variable {X:Amb} {D:Nat} {mem:Mem} {j i p:Nat} {L:Int} {ts:List (List Nat)}
private theorem rc_lx (kn:KnL X) (hD:5≤D) (o:LxOk mem j i p ts) {e:Bool} {cs:List Nat} (hc:okS cs) (hz:cs.length≤100000):CallC X (D + 1) 116 (lxM mem j L i p e cs) [.inst 133 j] (.str (cs.take 1)) (lxM mem j L i p e (cs.drop 1)) :=
  lxM_rc o (e:=e) ▸ op_rc kn hD (lxM_at o hc hz)
private theorem next_lx (kn:KnL X) (hD:5≤D) (o:LxOk mem j i p ts) {c:Nat} {r:List Nat} (hc:okS (c :: r)) (hz:(c :: r).length≤100000):NextK X (D + 1) 116 (lxM mem j L i p false (c :: r)) mem.length (some (.str [c])) (lxM mem j L i p false r) :=
  .some lxM_cit (rc_lx kn hD o hc hz) lxM_cit nofun
private theorem next_lx0 (kn:KnL X) (hD:5≤D) (o:LxOk mem j i p ts):NextK X (D + 1) 116 (lxM mem j L i p false []) mem.length none (lxM mem j L i p true []) :=
  .last lxM_cit (rc_lx kn hD o okS_nil (Nat.zero_le _)) lxM_cit lxM_end
private theorem next_lx1 {cs:List Nat}:NextK X D 116 (lxM mem j L i p true cs) mem.length none (lxM mem j L i p true cs):=.done lxM_cit
end
end
section
open PySem PySem.W PyProof.Rows PySem.Calls PySem.SeqAt
noncomputable def gtL (j J:Nat) (tok:List Nat):Lc:=bd "token" (.str tok) (bd "fiter" (.mref J) (bd "self" (.inst 133 j) []))
section
variable {X:Amb} {D:Nat} {mem:Mem} {j i p:Nat} {Ln:Int} {ts:List (List Nat)} {sc:Names} {P:RP} {body rest:List Stmt} {pp px pi:Pos}
noncomputable def GtTurn (X:Amb) (D:Nat) (sc:Names) (mem:Mem) (j i p:Nat) (Ln:Int) (z:Nat→Bool) (body:List Stmt):Prop :=
  ∀ (tok:List Nat) (c:Nat) (r:List Nat) (Lc0:Lc) (P':RP),Sub0 (gtL j mem.length tok) Lc0→okS (c :: r)→tok.length + (c :: r).length≤100000 →
    (z c = true→∀ L',P' (.ret (.str tok)) L' (lxM mem j Ln i p false r))→(z c = false→∀ L',Sub0 (gtL j mem.length (tok++if c = 92 then r.take 1 else [c])) L'→P' .next L' (lxM mem j Ln i p false (if c = 92 then r.drop 1 else r))) →
    W X D sc body (bd "ch" (.str [c]) Lc0) (lxM mem j Ln i p false r) P'
private theorem gt_loop (kn:KnL X) (hD:5≤D) (o:LxOk mem j i p ts) {z:Nat→Bool} (hx:okB sc "ch" = true) (hb:GtTurn X (D + 2) sc mem j i p Ln z body) {cs tok:List Nat} {Lc0:Lc} (hL:Sub0 (gtL j mem.length tok) Lc0) (hc:okS cs) (hz:tok.length + cs.length≤100000)
    (hret:(gTok z tok cs).2.2 = false→∀ L',P (.ret (.str (gTok z tok cs).1)) L' (lxM mem j Ln i p false (gTok z tok cs).2.1)) (hnext:(gTok z tok cs).2.2 = true→∀ L',Sub0 (gtL j mem.length (gTok z tok cs).1) L'→W X (D + 2) sc rest L' (lxM mem j Ln i p true (gTok z tok cs).2.1) P) :
    W X (D + 2) sc (.For (.Name "ch" px) (.Name "fiter" pi) body [] pp :: rest) Lc0 (lxM mem j Ln i p false cs) P:=by
  generalize hT:gTok z tok cs = T at hret hnext
  refine W.forC kn.mr (.var (hL _ _ rfl)) lxM_cit hx (fun k L m=>∃ tok cs,cs.length < k∧m = lxM mem j Ln i p false cs∧Sub0 (gtL j mem.length tok) L∧gTok z tok cs = T∧okS cs∧tok.length + cs.length≤100000) (cs.length + 1) ⟨tok,cs,Nat.lt_succ_self _,rfl,hL,hT,hc,hz⟩ (fun k L m h=>?_) fun zz zz=>rfl
  obtain ⟨tok,cs,hk,rfl,hL,rfl,hc,hz⟩:=h
  cases cs with
  | nil =>
    rw [gTok_nil] at hnext
    exact .stop (next_lx0 kn hD o) (hnext rfl L hL)
  | cons c r =>
    have hr:okS r:=fun d hd=>hc d (List.mem_cons_of_mem _ hd)
    rw [gTok_cons] at hret hnext
    rw [List.length_cons] at hk
    have hz0:=hz
    rw [List.length_cons] at hz
    refine .go (next_lx kn hD o hc (by rw [List.length_cons]; lia)) (hb tok c r L _ hL hc hz0 (fun q L'=>?_) fun q L' hL'=>?_)
    · rw [if_pos q] at hret
      exact hret rfl L'
    · have e:gTok z tok (c :: r) = gTok z (tok++if c = 92 then r.take 1 else [c]) (if c = 92 then r.drop 1 else r):=by
        rw [gTok_cons,q,if_neg Bool.false_ne_true]
      refine ⟨(if c = 92 then r.drop 1 else r).length + 1,?_,_,_,Nat.lt_succ_self _,rfl,hL',e.symm,?_,?_⟩
      · split
        · rw [List.length_drop]; lia
        · exact hk
      · split
        · exact okS_drop hr
        · exact hr
      · split
        · rw [List.length_append,Nat.add_assoc,← List.length_append,List.take_append_drop]; lia
        · rw [List.length_append]; show _ + 1 + _≤_; lia
end
end
section
open PySem PySem.W PyProof.Rows PySem.Calls PySem.SeqAt
noncomputable def forB (l:List Stmt) (k:Nat):List Stmt:=match l[k]? with
  | some (.For _ _ b _ _)=>b
  | _=>[]
set_option backward.match.sparseCases false in
noncomputable def ifB (l:List Stmt) (k:Nat):List Stmt × List Stmt:=match l[k]? with
  | some (.If _ a b _)=>(a,b)
  | _=>([],[])
noncomputable def gtOuter:List Stmt:=forB (fdAt clsBody 2).body 3
noncomputable def gtQuote:List Stmt:=forB (ifB gtOuter 1).1 0
noncomputable def gtPlain:List Stmt:=forB (ifB gtOuter 1).2 2
noncomputable abbrev gtSc:Names:=(fdAt clsBody 2).scope.names
private theorem Sub0.bd {A B:Lc} {x:Str} {v:AV} (h:Sub0 A B):Sub0 (Mine.bd x v A) (Mine.bd x v B):=fun y w q=>by
  show List.lookup y ((x,v) :: B) = _
  rcases lookup_set q with ⟨e1,e2⟩ | ⟨hn,e⟩
  · rw [e1,e2]; exact List.lookup_cons_self
  · rw [List.lookup_cons,beq_eq_false_iff_ne.mpr hn]; exact h y w e
section
variable {X:Amb} {D:Nat} {mem:Mem} {j i p:Nat} {Ln:Int} {ts:List (List Nat)}
private theorem gt_quote (kn:KnL X) (hD:5≤D) (o:LxOk mem j i p ts):GtTurn X (D + 2) gtSc mem j i p Ln qtB gtQuote:=fun tok c r Lc0 P' hL hc hz h1 h2=>by
  have hD4:4≤D + 2:=by exact dE hD rfl
  obtain ⟨mN,cl,lx⟩:=kn.cls
  rw [List.length_cons] at hz
  have hr:okS r:=fun d hd=>hc d (List.mem_cons_of_mem _ hd)
  have hch:okS [c]:=okS_1 (hc c List.mem_cons_self)
  have A:=lxM_at (L:=Ln) (e:=false) o hr (by lia)
  refine W.weak (L':=bd "ch" (.str [c]) (gtL j mem.length tok)) (wpS_ok (G:=⟨X,D + 2,gtSc,[]⟩) (k:=40) (n:=40) hD4 ⟨.eqS hch (okS_1 (by decide)) hD4,.d (fun h=>?_) fun h=>⟨.eqS hch (okS_1 (by decide)) hD4,.d (fun h9=>?_) fun h9=>?_⟩⟩) hL.bd
  · exact h1 (decide_eq_true (List.cons.inj h).1) _
  · have hq:qtB c = false:=decide_eq_false fun e=>h (congrArg (fun z=>[z]) e)
    have h9:c = 92:=(List.cons.inj h9).1
    have h2:=h2 hq
    rw [if_pos h9,if_pos h9] at h2
    exact ⟨.inst cl lx.rc kn.mr lo_rc A.ns rfl (rc_lx (D:=D + 1) kn (Nat.le_succ_of_le hD) o hr (by lia)).to,.iaddS (by rw [List.length_take]; lia),h2 _ (.cons rfl (.cons rfl (.cons rfl .nil)))⟩
  · have hq:qtB c = false:=decide_eq_false fun e=>h (congrArg (fun z=>[z]) e)
    have h9:¬ c = 92:=fun e=>h9 (congrArg (fun z=>[z]) e)
    have h2:=h2 hq
    rw [if_neg h9,if_neg h9] at h2
    exact ⟨.iaddS (by show _ + 1≤_; lia),h2 _ (.cons rfl (.cons rfl (.cons rfl .nil)))⟩
private theorem gt_plain (kn:KnL X) (hD:5≤D) (o:LxOk mem j i p ts):GtTurn X (D + 2) gtSc mem j i p Ln wsB gtPlain:=fun tok c r Lc0 P' hL hc hz h1 h2=>by
  have hD4:4≤D + 2:=by exact dE hD rfl
  obtain ⟨mN,cl,lx⟩:=kn.cls
  rw [List.length_cons] at hz
  have hr:okS r:=fun d hd=>hc d (List.mem_cons_of_mem _ hd)
  have hch:okS [c]:=okS_1 (hc c List.mem_cons_self)
  have A:=lxM_at (L:=Ln) (e:=false) o hr (by lia)
  refine W.weak (L':=bd "ch" (.str [c]) (gtL j mem.length tok)) (wpS_ok (G:=⟨X,D + 2,gtSc,[]⟩) (k:=40) (n:=40) hD4 (.mk (.attr cl lx.white lo_white (.var rfl) A.ns rfl trivial fun zz=>rfl) ⟨.inS,.d (fun h=>?_) fun h=>⟨.eqS hch (okS_1 (by decide)) hD4,.d (fun h9=>?_) fun h9=>?_⟩⟩)) hL.bd
  · exact h1 (decide_eq_true h) _
  · have h9:c = 92:=(List.cons.inj h9).1
    have h2:=h2 (decide_eq_false h)
    rw [if_pos h9,if_pos h9] at h2
    exact ⟨.inst cl lx.rc kn.mr lo_rc A.ns rfl (rc_lx (D:=D + 1) kn (Nat.le_succ_of_le hD) o hr (by lia)).to,.iaddS (by rw [List.length_take]; lia),h2 _ (.cons rfl (.cons rfl (.cons rfl .nil)))⟩
  · have h9:¬ c = 92:=fun e=>h9 (congrArg (fun z=>[z]) e)
    have h2:=h2 (decide_eq_false h)
    rw [if_neg h9,if_neg h9] at h2
    exact ⟨.iaddS (by show _ + 1≤_; lia),h2 _ (.cons rfl (.cons rfl (.cons rfl .nil)))⟩
end
end
section
open PySem PySem.W PyProof.Rows PySem.Calls PySem.SeqAt
private theorem tokF_ws {c:Nat} {r:List Nat} (h:wsB c = true):tokF (c :: r) = tokF r:=by rw [tokF.eq_def]; exact if_pos h
private theorem tokF_qt {c:Nat} {r:List Nat} (h:¬ wsB c = true) (h2:c = 34):tokF (c :: r) = gTok qtB [] r:=by rw [tokF.eq_def]; exact (if_neg h).trans (if_pos h2)
private theorem tokF_pl {c:Nat} {r:List Nat} (h:¬ wsB c = true) (h2:¬ c = 34):tokF (c :: r) = gTok wsB (if c = 92 then r.take 1 else [c]) (if c = 92 then r.drop 1 else r):=by
  rw [tokF.eq_def]
  refine (if_neg h).trans ((if_neg h2).trans ?_)
  by_cases h9:c = 92
  · rw [if_pos h9,if_pos h9,if_pos h9]
    cases r with
    | nil=>exact (gTok_nil _ _).symm
    | cons d r=>rfl
  · rw [if_neg h9,if_neg h9,if_neg h9]
section
variable {X:Amb} {D:Nat} {mem:Mem} {j i p:Nat} {Ln:Int} {ts:List (List Nat)}
inductive GtO (mem:Mem) (j i p:Nat) (Ln:Int) (T:List Nat × List Nat × Bool) (k:Nat) (L:Lc) (m:Mem):Prop
  | run (cs:List Nat):Sub0 (gtL j mem.length []) L→m = lxM mem j Ln i p false cs→tokF cs = T→cs.length < k→okS cs→cs.length≤100000→GtO mem j i p Ln T k L m
  | fin (tok cs:List Nat):Sub0 (gtL j mem.length tok) L→m = lxM mem j Ln i p true cs→T = (tok,cs,true)→GtO mem j i p Ln T k L m
private theorem gt_outer (kn:KnL X) (hD:5≤D) (o:LxOk mem j i p ts) {cs:List Nat} (hc:okS cs) (hz:cs.length≤100000) {Lc0:Lc} (hL:Sub0 (gtL j mem.length []) Lc0):W X (D + 2) gtSc ((fdAt clsBody 2).body.drop 3) Lc0 (lxM mem j Ln i p false cs) (Ret (IsV (AV.str (tokF cs).1) (lxM mem j Ln i p (tokF cs).2.2 (tokF cs).2.1))):=by
  have hD4:4≤D + 2:=by exact dE hD rfl
  obtain ⟨mN,cl,lx⟩:=kn.cls
  generalize hT:tokF cs = T
  refine W.forC kn.mr (.var (hL _ _ rfl)) lxM_cit rfl (GtO mem j i p Ln T) (cs.length + 1) (.run cs hL rfl hT (Nat.lt_succ_self _) hc hz) (fun k L m h=>?_) fun zz zz=>rfl
  have ret:∀ {L':Lc} {tok:List Nat} {m':Mem},Sub0 (gtL j mem.length tok) L'→IsV (AV.str T.1) (lxM mem j Ln i p T.2.2 T.2.1) (AV.str tok) m'→W X (D + 2) gtSc ((fdAt clsBody 2).body.drop 4) L' m' (Ret (IsV (AV.str T.1) (lxM mem j Ln i p T.2.2 T.2.1))):=fun h1 h2=>.ret (.var (h1 _ _ rfl)) h2
  cases h with
  | fin tok cs hL hm hT=>subst hm; subst hT; exact .stop next_lx1 (ret hL .mk)
  | run cs hL hm hT hk hc hz =>
    subst hm
    cases cs with
    | nil=>subst hT; exact .stop (next_lx0 kn hD o) (ret hL .mk)
    | cons c r =>
      have hr:okS r:=fun d hd=>hc d (List.mem_cons_of_mem _ hd)
      have hch:okS [c]:=okS_1 (hc c List.mem_cons_self)
      have hz1:=hz
      rw [List.length_cons] at hz1 hk
      have A:=lxM_at (L:=Ln) (e:=false) o hr (Nat.le_of_lt hz)
      refine .go (next_lx kn hD o hc hz) (W.weak (L':=bd "ch" (.str [c]) (gtL j mem.length [])) (wpS_ok (G:=⟨X,D + 2,gtSc,[]⟩) (k:=40) (n:=40) hD4 (.mk (.attr cl lx.white lo_white (.var rfl) A.ns rfl trivial fun zz=>rfl) ⟨.inS,.d (fun h=>?_) fun h=>⟨.eqS hch (okS_1 (by decide)) hD4,.d (fun hq=>?_) fun hq=>?_⟩⟩)) hL.bd)
      · exact ⟨r.length + 1,by exact hk,.run r (.cons rfl (.cons rfl (.cons rfl .nil))) rfl ((tokF_ws (decide_eq_true h)).symm.trans hT) (Nat.lt_succ_self _) hr (Nat.le_of_lt hz)⟩
      · have e:=(tokF_qt (r:=r) (fun q=>h (of_decide_eq_true q)) (List.cons.inj hq).1).symm.trans hT
        subst e
        exact gt_loop kn hD o (tok:=[]) (z:=qtB) (body:=gtQuote) rfl (gt_quote kn hD o) (.cons rfl (.cons rfl (.cons rfl .nil))) hr (by rw [List.length_nil]; lia) (fun q L'=>by rw [q]; exact .mk) fun q L' hL'=>.nil ⟨0,by exact dA hk rfl,.fin _ _ hL' rfl (by rw [← q])⟩
      · have e:=(tokF_pl (r:=r) (fun q=>h (of_decide_eq_true q)) (fun q=>hq (congrArg (fun z=>[z]) q))).symm.trans hT
        refine ⟨.eqS hch (okS_1 (by decide)) hD4,.d (fun h9=>?_) fun h9=>?_⟩
        · have h9:c = 92:=(List.cons.inj h9).1
          rw [if_pos h9,if_pos h9] at e
          subst e
          refine ⟨.inst cl lx.rc kn.mr lo_rc A.ns rfl (rc_lx (D:=D + 1) kn (Nat.le_succ_of_le hD) o hr (Nat.le_of_lt hz)).to,.iaddS (by rw [List.length_nil,List.length_take]; lia),?_⟩
          exact gt_loop kn hD o (tok:=r.take 1) (cs:=r.drop 1) (z:=wsB) (body:=gtPlain) rfl (gt_plain kn hD o) (.cons rfl (.cons rfl (.cons rfl .nil))) (okS_drop hr) (by rw [List.length_take,List.length_drop]; lia) (fun q L'=>by rw [q]; exact .mk) fun q L' hL'=>.nil ⟨0,by exact dA hk rfl,.fin _ _ hL' rfl (by rw [← q])⟩
        · have h9:¬ c = 92:=fun e=>h9 (congrArg (fun z=>[z]) e)
          rw [if_neg h9,if_neg h9] at e
          subst e
          refine ⟨.iaddS (by show 0 + 1≤_; decide),?_⟩
          exact gt_loop kn hD o (tok:=[c]) (cs:=r) (z:=wsB) (body:=gtPlain) rfl (gt_plain kn hD o) (.cons rfl (.cons rfl (.cons rfl .nil))) hr (by show 1 + _≤_; lia) (fun q L'=>by rw [q]; exact .mk) fun q L' hL'=>.nil ⟨0,by exact dA hk rfl,.fin _ _ hL' rfl (by rw [← q])⟩
end
end
section
open PySem PySem.W PyProof.Rows PySem.Calls PySem.SeqAt
private theorem set_same {α:Type} {l:List α} {i:Nat} {x:α} (h:l[i]? = some x):l.set i x = l:=by
  obtain ⟨hi,e⟩:=List.getElem?_eq_some_iff.mp h
  subst e
  exact List.set_getElem_self hi
section
variable {X:Amb} {D:Nat} {m:Mem} {j i p:Nat} {ln:Int} {cs:List Nat} {ts:List (List Nat)}
private theorem lxM_start (L:LexAt m j ln i p cs ts):sn m (.cit (some (116,133,j))) = lxM m j (ln + (cs.count 10:Nat)) i p false cs:=by
  have h1:m.set i (.lst (cs.map sgAV)) = m:=set_same L.hcs
  have h2:m.set j (.ns (lexNs ln i p)) = m:=set_same L.ns
  unfold lxM
  rw [h1,Int.add_sub_cancel,h2]; rfl
private theorem LexAt.lx (L:LexAt m j ln i p cs ts):LxOk m j i p ts:=⟨L.lt.1,L.lt.2.1,L.hts,L.ij,L.pj,L.ip,L.tz⟩
private theorem op_gtPush (kn:KnL X) (hD:4≤D) {t:List Nat} (L:LexAt m j ln i p cs (t :: ts)):Call X (D + 1) (opF 123) m [.inst 133 j] (.str t) (m.set p (.lst (ts.map .str))):=by
  obtain ⟨mN,cl,lx⟩:=kn.cls
  have hz:=L.tz
  rw [List.length_cons] at hz
  have hz2:(ts.map AV.str).length≤2 ^ 23:=by rw [List.length_map]; exact dD hz rfl
  exact kn.mg.meth kn.lim hD (ps:=["self"]) [] (by rfl) (fun zz zz zz zz zz=>rfl) rfl (.mk (.attr cl lx.pushback lo_pushback (.var rfl) L.ns rfl trivial fun zz=>rfl) ⟨.mref L.hts (by rw [List.length_map,List.length_cons]; exact dB hz rfl),.t rfl (.mk (.attr cl lx.pushback lo_pushback (.var rfl) L.ns rfl trivial fun zz=>rfl) ⟨.pop0 L.hts L.hts hz2 rfl,.mk⟩)⟩)
private theorem op_gt (kn:KnL X) (hD:7≤D) (L:LexAt m j ln i p cs []):Call X (D + 1) (opF 123) m [.inst 133 j] (.str (tokF cs).1) (lxM m j (ln + (cs.count 10:Nat)) i p (tokF cs).2.2 (tokF cs).2.1):=by
  obtain ⟨D,rfl⟩:∃ d,D = d + 2:=⟨D - 2,by lia⟩
  have hD4:4≤D + 2:=by exact dA hD rfl
  obtain ⟨mN,cl,lx⟩:=kn.cls
  refine (kn.mg.callC (ps:=["self"]) kn.lim (cloOk (by rfl)) (fun zz zz zz zz zz=>rfl) rfl (.app (pre:=(fdAt clsBody 2).body.take 2) (rest:=(fdAt clsBody 2).body.drop 2) (wpS_ok (G:=⟨X,D + 2,gtSc,[]⟩) (k:=40) (n:=40) hD4 (.mk (.attr cl lx.pushback lo_pushback (.var rfl) L.ns rfl trivial fun zz=>rfl) ⟨.mref L.hts (Nat.zero_le _),.f rfl ?_⟩)))).to
  refine W.set (.iterM cl lx.rc kn.mr lo_rc (by rfl) rfl (kn.bu "iter" _ rfl) (fun zz=>rfl) (.cons (fun zz=>rfl) (.cons (fun zz=>rfl) .nil)) (fun zz=>rfl) (.var rfl) L.ns rfl) (noSwap_c rfl) rfl ?_
  rw [lxM_start L]
  exact gt_outer kn (dC hD rfl) L.lx L.ok L.sz (.cons rfl (.cons rfl (.cons rfl .nil)))
end
end
section
open PySem PySem.W PyProof.Rows PySem.Calls PySem.SeqAt
private theorem set_app_lt {α:Type} {l r:List α} {j:Nat} {x:α} (h:j < l.length):(l++r).set j x = l.set j x++r:=List.set_append_left _ _ h
private theorem IsV.of {α:Type} {v:α} {m m':Mem} (h:m' = m):IsV v m v m':=h ▸ .mk
private theorem ini_set {m:Mem} {j:Nat} {A B C F x:AObj} (h:j < m.length):(sn (((m.set j A).set j B).set j C) x).set j F = sn (m.set j F) x:=by
  unfold sn
  rw [set_app_lt (by simp only [List.length_set]; exact h),List.set_set,List.set_set,List.set_set]
private theorem ini_len {m:Mem} {j:Nat} {A B C:AObj}:(((m.set j A).set j B).set j C).length = m.length:=by simp only [List.length_set]
section
variable {X:Amb} {D:Nat} {m:Mem} {j i:Nat}
private theorem op_init (kn:KnL X) (hD:4≤D) (hj:m[j]? = some (.ns [])):CallC X (D + 1) 109 m [.inst 133 j,.strm lamRead i] .none (sn (m.set j (.ns (lexNs 1 i m.length))) (.lst [])):=by
  obtain ⟨mN,cl,lx⟩:=kn.cls
  have lj:j < m.length:=(List.getElem?_eq_some_iff.mp hj).1
  refine kn.mi'.methC kn.lim hD (ps:=["self","fp"]) [] (by rfl) (fun zz zz zz zz zz zz=>rfl) rfl ?_
  refine W.setAttr cl lx.lineno lo_lineno (noSwap_c rfl) .int (.var rfl) hj (by decide) (.setAttr cl lx.instream lo_instream (noSwap_c rfl) (.var rfl) (.var rfl) (List.getElem?_set_self lj) (by decide) (.setAttr cl lx.white lo_white (noSwap_c rfl) .str (.var rfl) (List.getElem?_set_self (by rw [List.length_set]; exact lj)) (by show 2≤1000; decide) (.setAttr cl lx.pushback lo_pushback (noSwap_c rfl) (.wp (G:=⟨X,D,_,[]⟩) (k:=40) hD .mk) (.var rfl) (l:=[("lineno",.int 1),("instream",.strm lamRead i),("whitespace",.str [10,9,13,32])]) ?_ (by show 3≤1000; decide) (.nil ?_))))
  · have:∀ {l:Mem} {x y:AObj},j < l.length→l[j]? = some x→(sn l y)[j]? = some x:=fun h e=>(List.getElem?_append_left h).trans e
    refine this (by simp only [List.length_set]; exact lj) (List.getElem?_set_self (by simp only [List.length_set]; exact lj))
  · exact .of ((ini_set lj).trans (congrArg (fun n=>sn (m.set j (.ns (lexNs 1 i n))) (.lst [])) ini_len))
end
end
section
open PySem PySem.W PyProof.Rows PySem.Calls PySem.SeqAt
section
variable {X:Amb} {D:Nat} {sc:Names} {L:Lc} {m m1 m2 m3:Mem} {M:Map}
private theorem Rds.tup {xs:List AV} {ds:List PyData} (h:RdsAll m xs ds):Rds m (.tup xs) (.tuple ds):=fun X s M v S r=>by
  cases r.i_tup with
  | mk a b=>obtain ⟨_,q⟩:=h X s M _ S b; exact ⟨_,.tuple (S.frz a) rfl rfl (by simpa using q)⟩
noncomputable def pP (x:Int × Int):PyData:=.tuple [.int x.1,.int x.2]
noncomputable def pA (x:Int × Int):AV:=.tup [.int x.1,.int x.2]
private theorem Rds.pair (x:Int × Int):Rds m (pA x) (pP x):=.tup (.cons .int (.cons .int .nil))
private theorem eqv_p (x y:Int × Int):PyData.eqv (pP x) (pP y) = decide (x = y):=by
  simp only [pP,PyData.eqv,PyData.eqvAll,Bool.and_true]
  rw [Bool.eq_iff_iff]; simp [Prod.ext_iff]
private theorem lay_p:∀ xs:List (Int × Int),PyData.canLayAll0 (xs.map pP) = true
  | []=>by simp [PyData.canLayAll0]
  | x :: r=>by simp only [List.map_cons,PyData.canLayAll0,lay_p r,Bool.and_true,PyData.canLay0,pP]
private theorem any_map {α:Type} [DecidableEq α] {f:α→PyData} (h:∀ x y,PyData.eqv (f x) (f y) = decide (x = y)) (a:α):∀ xs:List α,((xs.map f).any fun y=>PyData.eqv y (f a)) = decide (a∈xs)
  | []=>by simp
  | x :: r=>by
    rw [List.map_cons,List.any_cons,any_map h a r,h,← Bool.decide_or]
    exact decide_eq_decide.mpr ((or_congr eq_comm Iff.rfl).trans List.mem_cons.symm)
private theorem Bin.inPairs {x:Int × Int} {ps:List (Int × Int)}:Bin X D (compareOp .In) m (pA x) (.lst (ps.map pA)) (.bool (decide (x∈ps))):=fun A c v w R S r q Q E k=>by
  obtain ⟨_,h1⟩:=Rds.pair (m:=m) x X _ _ _ S r
  obtain ⟨_,h2⟩:=Rds.lst (RdsAll.map (fun x=>Rds.pair (m:=m) x) ps) X _ _ _ S q
  refine in_list_reads h2 h1 (lay_p ps) rfl ?_ ((any_map eqv_p x ps).trans (decide_eq_decide.mpr Iff.rfl) ▸ k _ _ (.now S (.bool _)))
  have:=R.2.2
  have hd:(pP x).depth≤4:=(by decide:(1:Nat)≤4)
  exact Nat.lt_of_le_of_lt (Nat.add_le_add_left (Nat.le_trans (Nat.min_le_right _ _) hd) _) (by lia)
private theorem Bin.inTupI {x:Int} {ns:List Int}:Bin X D (compareOp .In) m (.int x) (.tup (ns.map .int)) (.bool (decide (x∈ns))):=fun A c v w R S r q Q E k=>by
  obtain ⟨_,h1⟩:=Rds.int (m:=m) (i:=x) X _ _ _ S r
  obtain ⟨_,h2⟩:=Rds.tup (RdsAll.ints (m:=m) ns) X _ _ _ S q
  refine in_tuple_reads h2 h1 (lay_int ns) rfl ?_ ((any_map (f:=.int) (fun zz zz=>eqv_i) x ns).trans (decide_eq_decide.mpr Iff.rfl) ▸ k _ _ (.now S (.bool _)))
  have:=R.2.2
  exact Nat.lt_of_le_of_lt (Nat.add_le_add_left (Nat.min_le_right _ _) _) (by show A.units + 1 + 0 < _; lia)
noncomputable def chOp:CmpOp→Bool
  | .Lt=>true
  | .LtE=>true
  | _=>false
noncomputable def chF:Int→List CmpOp→List Int→Bool
  | a,op :: ops,b :: bs=>(c2 op a b == some true) && chF b ops bs
  | _,_,_=>true
inductive PEi (X:Amb) (D:Nat) (sc:Names) (L:Lc) (m:Mem):List Expr→List Int→Prop
  | nil:PEi X D sc L m [] []
  | cons {e:Expr} {i:Int} {es:List Expr} {is:List Int}:PE X D sc e L m (.int i) m→PEi X D sc L m es is→PEi X D sc L m (e :: es) (i :: is)
private theorem chCmp {op:CmpOp} (h:chOp op = true) (a b:Int):Bin X D (compareOp op) m (.int a) (.int b) (.bool (c2 op a b == some true)):=by
  cases op <;> first | cases h | skip
  · have:(c2 .Lt a b == some true) = decide (a < b):=by show (some (decide (a < b)) == some true) = _; cases decide (a < b) <;> rfl
    rw [this]; exact .lt
  · have:(c2 .LtE a b == some true) = decide (a≤b):=by show (some (decide (a≤b)) == some true) = _; cases decide (a≤b) <;> rfl
    rw [this]; exact .le
private theorem testGo {env:Env} {A:Around} {es:List Expr} {is:List Int} (h:PEi X D sc L m es is):∀ {ops:List CmpOp} {pos:Pos} {c:Cf} {a:Int} {v:Value},es ≠ []→ops.length = es.length→ops.all chOp = true→At X D sc env A c L m→Rep c.M (.int a) v→∀ {Q:Bool→Shared→Prop} {E:Value→Shared→Prop},(∀ d,Gt X c m d→Q (chF a ops is) d.s) →
    wpAny (model X.prog X.w) A (testChain pos v ops (evalEach es env)) Q E c.s:=by
  induction h with
  | nil=>intro ops pos c a v hn; exact absurd rfl hn
  | @cons e i es is h hs ih =>
    intro ops pos c a v _ hl ho T r Q E k
    cases ops with
    | nil=>cases hl
    | cons op ops =>
      rw [List.all_cons,Bool.and_eq_true] at ho
      have hl:ops.length = es.length:=Nat.succ.inj hl
      cases es with
      | nil =>
        cases List.eq_nil_of_length_eq_zero hl
        refine test_last (h env A c T _ _ fun b d g=>?_)
        refine chCmp ho.1 a _ A d v b T.R g.h (r.up g.l) g.r _ _ fun w d2 g2=>?_
        rw [g2.r.i_bool]
        refine wpAny_truthy_bool ?_
        have:=k d2 ⟨g.l.tr g2.l,g2.h⟩
        cases hs
        unfold chF at this
        rwa [show chF _ [] [] = true from rfl,Bool.and_true] at this
      | cons e2 es =>
        obtain ⟨op2,ops,rfl⟩:=List.exists_cons_of_length_eq_add_one hl
        refine test_link (h env A c T _ _ fun b d g=>?_)
        refine chCmp ho.1 a _ A d v b T.R g.h (r.up g.l) g.r _ _ fun w d2 g2=>?_
        rw [g2.r.i_bool]
        refine wpAny_truthy_bool ?_
        have l2:=g.l.tr g2.l
        cases e:c2 op a i == some true with
        | false =>
          rw [if_neg Bool.false_ne_true]
          have:=k d2 ⟨l2,g2.h⟩
          unfold chF at this
          rwa [e,Bool.false_and] at this
        | true =>
          rw [if_pos rfl]
          refine ih nofun hl ho.2 (T.up l2 g2.h) (g.r.up g2.l) fun d3 g3=>?_
          have:=k d3 ⟨l2.tr g3.l,g3.h⟩
          unfold chF at this
          rwa [e,Bool.true_and] at this
private theorem PT.chain {l r1 r2:Expr} {rs:List Expr} {o1 o2:CmpOp} {os:List CmpOp} {p:Pos} {a:Int} {is:List Int} (hl:PE X D sc l L m (.int a) m) (hs:PEi X D sc L m (r1 :: r2 :: rs) is) (hn:os.length = rs.length) (ho:(o1 :: o2 :: os).all chOp = true) (hm:lastMarks (o1 :: o2 :: os) (r1 :: r2 :: rs) = false):PT X D sc (.Compare l (o1 :: o2 :: os) (r1 :: r2 :: rs) p) L m (chF a (o1 :: o2 :: os) is) m:=fun env A c T Q E k =>
  isTrue_chain (hl env A c T _ _ fun v d g=>testGo hs nofun (congrArg (· + 2) hn) ho (T.up g.l g.h) g.r fun d2 g2=>k d2 ⟨g.l.tr g2.l,g2.h⟩) hm
end
end
section
open PySem PySem.W PyProof.Rows PySem.Calls PySem.SeqAt
noncomputable def enO (it:Addr) (i:Int) (old:Value):Obj:={ cls:=.type "enumerate",dict:=none,data:=.fields #[.none,.bool false,.ref it,rawInt i,.none,old],slots:=#[] }
noncomputable def twoM (e it:Addr) (oe oi:Obj):Map:=⟨fun a=>if a = e then some (.pin oe) else if a = it then some (.pin oi) else none,fun zz=>none⟩
section
variable {e it a:Addr} {oe oi:Obj} {x:Cel}
private theorem two_e:(twoM e it oe oi).h e = some (.pin oe):=if_pos rfl
private theorem two_i (h:e ≠ it):(twoM e it oe oi).h it = some (.pin oi):=(if_neg h.symm).trans (if_pos rfl)
private theorem two_n (h1:a ≠ e) (h2:a ≠ it):(twoM e it oe oi).h a = none:=(if_neg h1).trans (if_neg h2)
private theorem two_no (h:(twoM e it oe oi).h a = none):a ≠ e∧a ≠ it:=by
  by_cases h1:a = e
  · rw [h1,two_e] at h; cases h
  · by_cases h2:a = it
    · rw [h2] at h h1; rw [two_i (Ne.symm h1)] at h; cases h
    · exact ⟨h1,h2⟩
private theorem two_is (h:(twoM e it oe oi).h a = some x):∃ o,x = .pin o:=by
  have h:(if a = e then some (Cel.pin oe) else if a = it then some (.pin oi) else none) = some x:=h
  split at h
  · cases h; exact ⟨_,rfl⟩
  · split at h
    · cases h; exact ⟨_,rfl⟩
    · cases h
private theorem two_le {M:Map} (he:M.h e = some (.pin oe)) (hi:M.h it = some (.pin oi)):(twoM e it oe oi).le M where
  h:=fun a x h=>by
    have h:(if a = e then some (Cel.pin oe) else if a = it then some (.pin oi) else none) = some x:=h
    split at h
    · rename_i q; cases h; rw [q]; exact he
    · split at h
      · rename_i q; cases h; rw [q]; exact hi
      · cases h
  g:=fun i x (h:none = some x)=>nomatch h
end
noncomputable def enL:Nat→List Nat→List (Nat × Nat)
  | _,[]=>[]
  | i,c :: r=>(i,c) :: enL (i + 1) r
noncomputable def enA (x:Nat × Nat):AV:=.tup [.int (x.1:Nat),.str [x.2]]
section
variable {X:Amb} {D:Nat} {sc:Names} {L:Lc} {m m1:Mem} {M0:Map} {e it:Addr} {l:List Nat} {St:Nat→Heap→Prop} {es:List Expr} {ke:Nat} {tp:Pos}
private theorem feedsEnum (K:∀ A:Around,A.handled = none→Draws X.prog X.w A it [it] l.length (fun i v=>∃ c u,l.toArray[i]? = some c∧v = .str ⟨#[c]⟩ u) St) (hne:e ≠ it) (nb:X.B.h e = none∧X.B.h it = none) (n0:M0.h e ≠ none∧M0.h it ≠ none) :
    ∀ (r:List Nat) (i:Nat) (h0:Heap) (oi:Obj) (old:Value),l.drop i = r→i≤l.length→St i h0→h0.get? it = some oi→Feeds X D (.Tuple es ke tp) (.ref e) M0 ((enL i r).map enA) (twoM e it (enO it i old) oi):=by
  have st:∀ {i:Nat} {h0:Heap} {oi:Obj} {old:Value} {A:Around} {c:Cf} {m:Mem},Room A D→St i h0→h0.get? it = some oi→Hp X c m→(twoM e it (enO it i old) oi).le c.M→St i c.s.heap:=fun R s0 ho S w=>(K _ R.1).frame _ _ _ s0 fun b hb q h=>by
    rw [List.mem_singleton.mp hb] at h ⊢
    rw [ho] at h; cases h
    exact S.pin (w.h _ _ (two_i hne))
  have ap:∀ {oe oi:Obj},Apart X.B (twoM e it oe oi):=⟨fun a x h=>two_n (fun q=>by rw [q,nb.1] at h; cases h) (fun q=>by rw [q,nb.2] at h; cases h),fun zz zz zz=>rfl⟩
  intro r
  induction r with
  | nil =>
    intro i h0 oi old hr hi s0 ho A c m Q E R l0 S w q
    have hin:i = l.length:=Nat.le_antisymm hi (List.drop_eq_nil_iff.mp hr)
    subst hin
    have he:=S.pin (w.h _ _ two_e)
    refine wpAny_pyNext_enum_endD (K A.in1 R.1) he (st R s0 ho S w) fun h' hx=>?_
    have S2:=S.subW (s':={ c.s with heap:=h' }) w (fun a x h=>two_is h) ap (fun a o n zz h=>hx a o (two_no n).2 h) (fun zz zz zz h=>h) rfl S.bare
    exact q ⟨{ c.s with heap:=h' },_⟩ ⟨⟨fun a x n h=>(Map.sub_h n).trans h,fun i x n h=>(Map.sub_g n).trans h⟩,S2⟩
  | cons ch r ih =>
    intro i h0 oi old hr hi s0 ho A c m Q E R l0 S w q
    have hci:l[i]? = some ch:=by
      have:(l.drop i)[0]? = some ch:=by rw [hr]; rfl
      simpa using this
    have hlt:i < l.length:=(List.getElem?_eq_some_iff.mp hci).1
    have he:=S.pin (w.h _ _ two_e)
    refine wpAny_pyNext_enum_itemD (K A.in1 R.1) he (st R s0 ho S w) hlt hne (fun h=>hne (List.mem_singleton.mp h)) fun x h' tk ⟨cc,u,hcc,hxv⟩ hOut hSt hTup hsz hk=>?_
    rw [List.getElem?_toArray,hci] at hcc; cases hcc
    subst hxv
    refine q (.ref c.s.heap.objs.size) ⟨{ c.s with heap:=h',toks:=tk + 1 },c.M⟩ fun A2 Q2 E2 R2 q2=>?_
    refine wpAny_letOwnedTupleGo_enum hOut fun h3 hEn hsb=>?_
    have top:=S.top
    have ne:c.s.heap.objs.size ≠ e:=fun h=>by rw [h,w.h _ _ two_e] at top; cases top
    have ni:c.s.heap.objs.size ≠ it:=fun h=>by rw [h,w.h _ _ (two_i hne)] at top; cases top
    have keep:∀ a o,a ≠ e→a ≠ it→c.s.heap.get? a = some o→h3.get? a = some o:=fun a o h1 h2 h=>hsb.extBut a o h1 (hk a o h1 h2 h)
    have hT3:h3.get? c.s.heap.objs.size = some (tpo [.int (i:Nat) tk,.str ⟨#[ch]⟩ u]):=hsb.extBut _ _ ne hTup
    have st3:St (i + 1) h3:=(K A.in1 R.1).frame _ _ _ hSt fun b hb o h=>hsb.extBut _ _ (fun q=>hne (q.symm.trans (List.mem_singleton.mp hb))) h
    obtain ⟨oi',hoi⟩:=(K A.in1 R.1).live _ _ st3
    have S0:=S.subW (s':={ c.s with heap:=h3,toks:=tk + 1 }) w (fun a x h=>two_is h) ap (fun a o n zz h=>keep a o (two_no n).1 (two_no n).2 h) (fun zz zz zz h=>h) rfl S.bare
    have sub_no:∀ {a},(twoM e it (enO it i old) oi).h a ≠ none→(c.M.sub (twoM e it (enO it i old) oi)).h a = none:=fun {a} h=>by
      cases q:(c.M.sub (twoM e it (enO it i old) oi)).h a with
      | none=>rfl
      | some y=>exact absurd (Map.sub_W q) h
    have s1:(c.M.sub (twoM e it (enO it i old) oi)).h c.s.heap.objs.size = none:=(Map.sub_h (two_n ne ni)).trans top
    have S1:=S0.putNew (x:=.frz (tpo [.int (i:Nat) tk,.str ⟨#[ch]⟩ u])) (h':=h3) (tk:=tk + 1) (mem':=m) s1 (fun zz zz zz h=>h) (fun zz zz zz zz=>rfl) nofun (.frz hT3)
    have s2:((c.M.sub (twoM e it (enO it i old) oi)).set c.s.heap.objs.size (.frz (tpo [.int (i:Nat) tk,.str ⟨#[ch]⟩ u]))).h e = none:=(Map.set_ne _ _ ne.symm).trans (sub_no (by rw [two_e]; exact nofun))
    have S2:=S1.putNew (h':=h3) (tk:=tk + 1) (mem':=m) (x:=.pin (enO it ((i + 1:Nat):Int) (.str ⟨#[ch]⟩ u))) s2 (fun zz zz zz h=>h) (fun zz zz zz zz=>rfl) nofun (.pin hEn)
    have S3:=S2.putNew (h':=h3) (tk:=tk + 1) (mem':=m) (x:=.pin oi') ((Map.set_ne _ _ hne.symm).trans ((Map.set_ne _ _ ni.symm).trans (sub_no (by rw [two_i hne]; exact nofun)))) (fun zz zz zz h=>h) (fun zz zz zz zz=>rfl) nofun (.pin hoi)
    have up:∀ a x,a ≠ e→a ≠ it→c.M.h a = some x→((((c.M.sub (twoM e it (enO it i old) oi)).set c.s.heap.objs.size (.frz (tpo [.int (i:Nat) tk,.str ⟨#[ch]⟩ u]))).set e (.pin (enO it ((i + 1:Nat):Int) (.str ⟨#[ch]⟩ u)))).set it (.pin oi')).h a = some x:=fun a x h1 h2 h=>by
      exact (Map.set_ne _ _ h2).trans ((Map.set_ne _ _ h1).trans ((Map.set_ne _ _ fun q=>by rw [q,top] at h; cases h).trans ((Map.sub_h (two_n h1 h2)).trans h)))
    refine q2 ⟨{ c.s with heap:=h3,toks:=tk + 1 },_⟩ (twoM e it (enO it ((i + 1:Nat):Int) (.str ⟨#[ch]⟩ u)) oi') ⟨⟨fun a x n h=>up a x (two_no n).1 (two_no n).2 h,fun i x n h=>(Map.sub_g (M:=c.M) (W:=twoM e it (enO it i old) oi) rfl).trans h⟩,S3⟩ ?_ ?_ ⟨fun a x h=>two_is h,fun a x h n=>two_n (two_no n).1 (two_no n).2,fun zz zz zz zz=>rfl⟩ (ih (i + 1) h3 oi' _ (by rw [← List.drop_drop,hr]; rfl) hlt st3 hoi)
    · refine .tupOf (vs:=[.int (i:Nat) tk,.str ⟨#[ch]⟩ u]) (n:=0) ?_ (.cons (.int _ _) (.one (.str [ch] _)))
      exact (Map.set_ne _ _ ni).trans ((Map.set_ne _ _ ne).trans (Map.set_at _ _ _))
    · exact two_le ((Map.set_ne _ _ hne).trans (Map.set_at _ _ _)) (Map.set_at _ _ _)
end
end
section
open PySem PySem.W PyProof.Rows PySem.Calls PySem.SeqAt
section
variable {X:Amb} {D:Nat} {sc:Names} {L:Lc} {m m1:Mem} {l:List Nat} {es:List Expr} {ke:Nat} {tp:Pos} {P:RP} {rest:List Stmt}
private theorem PI.enum {e:Expr} {p pos:Pos} (hg:Glo X.B "enumerate" (.type "enumerate")) (hes:PA X D sc [e] L m [.str l] m1) (hx:sc.lookup ("enumerate":Str) = some .globalImplicit):PI X D sc (.Tuple es ke tp) (.Call (.Name "enumerate" p) [e] [] pos) L m ((enL 0 l).map enA) m1:=fun env A c T Q E k=>by
  refine evalCallT T hx hg hes fun vs d g=>?_
  cases g.r.i_cons with
  | @mk v vs r1 r2 =>
    cases r2.i_nil
    obtain ⟨t,rfl⟩:=r1.i_str
    refine call_enumerate_str fun h4 hEn hIt hsz4 hk4=>?_
    refine wpAny_pyIter_enum hEn ?_
    obtain ⟨St,hD,h0⟩:∃ St,(∀ A:Around,A.handled = none→Draws X.prog X.w A d.s.heap.objs.size [d.s.heap.objs.size] l.length (fun i v=>∃ c u,l.toArray[i]? = some c∧v = .str ⟨#[c]⟩ u) St)∧St 0 h4:=by
      unfold strIterType at hIt
      split at hIt
      · exact ⟨fun i h=>h.IsStrIter d.s.heap.objs.size "str_ascii_iterator" ⟨l.toArray⟩ t (i:Nat),fun A hA=>Draws.strAscii hA _ ⟨l.toArray⟩ t,hIt⟩
      · exact ⟨fun i h=>h.IsStrIter d.s.heap.objs.size "str_iterator" ⟨l.toArray⟩ t (i:Nat),fun A hA=>Draws.strWide hA _ ⟨l.toArray⟩ t,hIt⟩
    obtain ⟨oi,hoi⟩:=(hD A T.R.1).live _ _ h0
    have S0:Hp X ⟨{ d.s with heap:=h4 },d.M⟩ m1:=g.h.keep (tk:=d.s.toks) fun b o zz e=>hk4 b o e
    have n1:=g.h.top
    have n2:d.M.h (d.s.heap.objs.size + 1) = none:=g.h.fresh (by
      cases e:d.s.heap.get? (d.s.heap.objs.size + 1) with
      | none=>rfl
      | some o=>exact absurd (Heap.lt_size e) (Nat.not_lt.mpr (Nat.le_succ _)))
    have hne:d.s.heap.objs.size + 1 ≠ d.s.heap.objs.size:=Nat.succ_ne_self _
    have S1:=S0.putNew (x:=.pin (enO d.s.heap.objs.size 0 .none)) (h':=h4) (tk:=d.s.toks) (mem':=m1) n2 (fun zz zz zz h=>h) (fun zz zz zz zz=>rfl) nofun (.pin hEn)
    have n1':(d.M.set (d.s.heap.objs.size + 1) (.pin (enO d.s.heap.objs.size 0 .none))).h d.s.heap.objs.size = none:=(Map.set_ne _ _ hne.symm).trans n1
    have S2:=S1.putNew (x:=.pin oi) (h':=h4) (tk:=d.s.toks) (mem':=m1) n1' (fun zz zz zz h=>h) (fun zz zz zz zz=>rfl) nofun (.pin hoi)
    have nb1:X.B.h (d.s.heap.objs.size + 1) = none:=by
      cases q:X.B.h (d.s.heap.objs.size + 1) with
      | none=>rfl
      | some y=>have:=g.h.x.h _ _ q; rw [n2] at this; cases this
    have le1:=(Map.le_set (.pin (enO d.s.heap.objs.size 0 .none)) n2).tr (Map.le_set (.pin oi) n1')
    have nc:∀ a x,c.M.h a = some x→a ≠ d.s.heap.objs.size + 1∧a ≠ d.s.heap.objs.size:=fun a x h=>by
      have:=g.l.h _ _ h
      exact ⟨fun q=>(by rw [q,n2] at this; cases this),fun q=>(by rw [q,n1] at this; cases this)⟩
    refine k _ ⟨{ d.s with heap:=h4,toks:=d.s.toks },_⟩ (twoM (d.s.heap.objs.size + 1) d.s.heap.objs.size (enO d.s.heap.objs.size 0 .none) oi) ⟨g.l.tr le1,S2,two_le ((Map.set_ne _ _ hne).trans (Map.set_at _ _ _)) (Map.set_at _ _ _),⟨fun a x h=>two_is h,fun a x h=>two_n (nc a x h).1 (nc a x h).2,fun zz zz zz=>rfl⟩,feedsEnum hD hne ⟨nb1,g.h.btop⟩ ⟨?_,?_⟩ l 0 h4 oi .none rfl (Nat.zero_le _) h0 hoi,fun A2 e2 m2 Q2 E2 w2 Sx hq=>wpAny_pyIter_enum (Sx.pin (w2.h _ _ two_e)) hq⟩
    · exact fun q=>nomatch ((Map.set_ne _ _ hne).trans (Map.set_at _ _ _)).symm.trans q
    · exact fun q=>nomatch (Map.set_at _ _ _).symm.trans q
private theorem AsgC.tup {names:Names} {xs:List Str} {avs:List AV} (hn:NamesT names es xs) (hl:avs.length = xs.length) (hd:∀ y v,(seen names L).lookup y = some v→(binds xs avs (seen names L)).lookup y = some v):AsgC X D sc names (.Tuple es ke tp) (seen names L) (.tup avs) (binds xs avs (seen names L)):=⟨.tup hn hl,hd⟩
private theorem binds_keep {y:Str} {v:AV}:∀ {xs:List Str} {avs:List AV} {L:Lc},y ∉ xs→L.lookup y = some v→(binds xs avs L).lookup y = some v
  | [],_,_,_,h=>h
  | _ :: _,[],_,_,h=>h
  | x :: xs,a :: as,L,hn,h=>by
    rw [List.mem_cons,not_or] at hn
    refine binds_keep (xs:=xs) (avs:=as) hn.2 ?_
    rw [List.lookup_cons,beq_eq_false_iff_ne.mpr hn.1]; exact h
private theorem NamesT.okB {sc:Names} {es:List Expr} {xs:List Str} (h:NamesT sc es xs):∀ x∈xs,Mine.okB sc x = true:=by
  induction h with
  | nil=>exact nofun
  | cons h _ ih=>exact fun x hx=>(List.mem_cons.mp hx).elim (fun e=>e ▸ h) (ih x)
private theorem AsgC.names {names:Names} {xs:List Str} {avs:List AV} (hn:NamesT names es xs) (hl:avs.length = xs.length):AsgC X D sc names (.Tuple es ke tp) (seen names L) (.tup avs) (binds xs avs (seen names L)) :=
  .tup hn hl fun y v h=>binds_keep (fun hm=>by
    have h1:=hn.okB y hm
    have h2:=(seen_lookup h).2
    rcases nameOk h1 with q | q <;> rw [q] at h2 <;> cases h2) h
end
section
variable {G:Cx} {L:Lc} {m m1:Mem} {tgt iter elt:Expr} {scope:Scope} {pos p p':Pos} {P:RP} {rest:List Stmt} {x:Str}
private theorem W.mapP (hD:4≤G.D) {α:Type} {f:α→AV} {xs:List α} (hn:CNm G.sc scope L) (set:CSt iter) (hi:PI G.X G.D G.sc tgt iter L m (xs.map f) m1) (hz:xs.length≤2 ^ 23) (g:α→AV)
    (hs:∀ x,x∈xs→∃ L',AsgC G.X G.D (relN G.sc scope.names) scope.names tgt (seen scope.names L) (f x) L'∧wpE (G.inner scope.names) 40 elt L' m1 (IsV (g x) m1))
    {b:Bool} (hsw:swapsWith (.ListComp elt [⟨tgt,iter,[],0⟩] scope pos) (some (.Name x p')) p.line (envWith G.sc) = pure b) (hx:okB G.sc x = true)
    (he:wpS G 40 40 rest (bd x (.lst (xs.map g)) L) m1 P):W G.X G.D G.sc (.Assign [.Name x p'] (.ListComp elt [⟨tgt,iter,[],0⟩] scope pos) p :: rest) L m P :=
  (turns0 (G:=G.inner scope.names) (ifs:=[]) (L:=seen scope.names L) (elt:=elt) (m1:=m1) (fun k ys m=>ys = (xs.take k).map g∧m = m1) hz ⟨rfl,rfl⟩ fun k x ys m hx i=>by
    obtain ⟨rfl,rfl⟩:=i
    refine (hs x (List.mem_of_getElem? hx)).imp fun L' h=>⟨h.1,true,m,.nil,fun zz=>OkE.go ((wpOk (G:=G.inner scope.names) hD 40).e _ _ _ _ h.2) fun y m3 h1 h2=>?_,nofun⟩
    cases h2
    exact .mk h1 ⟨by rw [List.take_add_one,hx,List.map_append]; rfl,rfl⟩).elim fun ys h=>h.elim fun mF h=>.lcX (.mk' hn set) hi h.1 hsw hx (wpS_ok (k:=40) (n:=40) hD (by rw [h.2.1,h.2.2,List.take_length]; exact he))
end
section
variable {X:Amb} {D:Nat} {sc:Names} {L:Lc} {m m1:Mem} {P:RP} {rest:List Stmt}
noncomputable def itO (a:Addr) (k:Nat) (o:Obj):Prop:=o.cls = .type "list_iterator"∧o.data = .fields #[.ref a,.int k 0]
structure MuAt (X:Amb) (env:Env) (sc:Names) (own:List Addr) (C:Map) (a I k i:Nat) (c2:Cf) (L:Lc) (m:Mem):Prop where
  l:Map.leB own C c2.M
  F:FS X env sc own c2 m L
  ha:c2.M.h a = some (.mu i)
  hI:∃ o,c2.M.h I = some (.pin o)∧itO a k o
inductive MuLoop (X:Amb) (env:Env) (sc:Names) (own:List Addr) (C:Map) (a I i n:Nat) (J:Nat→Lc→Mem→Prop) (j:Nat) (s:Shared):Prop
  | mk {c2 k L m}:s = c2.s→j = n - k→k≤n→J k L m→MuAt X env sc own C a I k i c2 L m→MuLoop X env sc own C a I i n J j s
private theorem FS.aside {env:Env} {own:List Addr} {c d:Cf} {C:Map} {I:Addr} (F:FS X env sc own c m L) (A:Has env own C) (nC:C.h I = none) (nw:I ∉ own) (l0:c.M.le0 d.M) (hk:∀ b,b ≠ I→d.M.h b = c.M.h b) (h:Hp X d m1):FS X env sc own d m1 L :=
  F.keepB l0 (fun b hb x e=>(hk b fun q=>nw (q ▸ hb)).trans e) (fun n b hb x e=>(hk b fun q=>(A.c n b hb).elim fun y z=>by rw [q,nC] at z; cases z).trans e) h
private theorem W.forMut {x:Str} {px p:Pos} {iter:Expr} {body:List Stmt} {i:Nat} {xs:List AV} (hi:PE X D sc iter L m (.mref i) m1) (hx:okB sc x = true) (J:Nat→Lc→Mem→Prop) (hm:∀ k L m,J k L m→m[i]? = some (.lst xs)) (h0:J 0 L m1)
    (hs:∀ k y L m,xs[k]? = some y→J k L m→W X D sc body ((x,y) :: L) m (Loop (J (k + 1)) (Then X D sc rest P))) (he:∀ L m,J xs.length L m→W X D sc rest L m P) (hf:∀ env v,foldedSetIterable iter env v = pure v):W X D sc (.For (.Name x px) iter body [] p :: rest) L m P :=
  .seq fun env own A c T Q E q=>by
    refine wpAny_For (hi.go T fun v d l F r=>?_) (hf env)
    cases r.i_mref with
    | @mk a ha =>
      obtain ⟨vs,n0,hv,rx⟩:=F.S.mlist ha (hm 0 L m1 h0)
      refine wpAny_pyIter_list (items:=vs.toArray) ⟨_,hv,rfl,n0,rfl⟩ ?_
      have nI:=F.S.top
      have nw:d.s.heap.objs.size ∉ own:=fun h=>by obtain ⟨⟨o,e⟩,_⟩:=F.ow _ h; rw [nI] at e; cases e
      have nB:=F.S.btop
      have ap:=F.has
      generalize hI:d.s.heap.objs.size = I at nI nw nB
      have le1:=Map.le_set (.pin ({ cls:=.type "list_iterator",data:=.fields #[.ref a,.int 0 0] }:Obj)) nI
      have S1:=F.S.newPin { cls:=.type "list_iterator",data:=.fields #[.ref a,.int 0 0] } rfl d.s.toks
      rw [hI] at S1
      refine forLoop (MuLoop X env sc own d.M a I i xs.length J) (fun j s' h=>?_) xs.length (.mk (k:=0) (c2:=⟨{ d.s with heap:=_,toks:=d.s.toks },_⟩) rfl rfl (Nat.zero_le _) h0 ⟨le1.b own,F.keep le1 S1,le1.h _ _ ha,_,Map.set_at _ _ _,rfl,rfl⟩)
      cases h with
      | @mk c2 k L2 m2 hs' hj hk hJ M =>
        subst hs'; subst hj
        obtain ⟨o,hIo,ho1,ho2⟩:=M.hI
        obtain ⟨ws,n1,hw,ry⟩:=M.F.S.mlist M.ha (hm k L2 m2 hJ)
        have hl:=ry.len
        rcases Nat.lt_or_ge k xs.length with hlt | hge
        · obtain ⟨v,hv1,hv2⟩:=ry.get (List.getElem?_eq_getElem hlt)
          refine wpAny_pyNext_list_item (items:=ws.toArray) ⟨o,M.F.S.pin hIo,ho1,ho2⟩ ⟨_,hw,rfl,n1,rfl⟩ (by simpa using hv1) fun h' hit hsb=>?_
          obtain ⟨o',h1,h2,h3⟩:=hit
          have S2:=M.F.S.put (x:=.pin o') (h':=h') (tk:=c2.s.toks) (mem':=m2) (fun y e n=>by rw [hIo] at e; cases e; exact absurd rfl (n _)) (fun y e=>by rw [nB] at e; cases e) (fun b q hb e=>(hsb.2 b hb).trans e) (fun zz zz zz zz=>rfl) nofun (.pin h1)
          have F2:=M.F.aside (d:=⟨{ c2.s with heap:=h',toks:=c2.s.toks },_⟩) ap nI nw (Map.set_le0 _ hIo) (fun b hb=>Map.set_ne _ _ hb) S2
          refine wpAny_pure ?_
          rw [PySem.assign_Name]
          refine wpAny_bind (wpAny_standAt (wpAny_bindName (F2.store (T.T x (nameOk hx)) (hv2.up0 (Map.set_le0 _ hIo)) fun d4 l4 F4=>?_)))
          refine hs k _ L2 m2 (List.getElem?_eq_getElem hlt) hJ env own A d4 (T.on F4) _ _ fun u d5 fl L5 m5 g5=>?_
          have hne:a ≠ I:=fun e=>by have:=M.ha; rw [e,hIo] at this; cases this
          have l25:Map.leB own (c2.M.set I (.pin o')) d5.M:=l4.tr g5.l
          have lc:Map.leB own d.M d5.M:=⟨fun b y n e=>l25.h b y n ((Map.set_ne _ _ fun q=>by rw [q,nI] at e; cases e).trans (M.l.h b y n e)),fun z y e=>l25.g z y (M.l.g z y e)⟩
          have lr:=(l.tr lc)
          have key:FS X env sc own d5 m5 L5→J (k + 1) L5 m5→∃ j,j < xs.length - k∧MuLoop X env sc own d.M a I i xs.length J j d5.s:=fun gF gJ=>⟨xs.length - (k + 1),Nat.sub_succ_lt_self _ _ hlt,.mk rfl rfl hlt gJ ⟨lc,gF,F2.l0 l25 a _ ((Map.set_ne _ _ hne).trans M.ha) Cel.mnp,o',l25.h I _ nw (Map.set_at _ _ _),h2,h3⟩⟩
          cases g5.r with
          | next=>exact key g5.F g5.p
          | cont=>exact key g5.F g5.p
          | brk=>exact q _ d5 .next L5 m5 ⟨lr,g5.F,.next,g5.p⟩
          | ret r=>exact q _ d5 (.ret _) L5 m5 ⟨lr,g5.F,.ret r,g5.p⟩
        · have e:k = xs.length:=Nat.le_antisymm hk hge
          subst e
          refine wpAny_pyNext_list_end T.R.1 (items:=ws.toArray) ⟨o,M.F.S.pin hIo,ho1,ho2⟩ ⟨_,hw,rfl,n1,rfl⟩ (by simpa [hl] using Nat.le_refl _) fun h' hx'=>?_
          have S2:=M.F.S.del (h':=h') (tk:=c2.s.toks) hIo nB fun b q hb e=>hx' b q hb e
          have l0:c2.M.le0 (c2.M.del I):=fun b y e n=>(Map.del_ne _ fun q=>by rw [q,hIo] at e; cases e; exact n _ rfl).trans e
          have F2:=M.F.aside (d:=⟨{ c2.s with heap:=h',toks:=c2.s.toks },_⟩) ap nI nw l0 (fun b hb=>Map.del_ne _ hb) S2
          exact wpAny_execs_nil (q _ ⟨{ c2.s with heap:=h',toks:=c2.s.toks },_⟩ .next L2 m2 ⟨l.tr ⟨fun b y n e=>(Map.del_ne _ fun q=>by rw [q,nI] at e; cases e).trans (M.l.h b y n e),fun z y e=>M.l.g z y e⟩,F2,.next,he L2 m2 hJ⟩)
end
end
section
open PySem PySem.W PyProof.Rows PySem.Calls PySem.SeqAt
noncomputable abbrev Tri:=Int × Int × Int
noncomputable def t3 (x:Tri):AV:=.tup [.int x.1,.int x.2.1,.int x.2.2]
noncomputable def lex3 (x y:Tri):Bool:=if x.1 = y.1 then (if x.2.1 = y.2.1 then decide (x.2.2 < y.2.2) else decide (x.2.1 < y.2.1)) else decide (x.1 < y.1)
noncomputable def kasGo {α:Type} (c:Nat→Nat→Bool) (n:Nat):KasT α→Option α
  | .ret a=>some a
  | .ask i j k=>if i < n∧j < n then kasGo c n (k (c i j)) else none
private theorem kasGo_wp {α:Type} {c:Nat→Nat→Bool} {n:Nat} {cmp:Nat→Nat→(Bool→Shared→Prop)→Shared→Prop} {s:Shared} (hc:∀ i j,i < n→j < n→∀ C:Bool→Shared→Prop,C (c i j) s→cmp i j C s) {out:α}:∀ (t:KasT α),kasGo c n t = some out→t.kasWp cmp (fun a s'=>a = out∧s' = s) s
  | .ret a,h=>⟨Option.some.inj h,rfl⟩
  | .ask i j k,h=>by
    unfold kasGo at h
    split at h
    · rename_i hb
      exact hc i j hb.1 hb.2 _ (kasGo_wp hc _ h)
    · cases h
noncomputable def sort3 (ts:List Tri):Option (List Tri):=(kasGo (fun i j=>lex3 (ts.getD i (0,0,0)) (ts.getD j (0,0,0))) ts.length (kas_sort ts.length)).map fun p=>p.toList.map fun i=>ts.getD i (0,0,0)
section
variable {prog:Program} {w:World} {A:Around} {E:Value→Shared→Prop} {s:Shared}
private theorem sortTree {a:Addr} {vs:List Value} {n:Nat} {P:PySem.Fin→Shared→Prop} {κ:SortKind} {out:Array Nat} (ho:s.heap.get? a = some (seqObj "list" vs.toArray n)) (h2:2≤vs.length) (h64:vs.length < 64)
    (hk:∀ (s1:Shared),(∀ b o,b ≠ a→s.heap.get? b = some o→s1.heap.get? b = some o)→wpAny (model prog w) A (keyKind' vs.toArray) (fun κ' s'=>κ' = κ∧s' = s1) (fun zz zz=>False) s1∧(kas_sort vs.length).kasWp (kas_ask prog w A κ vs) (fun p s'=>p = out∧s' = s1) s1)
    (h:P (.done (.ret .none)) { s with heap:=sortedHeap s.heap a vs (out.toList.map fun i=>vs.getD i Value.none).toArray }) (hz:out.size = vs.length):wpAny (model prog w) A (Builtin.«list.sort» ⟨[.ref a],[]⟩) P E s:=by
  rw [list_sort_plain]
  have ha:a < s.heap.objs.size:=Heap.lt_size ho
  refine wpAny_bind (listItems_at ho rfl ?_)
  refine wpAny_bind (listUpdate_at ho rfl ?_ (by rw [List.size_toArray,sizeLine_is]; lia) (Nat.zero_le _))
  obtain ⟨e1,ho1⟩:∃ e1,(s.heap.update a (Obj.mapSeq fun zz=>#[])).get? a = some (seqObj "list" #[] e1):=⟨_,get?_update_seq ho (fun zz=>#[])⟩
  refine wpAny_bind (seqEpoch_at ho1 rfl ?_)
  refine wpAny_bind (wpAny_newTuple ?_ (by show vs.length≤_; rw [sizeLine_is]; lia))
  refine wpAny_bind (wpAny_newList ?_ (Nat.zero_le _))
  refine wpAny_holding ?_
  have ho6:(((s.heap.update a (Obj.mapSeq fun zz=>#[])).push (seqObj "tuple" vs.toArray 0)).push (seqObj "list" #[] 0)).get? a = some (seqObj "list" #[] e1):=by
    rw [Heap.get?_push_ne _ _ _ (by rw [size_push',Heap.size_update]; exact Nat.ne_of_lt (Nat.lt_succ_of_lt ha)),Heap.get?_push_ne _ _ _ (by rw [Heap.size_update]; exact Nat.ne_of_lt ha)]
    exact ho1
  show wpAny (model prog w) A _ P E { s with heap:=((s.heap.update a (Obj.mapSeq fun zz=>#[])).push (seqObj "tuple" vs.toArray 0)).push (seqObj "list" #[] 0) }
  obtain ⟨hk1,hk2⟩:=hk { s with heap:=((s.heap.update a (Obj.mapSeq fun zz=>#[])).push (seqObj "tuple" vs.toArray 0)).push (seqObj "list" #[] 0) } fun b o hb e=>by
    have hlt:=Heap.lt_size e
    show (Heap.push _ _).get? b = _
    rw [Heap.get?_push_ne _ _ _ (by rw [size_push',Heap.size_update]; exact Nat.ne_of_lt (Nat.lt_succ_of_lt hlt)),Heap.get?_push_ne _ _ _ (by rw [Heap.size_update]; exact Nat.ne_of_lt hlt),Heap.get?_update_ne _ _ _ _ hb]
    exact e
  dsimp only
  have hn2:¬ vs.toArray.size < 2:=by rw [List.size_toArray]; exact Nat.not_lt.mpr h2
  rw [if_neg hn2,if_neg hn2]
  refine wpAny_bind (wpAny_mono hk1 ?_ fun zz zz x=>x.elim)
  rintro κ' s' ⟨rfl,rfl⟩
  refine wpAny_bind (wpAny_mono (kat_run (G:=fun p s'=>p = out∧s' = { s with heap:=((s.heap.update a (Obj.mapSeq fun zz=>#[])).push (seqObj "tuple" vs.toArray 0)).push (seqObj "list" #[] 0) }) (Q:=fun st' s'=>arrOf st' = out.map (kas_item (vs.toArray.zip vs.toArray))∧failedOf st' = none∧s' = { s with heap:=((s.heap.update a (Obj.mapSeq fun zz=>#[])).push (seqObj "tuple" vs.toArray 0)).push (seqObj "list" #[] 0) }) rfl h2 h64 (fun p st' s' zz a2 a3 a4=>⟨a4.1 ▸ a2,a3,a4.2⟩) hk2) ?_ fun zz zz x=>x)
  rintro ⟨⟨⟩,st'⟩ s' ⟨har,hf,rfl⟩
  dsimp only
  refine wpAny_bind (seqEpoch_at ho6 rfl ?_)
  rw [kat_snds rfl har]
  refine wpAny_bind (listUpdate_at ho6 rfl ?_ (Nat.zero_le _) (by show (List.toArray _).size≤_; rw [List.size_toArray,List.length_map,Array.length_toList,hz,sizeLine_is]; lia))
  rw [hf]
  simp only [bne_self_eq_false,Bool.false_eq_true,if_false]
  exact wpAny_pure h
private theorem sortedGo {l:Addr} {vs:List Value} {Q:Value→Shared→Prop} {κ:SortKind} {out:Array Nat} (hl:s.heap.IsList l vs.toArray) (h2:2≤vs.length) (h64:vs.length < 64) (hz:out.size = vs.length)
    (hk:∀ (s1:Shared),(∀ b o,s.heap.get? b = some o→s1.heap.get? b = some o)→wpAny (model prog w) A.in1.in1 (keyKind' vs.toArray) (fun κ' s'=>κ' = κ∧s' = s1) (fun zz zz=>False) s1∧(kas_sort vs.length).kasWp (kas_ask prog w A.in1.in1 κ vs) (fun p s'=>p = out∧s' = s1) s1)
    (h:Q (.ref (s.heap.objs.size + 1)) { s with heap:=sortedAll s.heap vs (out.toList.map fun i=>vs.getD i Value.none).toArray }):wpAny (model prog w) A (call (.builtin "sorted") [.ref l]) Q E s:=by
  refine Calls.call_function_entry kind_sorted plain_sorted entry_sorted (args_sorted1 _) ?_
  unfold Builtin.«sorted»
  refine wpAny_bind (m:=checkCount "sorted" 1 1 _) (wpAny_pure ?_)
  refine wpAny_bind (collect_list hl ?_ (by rw [sizeLine_is]; lia))
  refine wpAny_bind (wpAny_newList ?_ (by rw [sizeLine_is]; lia))
  have hsz:((s.heap.push (seqObj "list" #[] 0)).update s.heap.objs.size (Obj.mapSeq (·++vs.toArray))).objs.size = s.heap.objs.size + 1:=by
    rw [Heap.size_update,size_push']
  have hoL:(((s.heap.push (seqObj "list" #[] 0)).update s.heap.objs.size (Obj.mapSeq (·++vs.toArray))).push (seqObj "list" vs.toArray 0)).get? (s.heap.objs.size + 1) = some (seqObj "list" vs.toArray 0):=by
    rw [← hsz]; exact Heap.get?_push_size _ rfl
  show wpAny _ _ _ _ _ { s with heap:=((s.heap.push (seqObj "list" #[] 0)).update s.heap.objs.size (Obj.mapSeq (·++vs.toArray))).push (seqObj "list" vs.toArray 0) }
  rw [hsz]
  refine wpAny_bind (wpAny_holding (wpAny_call_entry slot_list_sort ⟨_,hoL,rfl⟩ entry_list_sort (sortTree (κ:=κ) (out:=out) hoL h2 h64 (fun s1 k1=>hk s1 fun b o e=>?_) ⟨_,rfl,?_⟩ hz) (args_list_sort _)))
  · have hlt:=Heap.lt_size e
    refine k1 b o (Nat.ne_of_lt (Nat.lt_succ_of_lt hlt)) ?_
    show (Heap.push _ _).get? b = _
    rw [Heap.get?_push_ne _ _ _ (by rw [hsz]; exact Nat.ne_of_lt (Nat.lt_succ_of_lt hlt)),Heap.get?_update_ne _ _ _ _ (Nat.ne_of_lt hlt),Heap.get?_push_ne _ _ _ (Nat.ne_of_lt hlt)]
    exact e
  · exact wpAny_pure ⟨_,rfl,h⟩
end
section
variable {prog:Program} {w:World} {A:Around} {E:Value→Shared→Prop} {s:Shared} {bf fin:Bool} {Q:Bool→Shared→Prop}
private theorem katInt {a b:Int} {t u:Tok} {r:List (Value × Value)} {i:Nat} (h1:a = b→KatLex prog w A bf fin Q r (i + 1) s) (h2:a ≠ b→Q (decide (a < b)) s):KatLex prog w A bf fin Q ((.int a t,.int b u) :: r) i s :=
  kat_cons (EqAt.int_int a t b u prog w _ _ (kat_go (fun e=>kat_yes (h1 (beq_iff_eq.mp e))) fun e=>kat_no (by
    have h:=h2 (beq_eq_false_iff_ne.mp e)
    cases bf && i == 0 with
    | true=>exact oneLt_int h
    | false=>exact kat_one _ _ (wpAny_lt_int h))))
private theorem kat3 {a b:Addr} {n k:Nat} {x y:Tri} {t u v t' u' v':Tok} (hx:s.heap.get? a = some (tpo [.int x.1 t,.int x.2.1 u,.int x.2.2 v] n)) (hy:s.heap.get? b = some (tpo [.int y.1 t',.int y.2.1 u',.int y.2.2 v'] k)) (h:Q (lex3 x y) s):wpAny (model prog w) A (keyLt' (tuples' bf) (.ref a) (.ref b)) Q E s:=by
  unfold lex3 at h
  exact kat_lt hx rfl hy rfl (katInt (fun e1=>katInt (fun e2=>katInt (fun e3=>by rw [if_pos e1,if_pos e2,decide_eq_false (by rw [e3]; exact Int.lt_irrefl _)] at h; exact h) fun e3=>by rw [if_pos e1,if_pos e2] at h; exact h) fun e2=>by rw [if_pos e1,if_neg e2] at h; exact h) fun e1=>by rw [if_neg e1] at h; exact h)
end
section
variable {X:Amb} {D:Nat} {m:Mem} {M:Map}
private theorem Reps.tri {ts:List Tri} {vs:List Value} (r:Reps M (ts.map t3) vs) {i:Nat} (h:i < ts.length):∃ a n t u v,vs[i]? = some (.ref a)∧M.h a = some (.frz (tpo [.int (ts.getD i (0,0,0)).1 t,.int (ts.getD i (0,0,0)).2.1 u,.int (ts.getD i (0,0,0)).2.2 v] n)):=by
  have hx:ts[i]? = some (ts.getD i (0,0,0)):=by rw [List.getD_eq_getElem?_getD,List.getElem?_eq_getElem h]; rfl
  obtain ⟨w,h1,h2⟩:=r.get (x:=t3 (ts.getD i (0,0,0))) (by rw [List.getElem?_map,hx]; rfl)
  cases h2.i_tup with
  | @mk a us n hk rs=>cases rs.i_cons with
    | mk r1 r2=>cases r2.i_cons with
      | mk r3 r4=>cases r4.i_cons with
        | mk r5 r6 =>
          cases r6.i_nil
          obtain ⟨t,rfl⟩:=r1.i_int
          obtain ⟨u,rfl⟩:=r3.i_int
          obtain ⟨v,rfl⟩:=r5.i_int
          exact ⟨a,n,t,u,v,h1,hk⟩
private theorem Reps.firsts {h:Heap} (hk:∀ a o,M.h a = some (.frz o)→h.get? a = some o):∀ {ts:List Tri} {vs:List Value},Reps M (ts.map t3) vs→∃ fs,KatTups h vs fs∧fs.length = ts.length∧∀ v∈fs,∃ x t,v = .int x t
  | [],_,r=>⟨[],by rw [r.i_nil]; exact .nil,rfl,nofun⟩
  | x :: ts,_,r=>by
    cases r.i_cons with
    | mk r1 r2 =>
      obtain ⟨fs,h1,h2,h3⟩:=Reps.firsts hk r2
      cases r1.i_tup with
      | mk ha rs=>cases rs.i_cons with
        | mk r3 r4 =>
          obtain ⟨t,rfl⟩:=r3.i_int
          exact ⟨_ :: fs,.cons (hk _ _ ha) rfl rfl rfl h1,congrArg (· + 1) h2,fun v hv=>(List.mem_cons.mp hv).elim (fun e=>⟨_,_,e⟩) (h3 v)⟩
private theorem Call.sorted3 {i:Nat} {ts out:List Tri} (hm:m[i]? = some (.lst (ts.map t3))) (h2:2≤ts.length) (h64:ts.length < 64) (h:sort3 ts = some out) (hz:out.length = ts.length) (hi:∀ p,kasGo (fun i j=>lex3 (ts.getD i (0,0,0)) (ts.getD j (0,0,0))) ts.length (kas_sort ts.length) = some p→∀ i∈p.toList,i < ts.length):Call X D (opB "sorted") m [.mref i] (.mref m.length) (sn m (.lst (out.map t3))):=.of1 fun A c v R S r Q E k=>by
  obtain ⟨p,hp,rfl⟩:=Option.map_eq_some_iff.mp h
  cases r.i_mref with
  | @mk a ha =>
    obtain ⟨vs,n,hv,rx⟩:=S.mlist ha hm
    have hl:vs.length = ts.length:=rx.len.trans (List.length_map _)
    have hps:p.size = ts.length:=by rw [List.length_map,Array.length_toList] at hz; exact hz
    have hin:=hi p hp
    rw [← hl] at h2 h64 hps
    refine sortedGo (vs:=vs) (κ:=tuples' true) (out:=p) ⟨_,hv,rfl,n,rfl⟩ h2 h64 hps (fun s1 k1=>⟨?_,?_⟩) ?_
    · obtain ⟨fs,f1,f2,f3⟩:=rx.firsts (h:=s1.heap) fun a o e=>k1 a o (S.frz e)
      refine kat_kind (T:=.type "int") f1 (by rw [f2,← hl]; exact Nat.lt_of_lt_of_le (by decide) h2) (fun v hv=>?_) rfl ⟨rfl,rfl⟩
      obtain ⟨x,t,rfl⟩:=f3 v hv
      exact Looks.of_pure rfl
    · rw [hl]
      refine kasGo_wp (fun i j h1 h2 C hC=>?_) _ hp
      obtain ⟨a1,n1,t1,u1,v1,g1,g2⟩:=rx.tri h1
      obtain ⟨a2,n2,t2,u2,v2,g3,g4⟩:=rx.tri h2
      unfold kas_ask
      rw [List.getD_eq_getElem?_getD,List.getD_eq_getElem?_getD,g1,g3]
      exact kat3 (k1 _ _ (S.frz g2)) (k1 _ _ (S.frz g4)) hC
    · have n1:c.M.h (c.s.heap.objs.size + 1) = none:=S.fresh (by
        cases e:c.s.heap.get? (c.s.heap.objs.size + 1) with
        | none=>rfl
        | some o=>exact absurd (Heap.lt_size e) (Nat.not_lt.mpr (Nat.le_succ _)))
      obtain ⟨e,he⟩:=sortedAll_at c.s.heap vs (p.toList.map fun i=>vs.getD i Value.none).toArray
      refine k _ ⟨{ c.s with heap:=sortedAll c.s.heap vs _,toks:=c.s.toks },c.M.set (c.s.heap.objs.size + 1) (.mu m.length)⟩ ⟨Map.le_set _ n1,S.putNew n1 (fun b o zz e=>sortedAll_old e) (fun b j zz e=>List.getElem?_append_left (S.lt e)) (fun j q b e=>by cases q; exact absurd (S.lt e) (Nat.lt_irrefl _)) (.mu (get_app0 _ _) (.lst he ?_)),.mref (Map.set_at _ _ _)⟩
      have rx2:=rx.up (Map.le_set (.mu m.length) n1)
      refine ⟨by simp,fun i x v h1 h2=>?_⟩
      simp only [List.map_map,List.getElem?_map,Option.map_eq_some_iff] at h1 h2
      obtain ⟨j,j1,rfl⟩:=h1
      obtain ⟨j',j2,rfl⟩:=h2
      rw [j1] at j2; cases j2
      have hj:=hin j (List.mem_of_getElem? j1)
      exact rx2.at' j _ _ (by rw [List.getElem?_map,List.getElem?_eq_getElem hj]; simp [hj]) (by rw [List.getD_eq_getElem?_getD,List.getElem?_eq_getElem (hl ▸ hj)]; rfl)
end
end
section
open PySem PySem.W PyProof.Rows PySem.Calls PySem.SeqAt
noncomputable def qF (k:Int) (c:Nat):List Nat:=if k = 3∨c∈[34,92] then [92,c] else [c]
noncomputable def bB (k:Int) (x:Nat × Nat):Bool:=decide (k = 1) || (decide (x.2∈[32,10,9,92]) || (decide ((x.1:Int) = 0) && decide ([x.2] = [34])))
noncomputable def bF (k:Int) (x:Nat × Nat):List Nat:=if bB k x = true then [92,x.2] else [x.2]
noncomputable def endQ (t:Int):List Nat:=[[],[10],[9],[13]].getD t.toNat []
noncomputable def endB (t:Int):Nat:=[32,10,9,13].getD t.toNat 32
noncomputable def wrF (w:List Nat) (s:Int):List Nat :=
  if s.fmod 4 = 0∨s.fmod 4 = 3∨w = [] then (34 :: ((w.map (qF (s.fmod 4))).flatten++[34]))++endQ ((s.fdiv 4).fmod 4)
  else ((enL 0 w).map (bF (s.fmod 4))).flatten++[endB ((s.fdiv 4).fmod 4)]
private theorem qF_len (k:Int) (c:Nat):(qF k c).length≤2:=by
  unfold qF; split
  · exact Nat.le_refl _
  · exact Nat.le_succ _
private theorem bF_len (k:Int) (x:Nat × Nat):(bF k x).length≤2:=by
  unfold bF; split
  · exact Nat.le_refl _
  · exact Nat.le_succ _
private theorem enL_len:∀ (i:Nat) (l:List Nat),(enL i l).length = l.length
  | _,[]=>rfl
  | i,_ :: r=>congrArg (· + 1) (enL_len (i + 1) r)
private theorem sum2 {α:Type} (f:α→List Nat) (h:∀ x,(f x).length≤2):∀ l:List α,((l.map f).map List.length).sum≤2 * l.length
  | []=>Nat.zero_le _
  | x :: r=>by
    have:=sum2 f h r
    have:=h x
    rw [List.map_cons,List.map_cons,List.sum_cons,List.length_cons]; lia
private theorem fm4 (s:Int):0≤s.fmod 4∧s.fmod 4 < 4:=by rw [Int.fmod_eq_emod_of_nonneg _ (by decide)]; exact ⟨Int.emod_nonneg _ (by decide),Int.emod_lt_of_pos _ (by decide)⟩
private theorem at4' {α:Type} {a b c d e:α} {t:Int} (h:0≤t∧t < 4):[a,b,c,d][t.toNat]? = some ([a,b,c,d].getD t.toNat e):=by
  obtain ⟨k,rfl⟩:=Int.eq_ofNat_of_zero_le h.1
  have:k < 4:=by lia
  match k,this with
  | 0,_=>rfl
  | 1,_=>rfl
  | 2,_=>rfl
  | 3,_=>rfl
private theorem isV {α:Type} {v w:α} {m:Mem} (e:v = w):IsV v m w m:=e ▸ .mk
private theorem orP {a b:Prop} [Decidable a] [Decidable b] (h:(decide a || decide b) = true):a∨b:=(Bool.or_eq_true_iff.mp h).imp of_decide_eq_true of_decide_eq_true
private theorem orN {a b:Prop} [Decidable a] [Decidable b] (h:(decide a || decide b) = false):¬ (a∨b):=fun q=>(Bool.or_eq_false_iff.mp h).elim fun h1 h2=>q.elim (of_decide_eq_false h1) (of_decide_eq_false h2)
private theorem lt62' {t:Int} (h:0≤t∧t < 4):t < 2 ^ 62:=Int.lt_trans h.2 (by decide)
private theorem enL_ok {w:List Nat} (hw:okS w):∀ {i:Nat} {x:Nat × Nat},x∈enL i w→okS [x.2]:=by
  induction w with
  | nil=>exact fun h=>absurd h List.not_mem_nil
  | cons c r ih=>exact fun h=>(List.mem_cons.mp h).elim (fun e=>e ▸ okS_1 (hw c List.mem_cons_self)) (ih fun d hd=>hw d (List.mem_cons_of_mem _ hd))
private theorem endQ_len (t:Int):(endQ t).length≤1:=by
  unfold endQ
  rcases Nat.lt_or_ge t.toNat 4 with h | h
  · match t.toNat,h with
    | 0,_=>exact Nat.zero_le _
    | 1,_=>exact Nat.le_refl _
    | 2,_=>exact Nat.le_refl _
    | 3,_=>exact Nat.le_refl _
  · rw [List.getD_eq_getElem?_getD,List.getElem?_eq_none h]; exact Nat.zero_le _
private theorem at4s {t:Int} (h:0≤t∧t < 4):[AV.str [],.str [10],.str [9],.str [13]][t.toNat]? = some (.str (endQ t)):=by
  have:=congrArg (Option.map AV.str) (at4' (a:=([]:List Nat)) (b:=[10]) (c:=[9]) (d:=[13]) (e:=[]) h)
  rw [← List.getElem?_map] at this
  exact this
private theorem op_written {X:Amb} {D:Nat} (kn:Kn X) (en:Glo X.B "enumerate" (.type "enumerate")) (hD:4≤D) {w:List Nat} {s:Int} (hz:w.length≤1000) (hw:okS w) {m:Mem}:Fn X (D + 1) "_law_written" m [.str w,.int s] (.str (wrF w s)) m:=by
  refine (kn.fn 19 149 rfl).mk' kn.lim hD (ps:=["word","style"]) [] (by rfl) (fun zz zz zz zz zz zz=>rfl) rfl ?_
  refine ⟨.mod (by decide),.inTupI (ns:=[0,3]),fun zz=>⟨.eqS hw okS_nil hD,.mk⟩,?_⟩
  have hk:=fm4 s
  have ht:=fm4 (s.fdiv 4)
  have q1:((w.map (qF (s.fmod 4))).map List.length).sum≤2 * w.length:=sum2 _ (fun c=>qF_len _ c) w
  have q2:(((enL 0 w).map (bF (s.fmod 4))).map List.length).sum≤2 * w.length:=enL_len 0 w ▸ sum2 _ (fun c=>bF_len _ c) (enL 0 w)
  have q3:(w.map (qF (s.fmod 4))).flatten.length≤2 * w.length:=by rw [← sum_flatten]; exact q1
  have q4:((enL 0 w).map (bF (s.fmod 4))).flatten.length≤2 * w.length:=by rw [← sum_flatten]; exact q2
  have eT:s.fmod 4 = 0∨s.fmod 4 = 3∨w = []→wrF w s = (34 :: ((w.map (qF (s.fmod 4))).flatten++[34]))++endQ ((s.fdiv 4).fmod 4):=fun h=>if_pos h
  have eF:¬ (s.fmod 4 = 0∨s.fmod 4 = 3∨w = [])→wrF w s = ((enL 0 w).map (bF (s.fmod 4))).flatten++[endB ((s.fdiv 4).fmod 4)]:=fun h=>if_neg h
  generalize wrF w s = out at eT eF ⊢
  refine .mk (fun e=>?_) fun e=>?_
  · replace eT:=eT (by
      rcases Bool.or_eq_true_iff.mp e with h | h
      · rcases List.mem_cons.mp (of_decide_eq_true h) with h | h
        · exact .inl h
        · exact .inr (.inl (List.mem_singleton.mp h))
      · exact .inr (.inr (of_decide_eq_true h)))
    subst eT
    refine OkE.map (G:=⟨X,D,_,[]⟩) (xs:=w) (av:=.str w) (m1:=m) hD (by rfl) (fun zz zz=>rfl) .mk .str' (Nat.le_trans hz (by decide)) (fun c=>.str (qF (s.fmod 4) c)) (fun c hc=>⟨_,.name rfl,.mod (by decide),fun zz=>⟨.inS (x:=c),.mk⟩,.str (qF (s.fmod 4) c),m,fun e=>⟨.addS (by show 2≤2 ^ 24; decide),isV (congrArg AV.str (if_pos (orP e)))⟩,fun e=>isV (congrArg AV.str (if_neg (orN e))),.mk⟩) ?_
    exact ⟨.join' (zs:=w.map (qF (s.fmod 4))) (by rw [List.map_map]; rfl) (by lia),.addS (by show 1 + _≤_; lia),.addS (by rw [List.length_append]; show 1 + _ + 1≤_; lia),.div (by decide) (by decide),.mod (by decide),.lst ht.1 (lt62' ht) (at4s ht),.addS (by
      have:=endQ_len ((s.fdiv 4).fmod 4)
      rw [List.length_append,List.length_append]; show 1 + _ + 1 + _≤_; lia),.s⟩
  · have hn:=orN e
    replace eF:=eF fun h=>hn (h.elim (fun h=>.inl (List.mem_cons.mpr (.inl h))) fun h=>h.elim (fun h=>.inl (List.mem_cons.mpr (.inr (List.mem_singleton.mpr h)))) .inr)
    subst eF
    refine W.mapP (G:=⟨X,D,_,[]⟩) (xs:=enL 0 w) (f:=enA) (m1:=m) hD (by rfl) (fun zz zz=>rfl) (.enum en ⟨.cons' (fun zz=>rfl) (.var rfl) .nil,plain_pl rfl⟩ rfl) (enL_len 0 w ▸ Nat.le_trans hz (by decide)) (fun x=>.str (bF (s.fmod 4) x)) (fun x hx=>⟨_,.names (xs:=["place","sign"]) (.cons rfl (.cons rfl .nil)) rfl,.mod (by decide),fun zz=>⟨.inS (x:=x.2),fun zz=>⟨fun zz=>⟨.eqS (enL_ok hw hx) ok34 hD,.mk⟩,.mk⟩,.mk⟩,.str (bF (s.fmod 4) x),m,fun e=>⟨.addS (by show 2≤2 ^ 24; decide),isV (congrArg AV.str (if_pos e))⟩,fun e=>isV (congrArg AV.str (if_neg (Bool.eq_false_iff.mp e))),.mk⟩) (b:=true) (by rfl) rfl ?_
    exact ⟨.join' (zs:=(enL 0 w).map (bF (s.fmod 4))) (by rw [List.map_map]; rfl) (by lia),.div (by decide) (by decide),.mod (by decide),.str ht.1 (lt62' ht) (at4' (e:=32) ht),.addS (by show _ + 1≤_; lia),.s⟩
end
section
open PySem PySem.W PyProof.Rows PySem.Calls PySem.SeqAt
private theorem op_bisL {X:Amb} {D:Nat} (kn:KnB X) (hD:4≤D) {m:Mem} {av:AV} {N:Nat} {g:Nat→Int} {x:Int} (A:Arr X D m av N g) (hN:N < 2 ^ 12):Fn X (D + 1) "bisect_left" m [av,.int x] (.int (bisGo (fun i=>!decide (g i < x)) 12 0 N:Nat)) m:=by
  refine kn.bL.two kn.lim hD (by rfl) (fun h zz zz zz zz zz zz=>kp_binds h fun zz=>by rfl) (.f rfl ⟨.isNN,.t rfl ⟨.b (kn.bu "len" _ rfl) A.len,.isNN,.t rfl ?_⟩⟩)
  refine W.whileW (G:=⟨X,D,_,[]⟩) hD (bisL av .none x) (fun zz=>m) (BisI (fun i=>!decide (g i < x)) N (bisGo (fun i=>!decide (g i < x)) 12 0 N)) 12 (.mk (0,N) ⟨Nat.zero_le _,Nat.le_refl _,hN,rfl⟩ rfl (.rf rfl)) ?_
  rintro n ⟨l,h⟩ I
  by_cases hl:l < h
  · obtain ⟨j,rfl,h1,h2,h3⟩:=bis_step I hl
    have e:=bis_mid l h
    have hs:Sub X D m av (.int (((l:Int) + h).fdiv 2)) (.int (g ((l + h) / 2))):=e.symm ▸ A.at' _ h1
    refine .go ⟨decide_eq_true (Int.ofNat_lt.mpr hl),.div (by decide) (by decide),hs,.d (fun q=>?_) fun q=>?_⟩
    · exact ⟨j,Nat.lt_succ_self _,.mk ((l + h) / 2 + 1,h) (h3 (congrArg (fun z=>!z) (decide_eq_true q))) rfl (.cons (congrArg (fun z=>some (AV.int (z + 1))) e) (.cons rfl (.cons rfl (.cons rfl (.cons rfl .nil)))))⟩
    · exact ⟨j,Nat.lt_succ_self _,.mk (l,(l + h) / 2) (h2 (congrArg (fun z=>!z) (decide_eq_false q))) rfl (.cons rfl (.cons (congrArg (fun z=>some (AV.int z)) e) (.cons rfl (.cons rfl (.cons rfl .nil)))))⟩
  · cases bis_end I hl
    exact .no ⟨decide_eq_false (fun q=>hl (Int.ofNat_lt.mp q)),.mk⟩
noncomputable def joinS (row left:List Nat):List Nat:=(([40]++left)++[41])++row
noncomputable def joinF (ls:List (List Nat)):List Nat:=ls.reverse.foldl joinS []
private theorem joinS_len {ls:List (List Nat)} {b:Nat} (h:∀ l∈ls,l.length≤b):∀ k,((ls.take k).foldl joinS []).length≤k * (b + 2)
  | 0=>by rw [List.take_zero]; exact Nat.zero_le _
  | k + 1=>by
    have ih:=joinS_len h k
    rw [Nat.succ_mul]
    cases e:ls[k]? with
    | none =>
      have:ls.length≤k:=List.getElem?_eq_none_iff.mp e
      rw [List.take_of_length_le (Nat.le_succ_of_le this)]
      rw [List.take_of_length_le this] at ih
      exact Nat.le_trans ih (Nat.le_add_right _ _)
    | some l =>
      have:=h l (List.mem_of_getElem? e)
      rw [foldl_take_succ _ _ e]
      unfold joinS
      rw [List.length_append,List.length_append,List.length_append]
      show 1 + l.length + 1 + _≤_
      unfold joinS at ih
      lia
section
variable {X:Amb} {D:Nat} {m:Mem}
private theorem op_joined (kn:Kn X) (hD:4≤D) {ls:List (List Nat)} (hn:ls.length≤100) (hb:∀ l∈ls,l.length≤1000):Fn X (D + 1) "_law_joined" m [.lst (ls.map .str)] (.str (joinF ls)) m:=by
  have hr:∀ l∈ls.reverse,l.length≤1000:=fun l hl=>hb l (List.mem_reverse.mp hl)
  refine (kn.fn 20 156 rfl).mk' kn.lim hD (ps:=["lefts"]) [] (by rfl) (fun zz zz zz zz zz=>rfl) rfl ?_
  refine W.forW (G:=⟨X,D,_,[]⟩) (σ:=Unit) (xs:=ls.reverse) (f:=.str) (av:=.lst (ls.map AV.str).reverse) (m1:=m) hD ⟨.neg,.rev (by rw [List.length_map]; exact Nat.le_trans hn (by decide)),.mk⟩ (.lst' (List.map_reverse ..).symm) (fun k zz=>bd "row" (.str ((ls.reverse.take k).foldl joinS [])) (bd "lefts" (.lst (ls.map .str)) [])) (fun zz zz=>m) (fun zz zz=>True) (.mk () trivial rfl (.rf rfl)) (fun k x s hx zz=>?_) (fun s zz=>?_) (fun zz zz=>rfl)
  · have h1:=joinS_len hr k
    have h2:=hr x (List.mem_of_getElem? hx)
    have hk:k≤100:=Nat.le_trans (Nat.le_of_lt (List.getElem?_eq_some_iff.mp hx).1) (List.length_reverse.symm ▸ hn)
    have h3:k * (1000 + 2)≤100 * 1002:=Nat.mul_le_mul_right _ hk
    refine ⟨_,.name rfl,.addS (by show 1 + _≤_; lia),.addS (by rw [List.length_append]; show 1 + x.length + 1≤_; lia),.addS (by rw [List.length_append,List.length_append]; show 1 + x.length + 1 + _≤_; lia),?_⟩
    exact .mk () trivial rfl (.cons (congrArg (fun z=>some (AV.str z)) (foldl_take_succ joinS [] hx).symm) (.cons rfl .nil))
  · rw [List.take_of_length_le (Nat.le_refl _)]
    exact .s
noncomputable abbrev Nst:=List Int × List (List Nat)
noncomputable def cutN (turn:Int) (shelf:List Int) (w:Int):Nat:=if turn = 0 then bisGo (fun i=>decide (w < shelf.getD i 0)) 12 0 shelf.length else bisGo (fun i=>!decide (shelf.getD i 0 < w)) 12 0 shelf.length
noncomputable def nestS (turn:Int) (st:Nst) (w:Int):Nst:=(sl none (some (cutN turn st.1 w:Nat)) st.1++[w],sl none (some (cutN turn st.1 w:Nat)) st.2++[joinF (sl (some (cutN turn st.1 w:Nat)) none st.2)])
noncomputable def nestAt (turn:Int) (ws:List Int) (k:Nat):Nst:=(ws.take k).foldl (nestS turn) ([],[])
noncomputable def nestF (turn:Int) (ws:List Int):List Nat:=joinF (nestAt turn ws ws.length).2
private theorem Arr.ints {l:List Int} (hz:l.length≤1000):Arr X D m (.lst (l.map .int)) l.length (fun i=>l.getD i 0):=⟨by
  have:=Call.lenL (X:=X) (D:=D) (m:=m) (xs:=l.map AV.int) (by rw [List.length_map]; exact Nat.le_trans hz (by decide))
  rwa [List.length_map] at this,fun i hi=>.lst (Int.natCast_nonneg _) (by lia) (by
    rw [Int.toNat_natCast,List.getElem?_map,List.getElem?_eq_getElem hi,List.getD_eq_getElem?_getD,List.getElem?_eq_getElem hi]; rfl)⟩
private theorem sl_map {α β:Type} (f:α→β) (lo hi:Option Int) (xs:List α):sl lo hi (xs.map f) = (sl lo hi xs).map f:=by
  unfold sl; rw [List.length_map,List.map_drop,List.map_take]
private theorem joinF_eq (ls:List (List Nat)):joinF ls = ls.foldr (fun l r=>joinS r l) []:=List.foldl_reverse
private theorem joinF_len2:∀ ls:List (List Nat),(joinF ls).length = (ls.map List.length).sum + 2 * ls.length
  | []=>rfl
  | l :: ls=>by
    have ih:=joinF_len2 ls
    rw [joinF_eq] at ih ⊢
    rw [List.foldr_cons,List.map_cons,List.sum_cons,List.length_cons]
    show ((([40]++l)++[41])++ls.foldr _ []).length = _
    rw [List.length_append,List.length_append,List.length_append,ih]
    show 1 + l.length + 1 + _ = _
    lia
structure NestB (st:Nst) (k:Nat):Prop where
  a:st.1.length≤k
  b:(st.2.map List.length).sum + 2 * st.2.length≤2 * k
private theorem NestB.l {st:Nst} {k:Nat} (h:NestB st k):st.2.length≤k:=by have:=h.b; lia
private theorem mem_sum {l:List Nat}:∀ {ls:List (List Nat)},l∈ls→l.length≤(ls.map List.length).sum
  | x :: r,h=>by
    rw [List.map_cons,List.sum_cons]
    rcases List.mem_cons.mp h with h | h
    · rw [h]; exact Nat.le_add_right _ _
    · exact Nat.le_trans (mem_sum h) (Nat.le_add_left _ _)
private theorem NestB.c {st:Nst} {k:Nat} (h:NestB st k):∀ l∈st.2,l.length≤2 * k:=fun l hl=>by
  have:=mem_sum hl
  have:=h.b; lia
private theorem nestB_step {turn w:Int} {st:Nst} {k:Nat} (h:NestB st k):NestB (nestS turn st w) (k + 1):=by
  unfold nestS
  generalize cutN turn st.1 w = c
  have h1:=h.a
  have h2:=h.b
  refine ⟨?_,?_⟩
  · rw [List.length_append]; exact Nat.succ_le_succ (Nat.le_trans (sl_len _) h1)
  · have e:st.2 = sl none (some (c:Nat)) st.2++sl (some (c:Nat)) none st.2:=by rw [sl_take,sl_drop,List.take_append_drop]
    have h3:=congrArg (fun z=>(z.map List.length).sum + 2 * z.length) e
    simp only [List.map_append,List.sum_append,List.length_append] at h3
    simp only [List.map_append,List.sum_append,List.length_append,List.map_cons,List.map_nil,List.sum_cons,List.sum_nil,List.length_cons,List.length_nil,joinF_len2]
    lia
private theorem nestAt_succ {turn:Int} {ws:List Int} {k:Nat} {w:Int} (h:ws[k]? = some w):nestAt turn ws (k + 1) = nestS turn (nestAt turn ws k) w:=foldl_take_succ _ _ h
private theorem nestB {turn:Int} {ws:List Int}:∀ k,k≤ws.length→NestB (nestAt turn ws k) k
  | 0,_=>⟨Nat.le_refl _,Nat.le_refl _⟩
  | k + 1,h=>by rw [nestAt_succ (List.getElem?_eq_getElem h)]; exact nestB_step (nestB k (Nat.le_of_succ_le h))
private theorem lookup_ne {L:Lc} {a x:Str} {y:AV} (h:a ≠ x):List.lookup a ((x,y) :: L) = L.lookup a:=by rw [List.lookup_cons,beq_eq_false_iff_ne.mpr h]
private theorem W.forML {G:Cx} {L:Lc} {m m1:Mem} {P:RP} (hD:4≤G.D) {x:Str} {px p:Pos} {iter:Expr} {body rest:List Stmt} {i:Nat} {xs:List AV} {σ:Type} (hi:wpE G 40 iter L m (IsV (.mref i) m1)) (hx:okB G.sc x = true) (Lf:Nat→σ→Lc) (mf:Nat→σ→Mem) (I:Nat→σ→Prop) (hm:∀ k s,I k s→(mf k s)[i]? = some (.lst xs)) (h0:Cut (I 0) (Lf 0) (mf 0) L m1)
    (hs:∀ k y s,xs[k]? = some y→I k s→wpS G 40 40 body (bd x y (Lf k s)) (mf k s) (LoopW G rest P (Cut (I (k + 1)) (Lf (k + 1)) (mf (k + 1))))) (he:∀ s,I xs.length s→wpS G 40 40 rest (Lf xs.length s) (mf xs.length s) P) (hf:∀ env v,foldedSetIterable iter env v = pure v):W G.X G.D G.sc (.For (.Name x px) iter body [] p :: rest) L m P :=
  .forMut (.wp hD hi) hx (fun k=>Cut (I k) (Lf k) (mf k)) (fun k L m i=>by cases i with | mk s i e z=>exact e ▸ hm k s i) h0 (fun k y L m hy i=>by
    cases i with
    | mk s i e z=>exact e ▸ (W.loop hD (hs k y s hy i) fun zz zz h=>h).weak fun a v h=>(lookup_set h).elim (fun q=>by rw [q.1,q.2]; exact List.lookup_cons_self) fun q=>(lookup_ne q.1).trans (z a v q.2)) (fun L m i=>by
    cases i with
    | mk s i e z=>exact e ▸ (wpS_ok hD (he s i)).weak z) hf
noncomputable def nestL (turn:Int) (i:Nat) (st:Nst):Lc:=bd "lefts" (.lst (st.2.map .str)) (bd "shelf" (.lst (st.1.map .int)) (bd "weights" (.mref i) (bd "turn" (.int turn) [])))
private theorem op_nest (kn:KnB X) (hD:5≤D) {ws:List Int} {turn:Int} {i:Nat} (hm:m[i]? = some (.lst (ws.map .int))) (hn:ws.length≤6):Fn X (D + 1) "_law_nest" m [.mref i,.int turn] (.str (nestF turn ws)) m:=by
  obtain ⟨D,rfl⟩:∃ d,D = d + 1:=⟨D - 1,by lia⟩
  have hD4:4≤D + 1:=Nat.le_of_succ_le hD
  have hD3:4≤D:=Nat.le_of_succ_le_succ hD
  refine (kn.fn 21 163 rfl).mk' kn.lim hD4 (ps:=["weights","turn"]) [] (by rfl) (fun zz zz zz zz zz zz=>rfl) rfl ?_
  refine W.asgRev (xs:=["shelf","lefts"]) (by rfl) rfl rfl rfl (.tup (.cons' (fun zz=>rfl) (.lst .nil (by decide)) (.cons' (fun zz=>rfl) (.lst .nil (by decide)) .nil)) (by show 2≤_; decide)) ?_
  refine W.forML (G:=⟨X,D + 1,_,[]⟩) (σ:=Unit) (xs:=ws.map .int) hD4 .mk rfl (fun k zz=>nestL turn i (nestAt turn ws k)) (fun zz zz=>m) (fun zz zz=>True) (fun zz zz zz=>hm) (.mk () trivial rfl (.rf rfl)) (fun k y s hy zz=>?_) (fun s zz=>?_) (fun zz zz=>rfl)
  · rw [List.getElem?_map] at hy
    obtain ⟨w,hw,rfl⟩:=Option.map_eq_some_iff.mp hy
    have hk:=(List.getElem?_eq_some_iff.mp hw).1
    have hb:=nestB (turn:=turn) (ws:=ws) k (Nat.le_of_lt hk)
    have hs:=nestAt_succ (turn:=turn) hw
    unfold nestS at hs
    generalize nestAt turn ws (k + 1) = st' at hs
    generalize nestAt turn ws k = st at hb hs
    have z1:=hb.a
    have z2:=hb.l
    refine ⟨.int (cutN turn st.1 w:Nat),m,fun e=>⟨op_bisR kn hD3 (.ints (l:=st.1) (by lia)) (by lia),isV ?_⟩,fun e=>⟨op_bisL kn hD3 (.ints (l:=st.1) (by lia)) (by lia),isV ?_⟩,?_⟩
    · exact congrArg (fun z:Nat=>AV.int z) (if_pos (of_decide_eq_true e))
    · exact congrArg (fun z:Nat=>AV.int z) (if_neg (of_decide_eq_false e))
    · generalize cutN turn st.1 w = c at hs
      have l1:=sl_len (l:=none) (u:=some (c:Int)) st.1
      have l2:=sl_len (l:=none) (u:=some (c:Int)) st.2
      have l3:=sl_len (l:=some (c:Int)) (u:=none) st.2
      have hj:=op_joined (X:=X) (D:=D) (m:=m) (ls:=sl (some (c:Int)) none st.2) kn.toKn hD3 (by lia) fun l hl=>Nat.le_trans (hb.c l (sl_mem hl)) (by lia)
      rw [← sl_map] at hj
      refine W.tupR (G:=⟨X,D + 1,_,[]⟩) (xs:=["shelf","lefts"]) hD4 (by rfl) rfl rfl ⟨.lst (by rw [List.length_map]; lia),.addL (by rw [sl_map,List.length_map]; show _ + 1≤_; lia),.lst (by rw [List.length_map]; lia),.lst (by rw [List.length_map]; lia),hj,.addL (by rw [sl_map,List.length_map]; show _ + 1≤_; lia),.mk rfl ?_⟩
      rw [hs]
      exact .mk () trivial rfl (.cons (congrArg (fun z=>some (AV.lst z)) (by rw [sl_map,List.map_append]; rfl)) (.cons (congrArg (fun z=>some (AV.lst z)) (by rw [sl_map,List.map_append]; rfl)) (.cons rfl (.cons rfl .nil))))
  · rw [List.length_map]
    have hb:=nestB (turn:=turn) (ws:=ws) ws.length (Nat.le_refl _)
    exact ⟨op_joined kn.toKn hD3 (Nat.le_trans hb.l (by lia)) fun l hl=>Nat.le_trans (hb.c l hl) (by lia),.s⟩
end
end
section
open PySem PySem.W PyProof.Rows PySem.Calls PySem.SeqAt
noncomputable def ptF (x:Tri):Int:=(x.1 - x.2.1 + 1) * (x.2.2 - x.1 + 1)
section
variable {X:Amb} {D:Nat} {m:Mem}
private theorem op_point (kn:Kn X) (hD:4≤D) {ts:List Tri} (hn:ts.length≤1000) (hb:∀ t∈ts,(t.1 - t.2.1 + 1).natAbs < 2 ^ 63):Fn X (D + 1) "_law_point" m [.lst (ts.map t3)] (.lst ((ts.map ptF).map .int)) m:=by
  refine (kn.fn 24 182 rfl).mk' kn.lim hD (ps:=["pairs"]) [] (by rfl) (fun zz zz zz zz zz=>rfl) rfl ?_
  refine OkE.map (G:=⟨X,D,_,[]⟩) (xs:=ts) (f:=t3) (av:=.lst (ts.map t3)) (m1:=m) hD (by rfl) (fun zz zz=>rfl) .mk .lst (Nat.le_trans hn (by decide)) (fun x=>.int (ptF x)) (fun x hx=>⟨_,.names (xs:=["place","low","high"]) (.cons rfl (.cons rfl (.cons rfl .nil))) rfl,.mul (.inl (hb x hx)),.mk⟩) ?_
  have e:ts.map (fun x=>AV.int (ptF x)) = (ts.map ptF).map .int:=by rw [List.map_map]; rfl
  exact e ▸ KeptA.ints
noncomputable def backC (pt:List Int) (k:Nat):Bool:=decide ((2:Int) * (sl none (some (k:Int)) pt).sum = (k:Int) * ((k:Int) + 1)) && decide ((2:Int) * (sl (some ((k:Int) + 1)) none pt).sum = ((sl (some ((k:Int) + 1)) none pt).length:Int) * (((sl (some ((k:Int) + 1)) none pt).length:Int) + 1))
noncomputable def backF:Nat→List Int→List Nat
  | 0,_=>[]
  | n + 1,pt=>match (List.range pt.length).find? (backC pt) with
    | some k=>(([40]++backF n (sl none (some (k:Int)) pt))++[41])++backF n (sl (some ((k:Int) + 1)) none pt)
    | none=>[]
private theorem backF_none {n:Nat} {pt:List Int} (h:∀ j,j < pt.length→backC pt j = false):backF (n + 1) pt = []:=by
  have:(List.range pt.length).find? (backC pt) = none:=List.find?_eq_none.mpr fun j hj=>by rw [h j (List.mem_range.mp hj)]; exact Bool.false_ne_true
  show (match (List.range pt.length).find? (backC pt) with | some k=>_ | none=>_) = _
  rw [this]
private theorem backF_some {n k:Nat} {pt:List Int} (hk:k < pt.length) (hc:backC pt k = true) (h:∀ j,j < k→backC pt j = false):backF (n + 1) pt = (([40]++backF n (sl none (some (k:Int)) pt))++[41])++backF n (sl (some ((k:Int) + 1)) none pt):=by
  have:(List.range pt.length).find? (backC pt) = some k:=by
    rw [List.find?_range_eq_some]
    exact ⟨hc,List.mem_range.mpr hk,fun j hj=>by rw [h j hj]; rfl⟩
  show (match (List.range pt.length).find? (backC pt) with | some k=>_ | none=>_) = _
  rw [this]
private theorem sl_next {α:Type} (k:Nat) (l:List α):sl (some ((k:Int) + 1)) none l = l.drop (k + 1):=sl_drop l (k + 1)
private theorem backF_len:∀ (n:Nat) (pt:List Int),(backF n pt).length≤2 * pt.length
  | 0,_=>Nat.zero_le _
  | n + 1,pt=>by
    unfold backF
    cases e:(List.range pt.length).find? (backC pt) with
    | none=>exact Nat.zero_le _
    | some k =>
      have hk:k < pt.length:=List.mem_range.mp (List.mem_of_find?_eq_some e)
      have h1:=backF_len n (sl none (some (k:Int)) pt)
      have h2:=backF_len n (sl (some ((k:Int) + 1)) none pt)
      show ((([40]++_)++[41])++_).length≤_
      rw [List.length_append,List.length_append,List.length_append]
      rw [sl_take] at h1
      rw [sl_next] at h2
      rw [sl_take,sl_next]
      rw [List.length_take] at h1
      rw [List.length_drop] at h2
      show 1 + _ + 1 + _≤_
      lia
private theorem op_back (kn:Kn X):∀ (n:Nat) {D:Nat} (_:6 + n≤D) {pt:List Int} (_:pt.length < n) (_:pt.length≤60) {m:Mem},Fn X (D + 1) "_law_back" m [.lst (pt.map .int)] (.str (backF n pt)) m
  | 0,_,_,_,h,_,_=>absurd h (Nat.not_lt_zero _)
  | n + 1,D,hD,pt,hz,h60,m=>by
    obtain ⟨D,rfl⟩:∃ d,D = d + 1:=⟨D - 1,by lia⟩
    have hD4:4≤D + 1:=by lia
    have hDn:6 + n≤D:=by lia
    refine (kn.fn 23 177 rfl).mk' kn.lim hD4 (ps:=["point"]) [] (by rfl) (fun zz zz zz zz zz=>rfl) rfl ?_
    refine W.forW (G:=⟨X,D + 1,_,[]⟩) (σ:=Unit) (xs:=List.range pt.length) (f:=fun (i:Nat)=>.int i) (av:=.rng 0 (pt.length:Int)) (m1:=m) hD4 ⟨.b (kn.bu "len" _ rfl) (by rw [← List.length_map (f:=AV.int)]; exact .lenL (by rw [List.length_map]; exact Nat.le_trans h60 (by decide))),.t (kn.bu "range" _ rfl) .range,.mk⟩ (.rng' (Nat.le_trans h60 (by decide))) (fun zz zz=>bd "point" (.lst (pt.map .int)) []) (fun zz zz=>m) (fun k zz=>∀ j,j < k→backC pt j = false) (.mk () nofun rfl (.rf rfl)) (fun k x s hx I=>?_) (fun s I=>?_) (fun zz zz=>rfl)
    · cases range_at hx
      have hk:k < pt.length:=by have:=(List.getElem?_eq_some_iff.mp hx).1; rwa [List.length_range] at this
      have hl1:(sl none (some (k:Int)) pt).length < n∧(sl none (some (k:Int)) pt).length≤60:=by rw [sl_take,List.length_take]; lia
      have hl2:(sl (some ((k:Int) + 1)) none pt).length < n∧(sl (some ((k:Int) + 1)) none pt).length≤60:=by rw [sl_next,List.length_drop]; lia
      have f1:=op_back kn n hDn hl1.1 hl1.2 (m:=m)
      have f2:=op_back kn n hDn hl2.1 hl2.2 (m:=m)
      have g1:=backF_len n (sl none (some (k:Int)) pt)
      have g2:=backF_len n (sl (some ((k:Int) + 1)) none pt)
      have s1:Call X (D + 1) (opB "sum") m [.lst ((sl none (some (k:Int)) pt).map .int)] _ m:=.sum
      have s2:Call X (D + 1) (opB "sum") m [.lst ((sl (some ((k:Int) + 1)) none pt).map .int)] _ m:=.sum
      have s3:Call X (D + 1) (opB "len") m [.lst ((sl (some ((k:Int) + 1)) none pt).map .int)] _ m:=.lenL (by rw [List.length_map]; exact Nat.le_trans hl2.2 (by decide))
      rw [List.length_map] at s3
      have hS:=backF_some (n:=n) (pt:=pt) hk
      rw [← sl_map] at f1 f2 s1 s2 s3
      refine ⟨_,.name rfl,?_⟩
      refine W.tupR (G:=⟨X,D + 1,_,[]⟩) (xs:=["left","right"]) hD4 (by rfl) rfl rfl ⟨.lst (by rw [List.length_map]; lia),.lst (by rw [List.length_map]; lia),.mk rfl ?_⟩
      refine ⟨.b (kn.bu "sum" _ rfl) s1,.mul (.inl (by decide)),.mul (.inl (by lia)),fun zz=>⟨.b (kn.bu "sum" _ rfl) s2,.mul (.inl (by decide)),.b (kn.bu "len" _ rfl) s3,.b (kn.bu "len" _ rfl) s3,.mul (.inl (by lia)),.mk⟩,fun e=>?_,fun e=>?_⟩
      · exact ⟨f1,.addS (by show 1 + _≤_; lia),.addS (by rw [List.length_append]; show 1 + _ + 1≤_; lia),f2,.addS (by rw [List.length_append,List.length_append]; show 1 + _ + 1 + _≤_; lia),(hS e I) ▸ KeptA.s⟩
      · exact .mk () (fun j hj=>(Nat.lt_succ_iff_lt_or_eq.mp hj).elim (I j) fun h=>h ▸ e) rfl (.rf rfl)
    · rw [List.length_range] at I
      rw [backF_none I]; exact .s
end
end
section
inductive Tr | leaf | node (l r:Tr)
deriving DecidableEq
noncomputable def enc:Tr→List Nat
  | .leaf=>[41]
  | .node l r=>40 :: (enc l++enc r)
noncomputable def Tr.sz:Tr→Nat
  | .leaf=>0
  | .node l r=>l.sz + r.sz + 1
private theorem enc_len:∀ T:Tr,(enc T).length = 2 * T.sz + 1
  | .leaf=>rfl
  | .node l r=>by simp [enc,Tr.sz,enc_len l,enc_len r]; lia
noncomputable def par (c:Nat):Prop:=c = 40∨c = 41
private theorem enc_par:∀ (T:Tr),∀ c∈enc T,par c
  | .leaf,c,h=>by simp [enc] at h; exact .inr h
  | .node l r,c,h=>by
    simp only [enc,List.mem_cons,List.mem_append] at h
    rcases h with h | h | h
    · exact .inl h
    · exact enc_par l c h
    · exact enc_par r c h
private theorem enc_last:∀ T:Tr,(enc T).getLast? = some 41
  | .leaf=>rfl
  | .node l r=>by
    simp only [enc]
    rw [List.getLast?_cons,List.getLast?_append,enc_last r]; rfl
noncomputable def rowT (T:Tr):List Nat:=(enc T).dropLast
private theorem rowT_snoc (T:Tr):rowT T++[41] = enc T:=by
  obtain ⟨ys,h⟩:=List.getLast?_eq_some_iff.mp (enc_last T)
  unfold rowT; rw [h]; simp
private theorem rowT_len (T:Tr):(rowT T).length = 2 * T.sz:=by
  have:=congrArg List.length (rowT_snoc T)
  rw [enc_len] at this; simp at this; exact this
private theorem rowT_par (T:Tr):∀ c∈rowT T,par c:=fun c h=>enc_par T c (by rw [← rowT_snoc]; exact List.mem_append_left _ h)
private theorem rowT_node (l r:Tr):rowT (.node l r) = 40 :: (rowT l++41 :: rowT r):=by
  have h:rowT (.node l r)++[41] = (40 :: (rowT l++41 :: rowT r))++[41]:=by
    rw [rowT_snoc,enc,← rowT_snoc l,← rowT_snoc r]; simp
  exact List.append_cancel_right h
noncomputable def dep:Nat→List Nat→Option Nat
  | d,[]=>some d
  | d,c :: r=>if c = 40 then dep (d + 1) r else if d = 0 then none else dep (d - 1) r
private theorem dep_enc:∀ (T:Tr) (d:Nat) (r:List Nat),dep (d + 1) (enc T++r) = dep d r
  | .leaf,d,r=>by simp [enc,dep]
  | .node a b,d,r=>by
    simp only [enc,List.cons_append,List.append_assoc,dep,if_pos]
    rw [dep_enc a (d + 1),dep_enc b d]
private theorem dep_pre:∀ (T:Tr) (d k:Nat),k < (enc T).length→∃ e,d≤e∧dep d ((enc T).take k) = some e
  | .leaf,d,k,h=>by
    have:k = 0:=by simp [enc] at h; exact h
    subst this; exact ⟨d,Nat.le_refl _,rfl⟩
  | .node a b,d,0,_=>⟨d,Nat.le_refl _,rfl⟩
  | .node a b,d,k + 1,h=>by
    simp only [enc,List.take_succ_cons,dep,if_pos]
    simp only [enc,List.length_cons,List.length_append] at h
    by_cases hk:k < (enc a).length
    · obtain ⟨e,h1,h2⟩:=dep_pre a (d + 1) k hk
      refine ⟨e,by exact Nat.le_of_lt h1,?_⟩
      rw [List.take_append_of_le_length (Nat.le_of_lt hk)]; exact h2
    · obtain ⟨e,h1,h2⟩:=dep_pre b d (k - (enc a).length) (by lia)
      refine ⟨e,h1,?_⟩
      rw [List.take_append,List.take_of_length_le (by lia),dep_enc a d]; exact h2
private theorem esc_par:∀ (l:List Nat) (i:Nat),(∀ c∈l,par c)→(esc i false l).map (·.2) = l.map fun c=>[c]
  | [],_,_=>rfl
  | c :: r,i,h=>by
    have hc:c ≠ 92:=by rcases h c List.mem_cons_self with rfl | rfl <;> decide
    simp only [esc,if_neg hc,List.map_cons]
    rw [esc_par r (i + 1) fun d hd=>h d (List.mem_cons_of_mem _ hd)]
private theorem open_none:∀ l:List (Nat × List Nat),l.foldl openStep none = none
  | []=>rfl
  | _ :: r=>open_none r
private theorem open_par:∀ (l:List (Nat × List Nat)) (m:List Nat) (d:Nat),l.map (·.2) = m.map (fun c=>[c])→(∀ c∈m,par c)→l.foldl openStep (some (d:Int)) = (dep d m).map fun n=>(n:Int)
  | [],[],d,_,_=>rfl
  | [],_ :: _,_,h,_=>by simp at h
  | _ :: _,[],_,h,_=>by simp at h
  | x :: l,c :: m,d,h,hp=>by
    simp only [List.map_cons,List.cons.injEq] at h
    have hp':∀ c∈m,par c:=fun d hd=>hp d (List.mem_cons_of_mem _ hd)
    rw [List.foldl_cons]
    rcases hp c List.mem_cons_self with rfl | rfl
    · have e:openStep (some (d:Int)) x = some ((d + 1:Nat):Int):=by simp [openStep,h.1]
      have e2:dep d (40 :: m) = dep (d + 1) m:=by simp [dep]
      rw [e,e2]; exact open_par l m (d + 1) h.2 hp'
    · rcases d with _ | d
      · have e:openStep (some ((0:Nat):Int)) x = none:=by simp [openStep,h.1]
        have e2:dep 0 (41 :: m) = none:=by simp [dep]
        rw [e,e2]; exact open_none l
      · have e:openStep (some ((d + 1:Nat):Int)) x = some (d:Int):=by
          simp only [openStep,h.1,show ¬(([41]:List Nat) = [40]) by decide,if_false,if_true]
          rw [if_neg (by lia)]; congr 1; lia
        have e2:dep (d + 1) (41 :: m) = dep d m:=by simp [dep]
        rw [e,e2]; exact open_par l m d h.2 hp'
private theorem checkF_par {l:List Nat} (h:∀ c∈l,par c):checkF l = decide (dep 0 l = some 0):=by
  have hs:stripF l = l:=by
    unfold stripF
    rw [if_neg (fun hm=>by rcases h _ hm with h | h <;> cases h)]
  unfold checkF
  rw [hs,show ((0:Int)) = ((0:Nat):Int) from rfl,open_par _ l 0 (esc_par l 0 h) h]
  cases dep 0 l with
  | none=>rfl
  | some n=>simp
private theorem check_pre (T:Tr) (k:Nat) (hk:k < (enc T).length):checkF (40 :: (enc T).take k) = false:=by
  rw [checkF_par (fun c hc=>by
    rcases List.mem_cons.mp hc with rfl | hc
    · exact .inl rfl
    · exact enc_par T c (List.mem_of_mem_take hc))]
  obtain ⟨e,h1,h2⟩:=dep_pre T 1 k hk
  simp only [dep,if_pos]
  rw [h2]; simp; exact Nat.ne_of_gt h1
private theorem check_enc (T:Tr):checkF (40 :: enc T) = true:=by
  rw [checkF_par (fun c hc=>by
    rcases List.mem_cons.mp hc with rfl | hc
    · exact .inl rfl
    · exact enc_par T c hc)]
  have:=dep_enc T 0 []
  simp only [List.append_nil] at this
  simp only [dep,if_pos]
  rw [this]; rfl
end
section
open PySem PySem.W PyProof.Rows PySem.Calls PySem.SeqAt
private theorem cut_head (l r:Tr):rowT (.node l r) = 40 :: (enc l++rowT r):=by rw [rowT_node,← rowT_snoc l]; simp
private theorem cut_step {l r:Tr} {k:Nat} (hk:k < l.sz):cutC (rowT (.node l r)) k = true:=by
  have el:=enc_len l
  have hlen:(rowT (.node l r)).length = 2 * l.sz + 2 * r.sz + 2:=by rw [rowT_len]; simp only [Tr.sz]; lia
  unfold cutC
  have e:(rowT (.node l r)).take (2 + 2 * k) = 40 :: (enc l).take (2 * k + 1):=by
    rw [cut_head,show 2 + 2 * k = (2 * k + 1) + 1 by lia,List.take_succ_cons,List.take_append_of_le_length (by lia)]
  rw [e,check_pre l _ (by lia),decide_eq_true (by lia)]; rfl
private theorem cut_stop (l r:Tr):cutC (rowT (.node l r)) l.sz = false:=by
  have el:=enc_len l
  unfold cutC
  have e:(rowT (.node l r)).take (2 + 2 * l.sz) = 40 :: enc l:=by
    rw [cut_head,show 2 + 2 * l.sz = (enc l).length + 1 by lia,List.take_succ_cons,List.take_left]
  rw [e,check_enc l]; simp
private theorem cut_in (l r:Tr):sl (some 1) (some ((2 + 2 * l.sz:Nat) - 1:Int)) (rowT (.node l r)) = rowT l:=by
  have ll:=rowT_len l
  rw [show ((2 + 2 * l.sz:Nat):Int) - 1 = ((2 + 2 * l.sz - 1:Nat):Int) by lia]
  refine (sl_both _ 1 _).trans ?_
  rw [rowT_node,show 2 + 2 * l.sz - 1 = (rowT l).length + 1 by lia,List.take_succ_cons,List.take_left]; rfl
private theorem cut_out (l r:Tr):sl (some ((2 + 2 * l.sz:Nat):Int)) none (rowT (.node l r)) = rowT r:=by
  have ll:=rowT_len l
  rw [sl_drop,rowT_node,show 2 + 2 * l.sz = (rowT l).length + 1 + 1 by lia,List.drop_succ_cons,← List.drop_drop,List.drop_left]; rfl
noncomputable def comb (xs ys:List Tr):List Tr:=xs.flatMap fun l=>ys.map (Tr.node l)
noncomputable def tab:Nat→List (List Tr)
  | 0=>[[.leaf]]
  | n + 1=>tab n++[(List.range (n + 1)).flatMap fun i=>comb ((tab n).getD i []) ((tab n).getD (n - i) [])]
noncomputable def trs (n:Nat):List Tr:=(tab n).getD n []
private theorem tab_len:∀ n,(tab n).length = n + 1
  | 0=>rfl
  | n + 1=>by show (tab n++_).length = _; rw [List.length_append,tab_len n]; rfl
private theorem tab_get:∀ n i,i≤n→(tab n).getD i [] = trs i
  | 0,0,_=>rfl
  | n + 1,i,h=>by
    rcases Nat.lt_or_ge i (n + 1) with h1 | h1
    · show (tab n++_).getD i [] = _
      rw [List.getD_eq_getElem?_getD,List.getElem?_append_left (by rw [tab_len]; exact h1),← List.getD_eq_getElem?_getD]
      exact tab_get n i (Nat.le_of_lt_succ h1)
    · rw [Nat.le_antisymm h h1]; rfl
private theorem trs_succ (n:Nat):trs (n + 1) = (List.range (n + 1)).flatMap fun i=>comb ((tab n).getD i []) ((tab n).getD (n - i) []):=by
  show (tab n++_).getD (n + 1) [] = _
  rw [List.getD_eq_getElem?_getD,List.getElem?_append_right (by rw [tab_len]; exact Nat.le_refl _),tab_len,Nat.sub_self]; rfl
private theorem mem_trs:∀ t:Tr,t∈trs t.sz
  | .leaf=>List.mem_singleton.mpr rfl
  | .node l r=>by
    show _∈trs (l.sz + r.sz + 1)
    rw [trs_succ]
    refine List.mem_flatMap.mpr ⟨l.sz,List.mem_range.mpr (by lia),?_⟩
    rw [tab_get _ _ (by lia),tab_get _ _ (by lia),show l.sz + r.sz - l.sz = r.sz by lia]
    exact List.mem_flatMap.mpr ⟨l,mem_trs l,List.mem_map.mpr ⟨r,mem_trs r,rfl⟩⟩
noncomputable abbrev QE:=Tr × Nat × Nat
noncomputable def triOf (l r:Tr) (a:Nat):Tri:=(((a + l.sz:Nat):Int),((a:Nat):Int),((a + l.sz + r.sz:Nat):Int))
noncomputable def stepQ:List QE × List Tri→List QE × List Tri
  | ((.node l r,a,_) :: q,ps)=>(q++[(l,a,34),(r,a + l.sz + 1,32)],ps++[triOf l r a])
  | (_ :: q,ps)=>(q,ps)
  | ([],ps)=>([],ps)
noncomputable def bfsAt (T:Tr):Nat→List QE × List Tri
  | 0=>([(T,0,0)],[])
  | k + 1=>stepQ (bfsAt T k)
noncomputable def ioF:Tr→Nat→List Tri
  | .leaf,_=>[]
  | .node l r,a=>ioF l a++triOf l r a :: ioF r (a + l.sz + 1)
noncomputable def bfsF (T:Tr):List Tri:=(bfsAt T (2 * T.sz + 1)).2
noncomputable def sortOk (T:Tr):Bool:=match kasGo (fun i j=>lex3 ((bfsF T).getD i (0,0,0)) ((bfsF T).getD j (0,0,0))) (bfsF T).length (kas_sort (bfsF T).length) with
  | some p=>(p.toList.map fun i=>(bfsF T).getD i (0,0,0)) == ioF T 0 && p.toList.all fun i=>decide (i < (bfsF T).length)
  | none=>false
private theorem sort4:(trs 4).all sortOk = true:=by decide +kernel
private theorem sort5:(trs 5).all sortOk = true:=by decide +kernel
private theorem sort6:(trs 6).all sortOk = true:=by decide +kernel
structure QI (T:Tr) (k:Nat) (st:List QE × List Tri):Prop where
  m:(st.1.map fun x=>2 * x.1.sz + 1).sum + k = 2 * T.sz + 1
  c:st.2.length + (st.1.map fun x=>x.1.sz).sum = T.sz
  r:∀ x∈st.1,x.2.1 + x.1.sz≤T.sz
private theorem QI.step {T:Tr} {k:Nat} {st:List QE × List Tri} (h:QI T k st) (hk:k < 2 * T.sz + 1):QI T (k + 1) (stepQ st):=by
  obtain ⟨q,ps⟩:=st
  have hm:(q.map fun x=>2 * x.1.sz + 1).sum + k = 2 * T.sz + 1:=h.m
  have hc:ps.length + (q.map fun x=>x.1.sz).sum = T.sz:=h.c
  cases q with
  | nil=>rw [List.map_nil,List.sum_nil,Nat.zero_add] at hm; exact absurd hm (Nat.ne_of_lt hk)
  | cons x q =>
    obtain ⟨t,a,s⟩:=x
    rw [List.map_cons,List.sum_cons] at hm hc
    cases t with
    | leaf=>exact ⟨by show (q.map _).sum + (k + 1) = _; simp only [Tr.sz] at hm; lia,by show ps.length + (q.map _).sum = _; simp only [Tr.sz] at hc; lia,fun x hx=>h.r x (List.mem_cons_of_mem _ hx)⟩
    | node l r =>
      have hr:=h.r _ List.mem_cons_self
      simp only [Tr.sz] at hm hc hr
      refine ⟨?_,?_,fun x hx=>?_⟩
      · show ((q++_).map _).sum + (k + 1) = _
        rw [List.map_append,List.sum_append]; simp only [List.map_cons,List.map_nil,List.sum_cons,List.sum_nil]; lia
      · show (ps++_).length + ((q++_).map _).sum = _
        rw [List.map_append,List.sum_append,List.length_append]; simp only [List.map_cons,List.map_nil,List.sum_cons,List.sum_nil,List.length_cons,List.length_nil]; lia
      · rcases List.mem_append.mp (show x∈q++_ from hx) with hx | hx
        · exact h.r x (List.mem_cons_of_mem _ hx)
        · rcases List.mem_cons.mp hx with rfl | hx
          · show a + l.sz≤_; lia
          · rw [List.mem_singleton.mp hx]; show a + l.sz + 1 + r.sz≤_; lia
private theorem bfsQI (T:Tr):∀ k,k≤2 * T.sz + 1→QI T k (bfsAt T k)
  | 0,_=>⟨by simp [bfsAt],by simp [bfsAt],fun x hx=>by rw [List.mem_singleton.mp hx]; show 0 + _≤_; lia⟩
  | k + 1,h=>(bfsQI T k (Nat.le_of_succ_le h)).step h
private theorem bfs_cons {T:Tr} {k:Nat} (h:k < 2 * T.sz + 1):∃ x q,(bfsAt T k).1 = x :: q:=by
  have:=(bfsQI T k (Nat.le_of_lt h)).m
  cases e:(bfsAt T k).1 with
  | nil=>rw [e,List.map_nil,List.sum_nil,Nat.zero_add] at this; exact absurd this (Nat.ne_of_lt h)
  | cons x q=>exact ⟨x,q,rfl⟩
private theorem bfs_end (T:Tr):(bfsAt T (2 * T.sz + 1)).1 = []∧(bfsF T).length = T.sz:=by
  have h:=bfsQI T _ (Nat.le_refl _)
  have hm:=h.m
  have hc:=h.c
  cases e:(bfsAt T (2 * T.sz + 1)).1 with
  | nil=>rw [e,List.map_nil,List.sum_nil,Nat.add_zero] at hc; exact ⟨rfl,hc⟩
  | cons x q=>rw [e,List.map_cons,List.sum_cons] at hm; lia
private theorem sort_ok {T:Tr} (h:T.sz = 4∨T.sz = 5∨T.sz = 6):sort3 (bfsF T) = some (ioF T 0)∧∀ p,kasGo (fun i j=>lex3 ((bfsF T).getD i (0,0,0)) ((bfsF T).getD j (0,0,0))) (bfsF T).length (kas_sort (bfsF T).length) = some p→∀ i∈p.toList,i < (bfsF T).length:=by
  have hm:=mem_trs T
  have h1:sortOk T = true:=by
    rcases h with h | h | h <;> rw [h] at hm
    · exact List.all_eq_true.mp sort4 _ hm
    · exact List.all_eq_true.mp sort5 _ hm
    · exact List.all_eq_true.mp sort6 _ hm
  unfold sortOk at h1
  unfold sort3
  cases e:kasGo (fun i j=>lex3 ((bfsF T).getD i (0,0,0)) ((bfsF T).getD j (0,0,0))) (bfsF T).length (kas_sort (bfsF T).length) with
  | none=>rw [e] at h1; cases h1
  | some p =>
    rw [e] at h1
    have h1:=Bool.and_eq_true_iff.mp h1
    exact ⟨congrArg some (beq_iff_eq.mp h1.1),fun p' hp i hi=>of_decide_eq_true (List.all_eq_true.mp h1.2 i (Option.some.inj hp ▸ hi))⟩
private theorem ioF_len:∀ (T:Tr) (a:Nat),(ioF T a).length = T.sz
  | .leaf,_=>rfl
  | .node l r,a=>by
    show (ioF l a++_ :: ioF r _).length = _
    rw [List.length_append,List.length_cons,ioF_len l,ioF_len r]; simp only [Tr.sz]; lia
end
section
open PySem PySem.W PyProof.Rows PySem.Calls PySem.SeqAt
private theorem ItV.tup' {X:Amb} {D:Nat} {tgt:Expr} {m:Mem} {xs ys:List AV} (e:xs = ys):ItV X D tgt m (.tup xs) ys:=e ▸ .tup
structure Side (M:List (List Nat)→Mem) (j i p:Nat) (ln:Int) (cs:List Nat):Prop where
  at':∀ q,q.length≤100000→LexAt (M q) j ln i p cs q
  set:∀ q q',(M q).set p (.lst (q'.map .str)) = M q'
section
variable {X:Amb} {D:Nat} {m:Mem} {M:List (List Nat)→Mem} {j i p:Nat} {ln:Int} {cs:List Nat}
private theorem Side.push (kn:KnL X) (hD:4≤D) (sd:Side M j i p ln cs) {q:List (List Nat)} {t:List Nat} (h:q.length≤100000):Mt X (D + 1) "push_token" (M q) (M q) (.inst 133 j) [.str t] .none (M (q++[t])):=by
  obtain ⟨mN,cl,lx⟩:=kn.cls
  exact sd.set q (q++[t]) ▸ .inst cl lx.pt kn.mp lo_pt (sd.at' q h).ns rfl (op_push kn hD (sd.at' q h))
private theorem Side.tok (kn:KnL X) (hD:4≤D) (sd:Side M j i p ln cs) {q:List (List Nat)} {t:List Nat} (h:q.length < 100000):Mt X (D + 1) "get_token" (M (t :: q)) (M (t :: q)) (.inst 133 j) [] (.str t) (M q):=by
  obtain ⟨mN,cl,lx⟩:=kn.cls
  have A:=sd.at' (t :: q) h
  exact sd.set (t :: q) q ▸ .inst cl lx.gt kn.mg lo_gt A.ns rfl (op_gtPush kn hD A)
noncomputable def prM (m:Mem) (p:Nat) (ps:List Tri) (q:List (List Nat)):Mem:=sn (m.set p (.lst (q.map .str))) (.lst (ps.map t3))
private theorem prM_get {ps:List Tri} {q:List (List Nat)}:(prM m p ps q)[m.length]? = some (.lst (ps.map t3)):=by
  have:=sn_get (m.set p (.lst (q.map .str))) (.lst (ps.map t3))
  rw [List.length_set] at this; exact this
private theorem prM_set {ps ps':List Tri} {q:List (List Nat)}:(prM m p ps q).set m.length (.lst (ps'.map t3)) = prM m p ps' q:=by
  have:=sn_set (m.set p (.lst (q.map .str))) (.lst (ps.map t3)) (.lst (ps'.map t3))
  rw [List.length_set] at this; exact this
private theorem side_of (L:LexAt m j ln i p cs []) (ps:List Tri):Side (prM m p ps) j i p ln cs:=by
  have hj:=L.lt.1
  have hi:=L.lt.2.1
  have hp:=L.lt.2.2
  have at':∀ (q:List (List Nat)) (k:Nat),k < m.length→k ≠ p→(prM m p ps q)[k]? = m[k]?:=fun q k hk hn=>by
    unfold prM sn
    rw [List.getElem?_append_left (by rw [List.length_set]; exact hk),List.getElem?_set_ne hn.symm]
  refine ⟨fun q hq=>⟨(at' q j hj L.pj.symm).trans L.ns,(at' q i hi L.ip).trans L.hcs,?_,L.ij,L.pj,L.ip,L.ok,L.sz,hq⟩,fun q q'=>?_⟩
  · unfold prM sn
    rw [List.getElem?_append_left (by rw [List.length_set]; exact hp),List.getElem?_set_self hp]
  · unfold prM sn
    rw [List.set_append_left _ _ (by rw [List.length_set]; exact hp),List.set_set]
private theorem okS_row (t:Tr):okS (rowT t):=fun c hc=>(rowT_par t c hc).elim (fun h=>h ▸ by decide) fun h=>h ▸ by decide
noncomputable def qW (x:QE):List (List Nat):=[rowT x.1,List.replicate x.2.1 x.2.2]
noncomputable def qWs (q:List QE):List (List Nat):=q.flatMap qW
private theorem qWs_len (q:List QE):(qWs q).length = 2 * q.length:=by
  induction q with
  | nil=>rfl
  | cons x q ih=>show (qW x++qWs q).length = _; rw [List.length_append,ih,List.length_cons]; show 2 + _ = _; lia
private theorem QI.len {T:Tr} {k:Nat} {st:List QE × List Tri} (h:QI T k st):st.1.length≤2 * T.sz + 1:=by
  have h1:∀ q:List QE,q.length≤(q.map fun x=>2 * x.1.sz + 1).sum:=fun q=>by
    induction q with
    | nil=>exact Nat.le_refl _
    | cons x q ih=>rw [List.map_cons,List.sum_cons,List.length_cons]; lia
  have:=h1 st.1
  have:=h.m
  lia
noncomputable def prL (jx:Nat) (j:Nat) (T:Tr):Lc:=bd "pairs" (.mref jx) (bd "lexer" (.inst 133 j) (bd "row" (.str (rowT T)) []))
private theorem half2 (k:Nat):(((2 + 2 * k:Nat):Int)).fdiv 2 = 1 + k:=by
  rw [Int.fdiv_eq_ediv_of_nonneg _ (by decide)]; lia
private theorem op_pairs (kn:KnL X) (hD:15≤D∧D≤500) {T:Tr} (hT:T.sz = 4∨T.sz = 5∨T.sz = 6) (L:LexAt m j ln i p cs []):Fn X (D + 1) "_law_pairs" m [.inst 133 j,.str (rowT T)] (.lst ((ioF T 0).map t3)) m:=by
  obtain ⟨D,rfl⟩:∃ d,D = d + 1:=⟨D - 1,by lia⟩
  have hD4:4≤D + 1:=by lia
  have hDc:13≤D∧D≤500:=by lia
  have hD3:4≤D:=by lia
  have hn:T.sz≤6:=by lia
  have hrl:=rowT_len T
  have e0:sn m (.lst []) = prM m p [] []:=congrArg (fun z=>sn z (.lst [])) (set_same L.hts).symm
  refine (kn.fn 22 170 rfl).mk' kn.lim hD4 (ps:=["lexer","row"]) [] (by rfl) (fun zz zz zz zz zz zz=>rfl) rfl ?_
  refine W.forW (G:=⟨X,D + 1,_,[]⟩) (σ:=Unit) (xs:=[rowT T,[]]) (f:=.str) (av:=.tup [.str (rowT T),.str []]) (m1:=sn m (.lst [])) hD4 .mk (.tup' rfl) (fun zz zz=>prL m.length j T) (fun k zz=>prM m p [] ([rowT T,[]].take k)) (fun zz zz=>True) (.mk () trivial e0 (.rf rfl)) (fun k t s hx zz=>?_) (fun s zz=>?_) (fun zz zz=>rfl)
  · have hk:k < 2:=(List.getElem?_eq_some_iff.mp hx).1
    refine ⟨_,.name rfl,(side_of L []).push kn hD3 (by rw [List.length_take]; lia),.mk (.mk () trivial (congrArg (prM m p []) ?_) (.rf rfl))⟩
    rw [List.take_add_one,hx]; rfl
  · refine W.forW (G:=⟨X,D + 1,_,[]⟩) (σ:=Unit) (xs:=List.range (2 * T.sz + 1)) (f:=fun (i:Nat)=>.int i) (av:=.rng 0 ((2 * T.sz + 1:Nat):Int)) (m1:=prM m p [] [rowT T,[]]) hD4 ⟨.b (kn.bu "len" _ rfl) (.lenS (by lia)),.t (kn.bu "range" _ rfl) .range,isV (congrArg (AV.rng 0) (by rw [hrl]; rfl))⟩ (.rng' (by lia)) (fun zz zz=>prL m.length j T) (fun k zz=>prM m p (bfsAt T k).2 (qWs (bfsAt T k).1)) (fun zz zz=>True) (.mk () trivial rfl (.rf rfl)) (fun k t s hx zz=>?_) (fun s zz=>?_) (fun zz zz=>rfl)
    · cases range_at hx
      have hk:k < 2 * T.sz + 1:=by have:=(List.getElem?_eq_some_iff.mp hx).1; rwa [List.length_range] at this
      obtain ⟨x,q,hq⟩:=bfs_cons hk
      have Q:=bfsQI T k (Nat.le_of_lt hk)
      have hs:bfsAt T (k + 1) = stepQ (bfsAt T k):=rfl
      generalize bfsAt T (k + 1) = st' at hs
      generalize bfsAt T k = st at hq Q hs
      obtain ⟨q0,ps⟩:=st
      subst hq
      have ql:(x :: q).length≤2 * T.sz + 1:=Q.len
      rw [List.length_cons] at ql
      have q2:=qWs_len q
      have hr:=Q.r x List.mem_cons_self
      have hc:ps.length + ((x :: q).map fun x=>x.1.sz).sum = T.sz:=Q.c
      obtain ⟨t,a,s⟩:=x
      have hr:a + t.sz≤T.sz:=hr
      have tl:=rowT_len t
      refine ⟨_,.name rfl,?_⟩
      refine W.tupR (G:=⟨X,D + 1,_,[]⟩) (xs:=["part","ahead","end"]) hD4 (by rfl) rfl rfl ⟨(side_of L ps).tok kn hD3 (t:=rowT t) (q:=List.replicate a s :: qWs q) (by rw [List.length_cons]; lia),(side_of L ps).tok kn hD3 (t:=List.replicate a s) (q:=qWs q) (by lia),.b (kn.bu "len" _ rfl) (.lenS (by rw [List.length_replicate]; lia)),.mk rfl ?_⟩
      rw [List.length_replicate]
      refine ⟨.neS (fun c hc=>?_) okS_nil hD4,?_⟩
      · exact okS_row t c hc
      · cases t with
        | leaf=>exact .f rfl (hs ▸ .mk () trivial rfl (.rf rfl))
        | node l r =>
          have hzl:(rowT (.node l r)).length≤12:=by lia
          have hsz:(Tr.node l r).sz = l.sz + r.sz + 1:=rfl
          rw [hsz] at hr tl
          refine .t (congrArg (fun z=>!z) (decide_eq_false fun h=>by rw [h] at tl; exact absurd tl (by show 0 ≠ _; lia))) ?_
          refine W.whileW (G:=⟨X,D + 1,_,[]⟩) (σ:=Nat) hD4 (fun k=>bd "end" (.int (2 + 2 * k:Nat)) (bd "part" (.str (rowT (.node l r))) (bd "ahead" (.int (a:Nat)) (prL m.length j T)))) (fun zz=>prM m p ps (qWs q)) (fun n k=>n + k = l.sz) l.sz (.mk 0 (Nat.add_zero _) rfl (.rf rfl)) (fun n k I=>?_)
          have hcu:=cut_is (rowT (.node l r)) k
          have hck:=op_check (m:=prM m p ps (qWs q)) (l:=sl none (some ((2 + 2 * k:Nat):Int)) (rowT (.node l r))) kn.toKn hDc (Nat.le_trans (sl_len _) (by lia)) (okS_sl (okS_row _))
          cases n with
          | succ n=>exact .go ⟨.b (kn.bu "len" _ rfl) (.lenS (by lia)),fun zz=>⟨.str (by lia),hck,.isNotB,.mk⟩,hcu.trans (cut_step (by lia)),n,Nat.lt_succ_self _,.mk (k + 1) (by lia) rfl (.rf rfl)⟩
          | zero =>
            have hk0:k = l.sz:=(Nat.zero_add k).symm.trans I
            subst hk0
            have hx3:AV.tup [.int ((a:Int) + ((2 + 2 * l.sz:Nat):Int).fdiv 2 - 1),.int a,.int ((a:Int) + ((rowT (.node l r)).length:Int).fdiv 2 - 1)] = t3 (triOf l r a):=by
              have h2:((rowT (.node l r)).length:Int).fdiv 2 = 1 + ((l.sz + r.sz:Nat):Int):=by rw [show (rowT (.node l r)).length = 2 + 2 * (l.sz + r.sz) by lia]; exact half2 _
              rw [half2,h2,show (a:Int) + (1 + (l.sz:Int)) - 1 = ((a + l.sz:Nat):Int) by lia,show (a:Int) + (1 + ((l.sz + r.sz:Nat):Int)) - 1 = ((a + l.sz + r.sz:Nat):Int) by lia]; rfl
            have hap:(prM m p ps (qWs q)).set m.length (.lst (ps.map t3++[AV.tup [.int ((a:Int) + ((2 + 2 * l.sz:Nat):Int).fdiv 2 - 1),.int a,.int ((a:Int) + ((rowT (.node l r)).length:Int).fdiv 2 - 1)]])) = prM m p (ps++[triOf l r a]) (qWs q):=by
              rw [hx3,show ps.map t3++[t3 (triOf l r a)] = (ps++[triOf l r a]).map t3 by rw [List.map_append]; rfl]; exact prM_set
            have e1:=cut_in l r
            have e2:=cut_out l r
            have hp1:(a:Int) + ((2 + 2 * l.sz:Nat):Int).fdiv 2 - 1 + 1 = ((a + l.sz + 1:Nat):Int):=by rw [half2]; lia
            refine .no ⟨.b (kn.bu "len" _ rfl) (.lenS (by lia)),fun zz=>⟨.str (by lia),hck,.isNotB,.mk⟩,hcu.trans (cut_stop l r),.div (by decide) (by decide),.b (kn.bu "len" _ rfl) (.lenS (by lia)),.div (by decide) (by decide),.append prM_get prM_get (by rw [List.length_map]; lia) hap,.mk ?_⟩
            refine W.forW (G:=⟨X,D + 1,_,[]⟩) (σ:=Unit) (xs:=[rowT l,List.replicate a 34,rowT r,List.replicate (a + l.sz + 1) 32]) (f:=.str) (av:=.tup [.str (rowT l),.str (List.replicate a 34),.str (rowT r),.str (List.replicate (a + l.sz + 1) 32)]) (m1:=prM m p (ps++[triOf l r a]) (qWs q)) hD4 ⟨.str (by lia),.mulS (by lia) (by lia),.str (by lia),.mulS (by lia) (by lia),isV ?_⟩ (.tup' rfl) (fun zz zz=>prL m.length j T) (fun k zz=>prM m p (ps++[triOf l r a]) (qWs q++[rowT l,List.replicate a 34,rowT r,List.replicate (a + l.sz + 1) 32].take k)) (fun zz zz=>True) (.mk () trivial (congrArg (prM m p _) (List.append_nil _).symm) (.rf rfl)) (fun k t s hx zz=>?_) (fun s zz=>?_) (fun zz zz=>rfl)
            · rw [hp1,e1,e2]; rfl
            · have hk4:k < 4:=(List.getElem?_eq_some_iff.mp hx).1
              refine ⟨_,.name rfl,(side_of L _).push kn hD3 (by rw [List.length_append,List.length_take]; lia),.mk (.mk () trivial (congrArg (prM m p _) ?_) (.rf rfl))⟩
              rw [List.take_add_one,hx,List.append_assoc]; rfl
            · refine hs ▸ .mk () trivial (congrArg (prM m p _) ?_) (.rf rfl)
              show _ = (q++_).flatMap qW
              rw [List.flatMap_append]; rfl
    · rw [List.length_range]
      obtain ⟨e1,e2⟩:=bfs_end T
      obtain ⟨s1,s2⟩:=sort_ok hT
      rw [e1]
      have e3:qWs [] = []:=rfl
      rw [e3]
      have e4:sn (prM m p (bfsF T) []) (.lst ((ioF T 0).map t3)) = m++[.lst ((bfsF T).map t3),.lst ((ioF T 0).map t3)]:=by
        have hL:m.set p (.lst []) = m:=set_same L.hts
        show (m.set p (.lst [])++[_])++[_] = _
        rw [hL,List.append_assoc]; rfl
      refine ⟨.b (kn.bu "sorted" _ rfl) (.sorted3 (ts:=bfsF T) (out:=ioF T 0) prM_get (by rw [e2]; lia) (by rw [e2]; lia) s1 (by rw [e2,ioF_len]) s2),?_⟩
      exact .eq e4 fun M=>.mrefL (by unfold prM; rw [sn_len,List.length_set]; exact Nat.le_succ _) (sn_get _ _) (.map (fun x=>.tupL (.cons (.int _) (.cons (.int _) (.cons (.int _) .nil)))) _)
end
end
section
open PySem PySem.W PyProof.Rows PySem.Calls PySem.SeqAt
structure OutE (X:Amb) (M:Map) (e:Env):Prop where
  k:e.scope.kind = .function
  f:e.frame = some e.locals
  b:X.B.h e.locals = none
  m:∃ o,M.h e.locals = some (.pin o)∧∃ es ep,o.data = .dict es ep
noncomputable def Out (X:Amb) (M:Map) (l:List Env):Prop:=∀ e∈l,OutE X M e
structure Map.leS (own:List Addr) (l:List Env) (M N:Map):Prop where
  h:∀ a x,a ∉ own→(∀ e∈l,a ≠ e.locals)→M.h a = some x→N.h a = some x
  s:∀ e∈l,∀ o,e.locals ∉ own→M.h e.locals = some (.pin o)→∃ sl,N.h e.locals = some (.pin { o with slots:=sl })
  g:∀ i x,M.g i = some x→N.g i = some x
section
variable {X:Amb} {D:Nat} {sc:Names} {env:Env} {own:List Addr} {l:List Env} {c d:Cf} {M N O:Map} {L L':Lc} {m m' m1:Mem}
private theorem Map.leB.s (h:Map.leB own M N) (l:List Env):Map.leS own l M N:=⟨fun a x n zz e=>h.h a x n e,fun e zz o n q=>⟨o.slots,h.h _ _ n q⟩,h.g⟩
private theorem Map.leS.tr (x:Map.leS own l M N) (y:Map.leS own l N O):Map.leS own l M O:=⟨fun a c n k e=>y.h a c n k (x.h a c n k e),fun e he o n q=>(x.s e he o n q).elim fun sl q=>(y.s e he _ n q).imp fun zz q=>q,fun i c e=>y.g i c (x.g i c e)⟩
private theorem Out.up (o:Out X M l) (h:M.le N):Out X N l:=fun e he=>{ o e he with m:=(o e he).m.imp fun zz q=>⟨h.h _ _ q.1,q.2⟩ }
private theorem Out.s (o:Out X M l) (n:∀ e∈l,e.locals ∉ own) (h:Map.leS own l M N):Out X N l:=fun e he=>{ o e he with m:=(o e he).m.elim fun q z=>(h.s e he q (n e he) z.1).elim fun sl w=>⟨_,w,z.2⟩ }
private theorem Map.leS.l0 (h:Map.leS [] l M N) (o:Out X M l):M.le0 N:=fun a x e n=>by
  refine h.h a x List.not_mem_nil (fun e' he q=>?_) e
  subst q
  obtain ⟨w,z,_⟩:=(o e' he).m
  rw [z] at e; cases e; exact n _ rfl
private theorem Map.leS.ob (h:Map.leS [] l M N) (o:Out X M l) {a:Addr} {q:Obj} (e:M.ob a q):∃ q',N.ob a q'∧q'.data = q.data:=by
  by_cases k:∃ e∈l,a = e.locals
  · obtain ⟨e',he,rfl⟩:=k
    obtain ⟨w,z,_⟩:=(o e' he).m
    rcases e with e | e
    · rw [z] at e; cases e
    · exact (h.s e' he q List.not_mem_nil e).elim fun sl w=>⟨_,.inr w,rfl⟩
  · exact ⟨q,e.imp (h.h a _ List.not_mem_nil fun e he z=>k ⟨e,he,z⟩) (h.h a _ List.not_mem_nil fun e he z=>k ⟨e,he,z⟩),rfl⟩
private theorem FS.out (F:FS X env sc own c m L) (f:env.frame = some env.locals):OutE X c.M env:=⟨F.N.kind,f,(F.ow _ F.L).2,(F.ow _ F.L).1.elim fun o e=>⟨o,e,by
  obtain ⟨_,o',es,ep,h1,h2,_⟩:=F.ns
  rw [F.S.pin e] at h1; cases h1
  exact ⟨es,ep,h2⟩⟩⟩
private theorem FS.lax (F:FS X env sc own c m L) (o:Out X c.M l) (n:∀ e∈l,e.locals∈own→e.locals = env.locals) (h:Map.leS [] l c.M d.M) (S:Hp X d m1):FS X env sc own d m1 L :=
  have nf:∀ a∈own,a ≠ env.locals→∀ x,c.M.h a = some x→d.M.h a = some x:=fun a ha na x e=>h.h a x List.not_mem_nil (fun e he q=>na (q.trans (n e he (q ▸ ha)))) e
  have ow:∀ a∈own,(∃ o,d.M.h a = some (.pin o)):=fun a ha=>by
    obtain ⟨q,e⟩:=(F.ow a ha).1
    by_cases k:∃ e∈l,a = e.locals
    · obtain ⟨e',he,rfl⟩:=k
      exact (h.s e' he q List.not_mem_nil e).elim fun sl w=>⟨_,w⟩
    · exact ⟨q,h.h a _ List.not_mem_nil (fun e he z=>k ⟨e,he,z⟩) e⟩
  have loc:∀ o,c.M.h env.locals = some (.pin o)→∃ o',d.M.h env.locals = some (.pin o')∧o'.data = o.data:=fun o' e=>by
    obtain ⟨q,w,r⟩:=h.ob o (.inr e)
    obtain ⟨z,hz⟩:=ow _ F.L
    rcases w with w | w
    · rw [hz] at w; cases w
    · exact ⟨q,w,r⟩
  { F with
    S:=S
    N:={ F.N with
      cel:=fun x a e=>(F.N.cel x a e).elim fun q w=>(h.ob o w).imp fun zz z=>z.1
      var:=fun x av e=>(F.N.var x av e).imp fun v q=>⟨q.1.up0 (h.l0 o),by
        cases q.2 with
        | loc a b c d e=>exact (loc _ b).elim fun o' z=>.loc a z.1 (z.2.trans c) d e
        | cel a b c d=>exact (h.ob o c).elim fun o' z=>.cel a b z.1 (z.2.trans d)⟩ }
    ow:=fun a ha=>⟨ow a ha,(F.ow a ha).2⟩
    ns:=F.ns.imp fun mm hm=>by
      obtain ⟨o1,es,ep,e,h1,r⟩:=hm
      obtain ⟨q,hq⟩:=(F.ow _ F.L).1
      rw [F.S.pin hq] at e; cases e
      obtain ⟨o',w1,w2⟩:=loc _ hq
      exact ⟨o',es,ep,S.pin w1,w2.trans h1,r⟩
    cell:=fun x a e ha=>(F.cell x a e ha).imp fun v hv=>by
      obtain ⟨q,hq⟩:=(F.ow a ha).1
      obtain ⟨o1,e1,r⟩:=hv
      rw [F.S.pin hq] at e1; cases e1
      exact ⟨q,S.pin (nf a ha (F.cL x a e ha) _ hq),r⟩ }
structure Near (X:Amb) (cq:Value × Str) (env:Env) (own:List Addr) (A:Around) (M:Map) (l:List Env):Prop where
  a:A.frames = some (env :: l)
  cd:env.code = cq.1
  q:env.qual = cq.2
  f:env.frame = some env.locals
  o:Out X M l
  n:∀ e∈l,e.locals ∉ own
variable {A:Around} {cq:Value × Str}
private theorem Near.s (N:Near X cq env own A c.M l) (h:Map.leS own l c.M d.M):Near X cq env own A d.M l:={ N with o:=N.o.s N.n h }
private theorem Near.out (N:Near X cq env own A c.M l) (F:FS X env sc own c m L):Out X c.M (env :: l):=fun e he=>(List.mem_cons.mp he).elim (fun q=>q ▸ F.out N.f) (N.o e)
private theorem Near.lax (N:Near X cq env own A c.M l) (F:FS X env sc own c m L) (h:Map.leS [] (env :: l) c.M d.M) (S:Hp X d m1):FS X env sc own d m1 L :=
  F.lax (N.out F) (fun e he q=>(List.mem_cons.mp he).elim (fun z=>congrArg _ z) fun z=>absurd q (N.n e z)) h S
private theorem Near.leS (N:Near X cq env own A c.M l) (F:FS X env sc own c m L) (h:Map.leS [] (env :: l) c.M d.M):Map.leS own l c.M d.M :=
  ⟨fun a x n k e=>h.h a x List.not_mem_nil (fun e he q=>(List.mem_cons.mp he).elim (fun z=>n (by rw [q,z]; exact F.L)) fun z=>k e z q) e,fun e he o zz q=>h.s e (List.mem_cons_of_mem _ he) o List.not_mem_nil q,h.g⟩
structure FinP (X:Amb) (env:Env) (sc:Names) (own:List Addr) (l:List Env) (c:Cf) (P:RP) (v:Flow) (d:Cf) (fl:AFlow) (L:Lc) (m:Mem):Prop where
  l:Map.leS own l c.M d.M
  F:FinF X env sc own d L m fl
  r:RepF d.M fl v
  p:P fl L m
section
variable (X:Amb) (D:Nat) (sc:Names) (cq:Value × Str)
noncomputable def WSF (st:Stmt) (L:Lc) (m:Mem) (P:RP):Prop :=
  ∀ (env:Env) (own:List Addr) (A:Around) (c:Cf) (l:List Env),Now X D sc env own A c L m→Near X cq env own A c.M l→∀ Q E,(∀ v d fl L' m',FinP X env sc own l c P v d fl L' m'→Q v d.s)→wpAny (model X.prog X.w) A (exec st env) Q E c.s
noncomputable def WF (sts:List Stmt) (L:Lc) (m:Mem) (P:RP):Prop :=
  ∀ (env:Env) (own:List Addr) (A:Around) (c:Cf) (l:List Env),Now X D sc env own A c L m→Near X cq env own A c.M l→∀ Q E,(∀ v d fl L' m',FinP X env sc own l c P v d fl L' m'→Q v d.s)→wpAny (model X.prog X.w) A (execs sts env) Q E c.s
noncomputable def ThenF (rest:List Stmt) (P:RP):RP
  | .next,L,m=>WF X D sc cq rest L m P
  | fl,L,m=>P fl L m
end
variable {P:RP} {rest:List Stmt}
private theorem FinP.fr {v:Flow} {fl:AFlow} {e:Cf} (f:FinP X env sc own l d P v e fl L m) (h:Map.leS own l c.M d.M):FinP X env sc own l c P v e fl L m:={ f with l:=h.tr f.l }
private theorem W.p {sts:List Stmt} (h:W X D sc sts L m P):WF X D sc cq sts L m P:=fun env own A c l T N Q E k=>h env own A c T Q E fun v d fl L' m' f=>k v d fl L' m' ⟨f.l.s l,f.F,f.r,f.p⟩
private theorem WF.seq {st:Stmt} (h:WSF X D sc cq st L m (ThenF X D sc cq rest P)):WF X D sc cq (st :: rest) L m P:=fun env own A c l T N Q E k =>
  wpAny_execs_cons (h env own A c l T N _ _ fun v d fl L' m' f=>by
    cases f.r with
    | next=>exact f.p env own A d l (T.on f.F) (N.s f.l) Q E fun v e fl L m g=>k v e fl L m (g.fr f.l)
    | brk=>exact k _ _ _ _ _ ⟨f.l,f.F,.brk,f.p⟩
    | cont=>exact k _ _ _ _ _ ⟨f.l,f.F,.cont,f.p⟩
    | ret r=>exact k _ _ _ _ _ ⟨f.l,f.F,.ret r,f.p⟩)
private theorem WF.app {pre:List Stmt} (h:W X D sc pre L m (ThenF X D sc cq rest P)):WF X D sc cq (pre++rest) L m P:=fun env own A c l T N Q E k=>by
  rw [execs_app]
  refine wpAny_bind (h env own A c T _ _ fun v d fl L' m' f=>?_)
  have fl:=f.l.s l
  cases f.r with
  | next=>exact f.p env own A d l (T.on f.F) (N.s fl) Q E fun v e fl' L m g=>k v e fl' L m (g.fr fl)
  | brk=>exact wpAny_pure (k _ _ _ _ _ ⟨fl,f.F,.brk,f.p⟩)
  | cont=>exact wpAny_pure (k _ _ _ _ _ ⟨fl,f.F,.cont,f.p⟩)
  | ret r=>exact wpAny_pure (k _ _ _ _ _ ⟨fl,f.F,.ret r,f.p⟩)
structure GotP (X:Amb) (l:List Env) (c:Cf) (m:Mem) (av:AV) (v:Value) (d:Cf):Prop where
  l:Map.leS [] l c.M d.M
  h:Hp X d m
  r:Rep d.M av v
noncomputable def CallP (X:Amb) (D:Nat) (op:List Value→Sem Value) (m:Mem) (avs:List AV) (R:AV→Mem→Prop):Prop :=
  ∀ (A:Around) (c:Cf) (vs:List Value) (l:List Env),A.frames = some l→Out X c.M l→Room A D→Hp X c m→Reps c.M avs vs→∀ Q E,(∀ v d r m',R r m'→GotP X l c m' r v d→Q v d.s)→wpAny (model X.prog X.w) A (op vs) Q E c.s
private theorem Out.fresh (o:Out X M l) (fr:∀ a∈own,M.h a = none):∀ e∈l,e.locals ∉ own:=fun e he q=>(o e he).m.elim fun zz z=>by rw [fr _ q] at z; cases z.1
private theorem Ent.runP {body:List Stmt} {R:AV→Mem→Prop} (e:Ent X D sc env own A c d L m) (f:env.frame = some env.locals) (hcq:cq = (env.code,env.qual)) (fa:A.frames = some (env :: l)) (o:Out X c.M l) (hb:WF X D sc cq body L m (Ret R)) {Q:Value→Shared→Prop} (k:∀ v d r m',R r m'→GotP X l c m' r v d→Q v d.s) :
    wpAny (model X.prog X.w) A (execs body env) (fun f s'=>Q (match f with | .ret v=>v | _=>.none) s') (fun zz zz=>False) d.s :=
  hb env own A d l e.T ⟨fa,by rw [hcq],by rw [hcq],f,o.up e.l,o.fresh e.fr⟩ _ _ fun v d2 fl L' m' f =>
    have nf:=o.fresh e.fr
    have l:Map.leS [] l c.M d2.M:=⟨fun a x zz n q=>f.l.h a x (fun ha=>by rw [e.fr a ha] at q; cases q) n (e.l.h a x q),fun e' he o zz q=>f.l.s e' he o (nf e' he) (e.l.h _ _ q),fun i x q=>f.l.g i x (e.l.g i x q)⟩
    match fl,v,f.r,f.p with
    | _,_,.next,p=>k _ _ _ _ p ⟨l,f.F.S,.none⟩
    | _,_,.ret r,p=>k _ _ _ _ p ⟨l,f.F,r⟩
private theorem FnObj.callP {F:Fd} {a:Addr} {ps:List Str} {avs:List AV} {R:AV→Mem→Prop} {o:Obj} {doc pm cd ct:Value} (h:FnObj X.B F F.name [] .none a o doc pm cd ct) (lim:NoLim X.B) (ok:FnOk ps F.scope) (hbind:∀ doc pm cd ct,BindN (fnXD F F.name [] .none doc pm cd ct) ps [] []) (hl:avs.length = ps.length) (hb:WF X D F.scope.names (cd,F.name++".<locals>.") F.body (ps.zip avs) m (Ret R)) :
    CallP X (D + 1) (opF a) m avs R:=fun A c vs l fa Oo Ro S rs Q E k=>by
  refine wpAny_call (codeAny_call_cells (fd:=fnXD F F.name [] .none doc pm cd ct) (by have:=Ro.2.1; lia) (S.base h.m) h.data (lim.lim S) (h.code.go S) rfl ((hbind doc pm cd ct).to (rs.len.trans hl)) rfl (fun x hx=>?_) (fun s₁ I=>?_) ok.co ok.gen ok.kind)
  · rcases ok.kd _ (List.of_mem_zip hx).1 with h | h
    · exact .inl h
    · exact .inr ⟨h,((mem_cellsFrom (mem_of_lookup h)).elim fun b q=>by
        show ((cellsFrom _ F.scope.names []).lookup x.1).isSome = true
        rw [lookup_mem (cellsFrom_nd ok.nn) q]; rfl)⟩
  · obtain ⟨h₁,tk,rfl⟩:=I.toInCall.same
    exact wpAny_mono ((enterC (tk:=tk) ok Ro S rs ⟨I.toInCall.ns,I.toInCall.keep,I.toInCall.fresh⟩ ⟨I.cell,I.apart,I.above⟩).runP rfl rfl (Around.frames_deeper fa) Oo hb k) (fun zz zz x=>x) fun zz zz x=>x.elim
private theorem CallP.go {x:Str} {F:Fd} {q:Str} {cl:List (Str × Addr)} {dv:Value} {a:Addr} {p pos:Pos} {es:List Expr} {avs:List AV} {R:AV→Mem→Prop} (ho:CallP X D (opF a) m1 avs R) (hg:Glo X.B x (.ref a)) (hF:FnAt X.B F q cl dv a) (hes:PA X D sc es L m avs m1) (hx:sc.lookup x = some .globalImplicit)
    (T:Now X D sc env own A c L m) (N:Near X cq env own A c.M l) {Q E:Value→Shared→Prop} (k:∀ v d r m',R r m'→Map.leS own l c.M d.M→FS X env sc own d m' L→Rep d.M r v→Q v d.s):wpAny (model X.prog X.w) A (eval (.Call (.Name x p) es [] pos) env) Q E c.s:=by
  obtain ⟨o,doc,pm,cd,ct,h⟩:=hF
  have T1:=T.F.at' T.R
  refine (wpAny_bind (globGo T1 hx hg (callWith_function (o:=o) ((hes.p env pos).2 _ _ _ _ _ _ (hes.v pos env A c T1 _ _ fun vs d g=>⟨⟨g.h.base h.m,h.data⟩,?_⟩)))):wpAny (model X.prog X.w) A (do callWith pos (← eval (.Name x p) env) [] (backTo pos (starEach es env)) (backToKw pos (keywordEach [] env))) Q E c.s)
  have F1:=T.F.keep g.l g.h
  have l1:=(g.l.b own).s l
  have N1:=N.s l1
  exact ho A d vs (env :: l) N.a (N1.out F1) T.R g.h g.r Q E fun v d2 r m' hr g2=>k v d2 r m' hr (l1.tr (N1.leS F1 g2.l)) (N1.lax F1 g2.l g2.h) g2.r
end
end
section
open PySem PySem.W PyProof.Rows PySem.Calls PySem.SeqAt
section
variable {prog:Program} {w:World} {A:Around} {E:Value→Shared→Prop} {s:Shared} {env:Env} {X N I:String}
private theorem raiseClassM {newId initId:String} {x:Str} {np pos:Pos} {Q:Flow→Shared→Prop} (hh:A.handled = none) (hc:ExcClass X N I) (FX:ExcCallFacts X newId initId)
    (hself:isSubtype (.type X) (.type X) = pure true)
    (hx:wpAny (model prog w) A (eval (.Name x np) env) (fun v s₁=>v = .type X∧s₁ = s) E s)
    (h:∀ h' e,Heap.MadeExc s.heap h' e X []→E (.ref e) { s with heap:=h' }) :
    wpAny (model prog w) A (exec (.Raise (some (.Name x np)) none pos) env) Q E s:=by
  show wpAny (model prog w) A (do standAt pos; raiseStmt env (some (do let v ← eval (.Name x np) env; standAt pos; pure v)) none) Q E s
  refine wpAny_bind (wpAny_standAt ?_)
  unfold raiseStmt
  dsimp only
  refine wpAny_bind (wpAny_bind (wpAny_mono hx (fun v s₁ h₁=>wpAny_bind (wpAny_standAt (wpAny_pure ?_))) fun zz zz e=>e))
  obtain ⟨rfl,hs₁⟩:=h₁
  subst s₁
  refine wpAny_bind (wpAny_pure ?_)
  dsimp only
  refine wpAny_bind (wpAny_holding ?_)
  unfold excFromValue isExcClass
  refine wpAny_bind (wpAny_bind (wpAny_pure ?_))
  simp only [if_true]
  rw [hc.base]
  refine wpAny_pure ?_
  simp only [if_true]
  refine wpAny_bind (wpAny_call_exc FX (fun h' e hm=>?_) (Nat.zero_le _))
  have hn:=hm.newExc
  obtain ⟨ob,t,he,hcls,hd⟩:=hn.there
  have hT:({ s with heap:=h' }:Shared).TypeIs (.ref e) X:=⟨ob,he,hcls⟩
  refine wpAny_bind (wpAny_isInstance hT hc.base ?_)
  simp only [Bool.not_true,Bool.false_eq_true,if_false]
  refine wpAny_pure ?_
  first | (refine wpAny_bind (m:=isType (.type X)) (wpAny_pure ?_)) | (refine wpAny_bind (wpAny_pure ?_))
  first | (rw [if_pos rfl]) | (simp only [if_true]) | dsimp only
  refine wpAny_bind (wpAny_holding ?_)
  unfold raisedFor
  first | (simp only [Bool.false_eq_true,if_false]) | (rw [if_neg (by decide)]) | skip
  first | (refine wpAny_bind (wpAny_typeOf hT ?_)) | (refine wpAny_bind ?_; refine wpAny_bind (wpAny_typeOf hT ?_))
  refine wpAny_bind (call_issubclass (issubclass_self hc hself) ?_)
  first | (refine wpAny_bind (wpAny_truthy_bool ?_)) | (refine wpAny_truthy_bool ?_) | (dsimp only [wants]; first | (refine wpAny_bind (wpAny_truthy_bool ?_)) | (refine wpAny_truthy_bool ?_))
  first | (rw [if_pos rfl]) | (simp only [if_true]) | skip
  refine wpAny_pure ?_
  unfold setFlight raiseNew
  refine wpAny_bind (wpAny_bind (wpAny_field (i:=1) (x:=Value.none) he hd rfl ?_))
  rw [if_neg (by decide)]
  refine wpAny_pure (wpAny_bind (wpAny_handled ?_))
  rw [hh]
  first
    | exact wpAny_throw (h h' e hm)
    | exact wpAny_bind (wpAny_pure (wpAny_throw (h h' e hm)))
end
section
variable {X:Amb} {D:Nat} {sc:Names} {env:Env} {own:List Addr} {A:Around} {l:List Env} {c d:Cf} {L L':Lc} {m m' m1 m2:Mem} {cls:String} {P:List Value→Prop} {cq:Value × Str}
inductive MadeX (X:Amb) (c:Cf) (m:Mem) (sc:Names) (env:Env) (own:List Addr) (cls:String) (P:List Value→Prop) (e:Addr):Shared→Prop
  | mk {d:Cf} {h':Heap} {vs:List Value} {L:Lc}:Map.leB own c.M d.M→FS X env sc own d m L→Heap.MadeExcOf d.s.heap h' e (.type cls) vs→P vs→MadeX X c m sc env own cls P e { d.s with heap:=h' }
noncomputable def WX (X:Amb) (D:Nat) (sc:Names) (sts:List Stmt) (L:Lc) (m:Mem) (cls:String) (P:List Value→Prop) (m':Mem):Prop :=
  ∀ (env:Env) (own:List Addr) (A:Around) (c:Cf),Now X D sc env own A c L m→∀ Q E,(∀ e s,MadeX X c m' sc env own cls P e s→E (.ref e) s)→wpAny (model X.prog X.w) A (execs sts env) Q E c.s
private theorem MadeX.fr {e:Addr} {s:Shared} (x:MadeX X d m sc env own cls P e s) (h:Map.leB own c.M d.M):MadeX X c m sc env own cls P e s:=by
  cases x with
  | mk a b c d=>exact .mk (h.tr a) b c d
private theorem WX.ifT {p:Pos} {t:Expr} {a b rest:List Stmt} (ht:PT X D sc t L m true m1) (h:WX X D sc a L m1 cls P m'):WX X D sc (.If t a b p :: rest) L m cls P m':=fun env own A c T Q E k =>
  wpAny_execs_cons (wpAny_If (ht.go T fun d l F=>h env own A d (T.on F) _ _ fun e s x=>k e s (x.fr l)))
private theorem WX.raiseC {newId initId:String} {x:Str} {np cpos pos:Pos} {es:List Expr} {avs:List AV} {rest:List Stmt} (FX:ExcCallFacts cls newId initId) (G:ExcRaiseFacts cls) (hg:Glo X.B x (.type cls)) (hx:sc.lookup x = some .globalImplicit) (hes:PA X D sc es L m avs m1) (hz:avs.length≤2 ^ 24) (hp:∀ M vs,Reps M avs vs→P vs) :
    WX X D sc (.Raise (some (.Call (.Name x np) es [] cpos)) none pos :: rest) L m cls P m1:=fun env own A c T Q E k =>
  have T1:=T.F.at' T.R
  wpAny_execs_cons (wpAny_Raise_call FX G T.R.1 (hes.p env cpos).1 (globGo T1 hx hg ⟨rfl,(hes.p env cpos).2 _ _ _ _ _ _ (hes.v cpos env A c T1 _ _ fun vs d g=>⟨rfl,g.r.sz hz,fun h' e he=>k e _ (.mk (g.l.b own) (T.F.keep g.l g.h) (Heap.MadeExc.of he) (hp _ _ g.r))⟩)⟩))
private theorem WX.raiseT {newId initId N I:String} {x:Str} {np pos:Pos} {rest:List Stmt} (FX:ExcCallFacts cls newId initId) (hc:ExcClass cls N I) (hg:Glo X.B x (.type cls)) (hx:sc.lookup x = some .globalImplicit) (hp:P []) :
    WX X D sc (.Raise (some (.Name x np)) none pos :: rest) L m cls P m:=fun env own A c T Q E k =>
  wpAny_execs_cons (raiseClassM T.R.1 hc FX hc.self (globGo (T.F.at' T.R) hx hg ⟨rfl,rfl⟩) fun h' e he=>k e _ (.mk (.rf _) T.F (Heap.MadeExc.of he) hp))
inductive Flown (X:Amb) (c:Cf) (m:Mem) (l:List Env) (cls:String) (P:List Value→Prop) (e:Addr):Shared→Prop
  | mk {d:Cf} {h' base:Heap} {t:Addr} {vs:List Value}:c.M.le d.M→Hp X d m→(∀ a o,d.M.h a ≠ none→(∀ e∈l,a ≠ e.locals)→d.s.heap.get? a = some o→base.get? a = some o)→Heap.FlyingW base l e (.type cls) (.ref t) h'→h'.TupAt t vs→base.get? t = none→d.s.heap.UpToSlots h'→P vs→Flown X c m l cls P e { d.s with heap:=h' }
private theorem Flown.fr {e:Addr} {s:Shared} (x:Flown X d m l cls P e s) (h:c.M.le d.M):Flown X c m l cls P e s:=by
  cases x with
  | mk a b f g i j k p=>exact .mk (h.tr a) b f g i j k p
private theorem Out.fun {s:Shared} {M:Map} {base:Heap} (S:Sep X s M m):∀ {l:List Env},Out X M l→(∀ e∈l,base.get? e.locals = none)→s.heap.FunFrames base l
  | [],_,_=>trivial
  | e :: l,o,h=>by
    have q:=o e List.mem_cons_self
    obtain ⟨ob,w,es,ep,z⟩:=q.m
    exact ⟨by rw [q.k]; exact nofun,⟨_,ob,q.f,h e List.mem_cons_self,S.pin w,fun vs y=>by rw [z] at y; cases y⟩,Out.fun S (fun e he=>o e (List.mem_cons_of_mem _ he)) fun e he=>h e (List.mem_cons_of_mem _ he)⟩
noncomputable def ownW (M:Map) (own:List Addr):Map:=⟨fun a=>if a∈own then M.h a else none,fun zz=>none⟩
private theorem ownW_le {M:Map}:(ownW M own).le M:=⟨fun a x e=>(by
  have e:(if a∈own then M.h a else none) = some x:=e
  split at e
  · exact e
  · cases e),fun i x (e:none = some x)=>(by cases e)⟩
private theorem ownW_no {M:Map} {a:Addr} (h:a ∉ own):(ownW M own).h a = none:=if_neg h
private theorem ownW_in {M:Map} {a:Addr} {x:Cel} (h:(ownW M own).h a = some x):a∈own:=by
  have e:(if a∈own then M.h a else none) = some x:=h
  split at e
  · assumption
  · cases e
private theorem FS.sub (F:FS X env sc own c m L):Sep X c.s (c.M.sub (ownW c.M own)) m :=
  F.S.subW ownW_le (fun a x e=>(F.ow a (ownW_in e)).1.elim fun o q=>⟨o,by have:=ownW_le.h _ _ e; rw [q] at this; exact (Option.some.inj this).symm⟩) ⟨fun a x e=>ownW_no fun h=>(by rw [(F.ow a h).2] at e; cases e),fun zz zz zz=>rfl⟩ (fun zz zz zz zz e=>e) (fun zz zz zz e=>e) rfl F.S.bare
private theorem FS.sub_out (F:FS X env sc own c m L) {a:Addr} (h:(c.M.sub (ownW c.M own)).h a ≠ none):a ∉ own:=fun q=>by
  obtain ⟨o,e⟩:=(F.ow a q).1
  have:(ownW c.M own).h a = some (.pin o):=(if_pos q).trans e
  refine h ?_
  show ((ownW c.M own).h a).elim _ _ = _
  rw [this]; rfl
private theorem Ent.leave {e:Addr} {s:Shared} (en:Ent X D sc env own A c d L m) (f:env.frame = some env.locals) (fa:A.frames = some (env :: l)) (o:Out X c.M l) (x:MadeX X d m' sc env own cls P e s) {Q:Unit→Shared→Prop} {E:Value→Shared→Prop} (k:∀ s,Flown X c m' l cls P e s→Q () s) :
    wpAny (model X.prog X.w) A (leaving env (.ref e)) Q E s:=by
  cases x with
  | @mk d1 h' vs L1 lb F1 hx hp =>
    have nf:=o.fresh en.fr
    have o1:Out X d1.M l:=(o.up en.l).s nf (lb.s l)
    have oa:Out X d1.M (env :: l):=fun e he=>(List.mem_cons.mp he).elim (fun q=>q ▸ F1.out f) (o1 e)
    have hid:∀ e∈env :: l,(hideAll d1.s.heap ((env :: l).map (·.locals))).get? e.locals = none:=fun e he=>hideAll_none _ (List.mem_map_of_mem (f:=(·.locals)) he)
    refine wpAny_leaves_madeW (h:=d1.s.heap) fa f (fun b o q=>of_hideAll _ q) (Out.fun F1.S oa hid) hx fun h'' t fl tp tn us=>k _ ?_
    refine .mk (d:=⟨d1.s,d1.M.sub (ownW d1.M own)⟩) ⟨fun a x q=>?_,fun i x q=>(Map.sub_g rfl).trans (lb.g _ _ (en.l.g _ _ q))⟩ F1.sub (fun a ob hn ha q=>hideAll_get _ q fun hm=>?_) fl tp tn ((Heap.UpToSlots.of_keeps hx.keeps).trans us) hp
    · have na:a ∉ own:=fun ha=>by rw [en.fr a ha] at q; cases q
      exact (Map.sub_h (ownW_no na)).trans (lb.h a x na (en.l.h a x q))
    · obtain ⟨e',he,rfl⟩:=List.mem_map.mp hm
      rcases List.mem_cons.mp he with z | z
      · exact F1.sub_out hn (z ▸ F1.L)
      · exact ha e' z rfl
private theorem Ent.leaveOn {e:Addr} {s:Shared} (en:Ent X D sc env own A c d L m) (f:env.frame = some env.locals) (fa:A.frames = some (env :: l)) (x:Flown X d m' (env :: l) cls P e s) {Q:Unit→Shared→Prop} {E:Value→Shared→Prop} (k:∀ s,Flown X c m' l cls P e s→Q () s) :
    wpAny (model X.prog X.w) A (leaving env (.ref e)) Q E s:=by
  cases x with
  | @mk d1 h' base t vs l1 S1 hb fl tp tn us hp =>
    have F1:=en.T.F.keep l1 S1
    refine wpAny_leaves_onW fa f fl fun h'' fl2 us2=>k _ ?_
    refine .mk (d:=⟨d1.s,d1.M.sub (ownW d1.M own)⟩) ⟨fun a x q=>?_,fun i x q=>(Map.sub_g rfl).trans (l1.g _ _ (en.l.g _ _ q))⟩ F1.sub (fun a ob hn ha q=>hb a ob (fun z=>hn ?_) (fun e' he z=>?_) q) fl2 (tp.of_slots us2) tn (us.trans us2) hp
    · have na:a ∉ own:=fun ha=>by rw [en.fr a ha] at q; cases q
      exact (Map.sub_h (ownW_no na)).trans (l1.h a x (en.l.h a x q))
    · exact (Map.sub_h (ownW_no (F1.sub_out hn))).trans z
    · rcases List.mem_cons.mp he with y | y
      · exact F1.sub_out hn (by rw [z,y]; exact F1.L)
      · exact ha e' y z
noncomputable def CallX (X:Amb) (D:Nat) (op:List Value→Sem Value) (m:Mem) (avs:List AV) (cls:String) (P:List Value→Prop) (m':Mem):Prop :=
  ∀ (A:Around) (c:Cf) (vs:List Value) (l:List Env),A.frames = some l→Out X c.M l→Room A D→Hp X c m→Reps c.M avs vs→∀ Q E,(∀ e s,Flown X c m' l cls P e s→E (.ref e) s)→wpAny (model X.prog X.w) A (op vs) Q E c.s
noncomputable def PEX (X:Amb) (D:Nat) (sc:Names) (e:Expr) (L:Lc) (m:Mem) (cls:String) (P:List Value→Prop) (m':Mem):Prop :=
  ∀ (env:Env) (A:Around) (c:Cf) (l:List Env),At X D sc env A c L m→A.frames = some l→Out X c.M l→∀ Q E,(∀ e s,Flown X c m' l cls P e s→E (.ref e) s)→wpAny (model X.prog X.w) A (eval e env) Q E c.s
private theorem callXD {fd:FuncData} {o:Obj} {a:Addr} {body:List Stmt} {ps:List Str} {avs:List AV} (hm:X.B.h a = some (.frz o)) (hd:o.data = .func fd) (hc:CodeRecM X.B fd.code fd.qualname) (hbody:fd.body = .stmts body) (hg:fd.globals = mainGlobals) (hbu:fd.builtins = builtinsNs) (hcl:fd.closure = []) (lim:NoLim X.B) (ok:CloOk ps fd.scope)
    (hl:avs.length = ps.length) (hb:WX X D fd.scope.names body (ps.zip avs) m cls P m') {vs pos:List Value} {kw:List (Str × Value)} (fa:A.frames = some l) (Oo:Out X c.M l) (Ro:Room A (D + 1)) (S:Hp X c m) (rs:Reps c.M avs vs) (hbind:BindsTo c.s fd ⟨pos,kw⟩ (ps.zip vs)) {Q E:Value→Shared→Prop} (k:∀ e s,Flown X c m' l cls P e s→E (.ref e) s) :
    wpAny (model X.prog X.w) A (call (.ref a) pos kw) Q E c.s:=by
  refine wpAny_call (codeAny_call_def (fd:=fd) (binds:=ps.zip vs) (by have:=Ro.2.1; lia) (S.base hm) hd (lim.lim S) (hc.go S) hbody hbind ok.nc (fun x hx=>ok.kd _ (List.of_mem_zip hx).1) (fun h₁ hns hk=>?_) ok.co ok.gen ok.kind)
  have e:=(enterF (fvs:=[]) (a:=a) (tk:=c.s.toks + (ps.zip vs).length) ok hg hbu (by rw [hcl]; exact ⟨nofun,nofun⟩) Ro S rs hns hk)
  rw [List.append_nil] at e
  exact hb _ _ _ _ e.T _ _ fun ex s x=>e.leave rfl (Around.frames_deeper fa) Oo x fun s y=>k ex s y
private theorem callLamX {fd:FuncData} {o:Obj} {a:Addr} {body:Expr} {ps:List Str} {avs:List AV} {fvs:Lc} (hm:X.B.h a = some (.frz o)) (hd:o.data = .func fd) (hc:CodeRecM X.B fd.code fd.qualname) (hbody:fd.body = .expr body) (hg:fd.globals = mainGlobals) (hbu:fd.builtins = builtinsNs) (lim:NoLim X.B) (ok:CloOk ps fd.scope) (Fv:FreeK X.B fd.scope.names fd.closure fvs)
    (hbind:∀ vs:List Value,vs.length = ps.length→bindArgs fd ⟨vs,[]⟩ = pure (ps.zip vs)) (hl:avs.length = ps.length) (hb:PEX X D fd.scope.names body (ps.zip avs++fvs) m cls P m'):CallX X (D + 1) (opF a) m avs cls P m':=fun A c vs l fa Oo Ro S rs Q E k=>by
  refine wpAny_call (kla_callFunE (body:=body) (by have:=Ro.2.1; lia) (S.base hm) hd ok.co ok.gen hbody (hc.go S) ?_)
  rw [hbind vs (rs.len.trans hl)]
  refine wpAny_pure (wpAny_newFunctionEnv ok.nc (fun x hx=>ok.kd _ (List.of_mem_zip hx).1) (fun h₁ hns hsb=>⟨(lim.lim S).fresh _ hsb,?_⟩) ok.kind)
  have hk:∀ b ob,c.s.heap.get? b = some ob→h₁.get? b = some ob:=fun b ob e=>hsb.extBut b ob (Nat.ne_of_lt (Heap.lt_size e)) (Heap.get?_push_of_some _ e)
  have e:=enterF (a:=a) (tk:=c.s.toks + (ps.zip vs).length) ok hg hbu Fv Ro S rs hns hk
  have oa:Out X (c.M.pins h₁ [c.s.heap.objs.size]) (callEnv fd c.s.heap.objs.size a :: l):=fun e' he=>(List.mem_cons.mp he).elim (fun q=>q ▸ e.T.F.out rfl) (Oo.up e.l e')
  exact kla_codeExpr (hb _ _ _ _ (e.T.F.at' e.T.R) (Around.frames_deeper fa) oa _ _ fun ex s x=>e.leaveOn rfl (Around.frames_deeper fa) x fun s y=>k ex s y)
private theorem PEX.call {x:Str} {a:Addr} {o:Obj} {fd:FuncData} {p pos:Pos} {es:List Expr} {avs:List AV} (hg:Glo X.B x (.ref a)) (hm:X.B.h a = some (.frz o)) (hd:o.data = .func fd) (hes:PA X D sc es L m avs m1) (ho:CallX X D (opF a) m1 avs cls P m2) (hx:sc.lookup x = some .globalImplicit):PEX X D sc (.Call (.Name x p) es [] pos) L m cls P m2:=fun env A c l T fa Oo Q E k =>
  (wpAny_bind (globGo T hx hg (callWith_function (o:=o) ((hes.p env pos).2 _ _ _ _ _ _ (hes.v pos env A c T _ _ fun vs d g=>⟨⟨g.h.base hm,hd⟩,ho A d vs l fa (Oo.up g.l) T.R g.h g.r Q E fun e s x=>k e s (x.fr g.l)⟩)))):wpAny (model X.prog X.w) A (do callWith pos (← eval (.Name x p) env) [] (backTo pos (starEach es env)) (backToKw pos (keywordEach [] env))) Q E c.s)
private theorem PEX.callV {x:Str} {a:Addr} {o:Obj} {fd:FuncData} {p pos:Pos} {es:List Expr} {avs:List AV} (hv:L.lookup x = some (.ext (.ref a))) (hm:X.B.h a = some (.frz o)) (hd:o.data = .func fd) (hes:PA X D sc es L m avs m1) (ho:CallX X D (opF a) m1 avs cls P m2):PEX X D sc (.Call (.Name x p) es [] pos) L m cls P m2:=fun env A c l T fa Oo Q E k=>by
  obtain ⟨v,r1,q⟩:=T.N.var x _ hv
  have:=r1.i_ext
  subst this
  exact (wpAny_bind (wpAny_Name (loadVar T.N T.S q (callWith_function (o:=o) ((hes.p env pos).2 _ _ _ _ _ _ (hes.v pos env A c T _ _ fun vs d g=>⟨⟨g.h.base hm,hd⟩,ho A d vs l fa (Oo.up g.l) T.R g.h g.r Q E fun e s x=>k e s (x.fr g.l)⟩)))) (q.dbg T.N.dbg')):wpAny (model X.prog X.w) A (do callWith pos (← eval (.Name x p) env) [] (backTo pos (starEach es env)) (backToKw pos (keywordEach [] env))) Q E c.s)
end
end
section
open PySem PySem.W PyProof.Rows PySem.Calls PySem.SeqAt
section
variable {X:Amb} {D:Nat} {sc:Names} {env:Env} {own:List Addr} {A:Around} {l:List Env} {c d:Cf} {L L':Lc} {m m' m1 m2:Mem} {cls:String} {P:List Value→Prop} {cq:Value × Str} {e:Addr} {s:Shared}
private theorem globN {x:Str} {v:Value} {p:Pos} {Q E:Value→Shared→Prop} (N:EnvOk env sc c.M L) (S:Hp X c m) (hx:sc.lookup x = some .globalImplicit) (hg:Glo X.B x v) (h:Q v c.s):wpAny (model X.prog X.w) A (eval (.Name x p) env) Q E c.s:=by
  have hk:env.kindOf x = some .globalImplicit:=N.names.at hx nofun
  have hd:(x == ("__debug__":Str)) = false:=by
    refine beq_eq_false_iff_ne.mpr fun e=>?_
    subst e; rw [N.dbg'] at hk; cases hk
  refine Name_function_global N.kind hk ?_ hd
  cases hg with
  | main a b=>exact loadGlobal_global (by rw [N.gl]; exact a.ns S) b h
  | bu a b e d=>exact loadGlobal_builtin (by rw [N.gl]; exact a.ns S) b (by rw [N.bu]; exact e.ns S) d h
private theorem Flown.lands (x:Flown X c m' (env :: l) cls P e s) (f:env.frame = some env.locals) (fa:A.frames = some (env :: l)) {hs:List ExceptHandler} {Q:Flow→Shared→Prop} {E:Value→Shared→Prop} (k:∀ s,Flown X c m' (env :: l) cls P e s→wpAny (model X.prog X.w) A (handleBy (.ref e) env hs) Q E s) :
    wpAny (model X.prog X.w) A (noteFrame (.ref e) env) (fun zz s₂=>wpAny (model X.prog X.w) A (setFlight (.ref e) none) (fun zz s₃=>wpAny (model X.prog X.w) A (handleBy (.ref e) env hs) Q E s₃) E s₂) E s:=by
  cases x with
  | mk a b g fl tp tn us hp =>
    exact wpAny_looks_onW fa f fl fun h4 hh us4=>wpAny_landsW hh fun h5 fl5 us5=>k _ (.mk a b g fl5 ((tp.of_slots us4).of_slots us5) tn ((us.trans us4).trans us5) hp)
private theorem Flown.again (x:Flown X c m' l cls P e s) {Q:Unit→Shared→Prop} {E:Value→Shared→Prop} (k:∀ s,Flown X c m' l cls P e s→Q () s):wpAny (model X.prog X.w) A (setFlight (.ref e) none) Q E s:=by
  cases x with
  | mk a b g fl tp tn us hp=>exact lands_againW fl fun h6 fl6 us6=>k _ (.mk a b g fl6 (tp.of_slots us6) tn (us.trans us6) hp)
structure ExcM (M:Map) (e:Addr) (cls:String) (P:List Value→Prop) (t:Addr) (oe ot:Obj) (vs:List Value) (n:Nat) (fs:Array Value):Prop where
  he:M.h e = some (.frz oe)
  ht:M.h t = some (.frz ot)
  ec:oe.cls = .type cls
  ed:oe.data = .fields fs
  e0:fs[0]? = some (.ref t)
  tc:ot.cls = .type "tuple"
  td:ot.data = .seq vs.toArray n
  p:P vs
private theorem Flown.fs (x:Flown X c m' (env :: l) cls P e s) (F:FS X env sc own c m L) (N:Near X cq env own A c.M l) :
    ∃ M t oe ot vs n fs,FS X env sc own ⟨s,M⟩ m' L∧Map.leS own l c.M M∧ExcM M e cls P t oe ot vs n fs:=by
  cases x with
  | @mk d h' base t vs l1 S1 hb fl tp tn us hp =>
    have F1:=F.keep l1 S1
    have N1:Near X cq env own A d.M l:={ N with o:=N.o.up l1 }
    have o1:=N1.out F1
    obtain ⟨st,en,ff,oe,fs,T,oT,ts,he,⟨hec,he0⟩,hed,_⟩:=fl
    obtain ⟨ot,n,hot,htc,htd⟩:=tp
    have fr:∀ e∈env :: l,∀ o,d.M.h e.locals = some (.pin o)→∃ sl,h'.get? e.locals = some { o with slots:=sl }:=fun e he o q=>us _ _ (S1.pin q) fun vs y=>by
      obtain ⟨o',q',es,ep,z⟩:=(o1 e he).m
      rw [q'] at q; cases q
      rw [z] at y; cases y
    generalize has:(env :: l).map (·.locals) = as
    have ina:∀ e∈env :: l,e.locals∈as:=fun e he=>has ▸ List.mem_map_of_mem (f:=(·.locals)) he
    have outa:∀ a,a ∉ as→∀ e∈env :: l,a ≠ e.locals:=fun a ha e he q=>ha (q ▸ ina e he)
    have ine:∀ a∈as,∃ e∈env :: l,a = e.locals:=fun a ha=>by rw [← has] at ha; obtain ⟨e,h1,h2⟩:=List.mem_map.mp ha; exact ⟨e,h1,h2.symm⟩
    have ll:Map.leS [] (env :: l) d.M (d.M.pins h' as):=⟨fun a x zz k e=>(Map.pins_out fun q=>(ine a q).elim fun e' z=>k e' z.1 z.2).trans e,fun e he o zz q=>by
      obtain ⟨sl,z⟩:=fr e he o q
      exact ⟨sl,Map.pins_in (ina e he) z⟩,fun zz zz e=>e⟩
    have l0:=ll.l0 o1
    have old:∀ a x,a ∉ as→(d.M.pins h' as).h a = some x→d.M.h a = some x:=fun a x h e=>(Map.pins_out h) ▸ e
    have inp:∀ a x,a∈as→(d.M.pins h' as).h a = some x→∃ o,h'.get? a = some o∧x = .pin o:=fun a x h e=>by
      have e:(if a∈as then (h'.get? a).map Cel.pin else d.M.h a) = some x:=e
      rw [if_pos h] at e
      obtain ⟨o,h1,h2⟩:=Option.map_eq_some_iff.mp e
      exact ⟨o,h1,h2.symm⟩
    have mu:∀ a j,(d.M.pins h' as).h a = some (.mu j)→d.M.h a = some (.mu j):=fun a j e=>by
      by_cases q:a∈as
      · obtain ⟨_,_,z⟩:=inp a _ q e; cases z
      · exact old a _ q e
    have S2:Sep X { d.s with heap:=h' } (d.M.pins h' as) m':={ S1 with
      c:=fun a x e=>by
        by_cases h:a∈as
        · obtain ⟨o,h1,rfl⟩:=inp a x h e; exact .pin h1
        · have e':=old a x h e
          exact (S1.c a x e').go l0 (fun o q=>st a o (hb a o (by rw [e']; exact nofun) (outa a h) q)) fun zz zz=>rfl
      i:=fun a b j e1 e2=>S1.i a b j (mu a j e1) (mu b j e2)
      x:=⟨fun a x e=>(Map.pins_out fun q=>by obtain ⟨e',h1,rfl⟩:=ine a q; rw [(o1 e' h1).b] at e; cases e).trans (S1.x.h a x e),S1.x.g⟩ }
    have F2:FS X env sc own ⟨{ d.s with heap:=h' },d.M.pins h' as⟩ m' L:=N1.lax (d:=⟨{ d.s with heap:=h' },d.M.pins h' as⟩) F1 ll S2
    have nas:∀ {a o},h'.get? a = some o→(∀ es ep,o.data ≠ .dict es ep)→a ∉ as:=fun {a o} h1 h2 h3=>by
      obtain ⟨e',k1,rfl⟩:=ine a h3
      obtain ⟨o',q',es,ep,z⟩:=(o1 e' k1).m
      obtain ⟨sl,k2⟩:=fr e' k1 o' q'
      rw [h1] at k2; cases k2
      exact h2 es ep z
    have new:∀ {a},base.get? a = none→a ∉ as→(d.M.pins h' as).h a = none:=fun {a} h1 h2=>by
      rw [Map.pins_out h2]
      cases q:d.M.h a with
      | none=>rfl
      | some x =>
        obtain ⟨o,z⟩:=(S1.c a x q).get
        have:=hb a o (by rw [q]; exact nofun) (outa a h2) z
        rw [h1] at this; cases this
    have te:t ≠ e:=fun q=>by rw [q,he] at hot; cases hot; rw [hed] at htd; cases htd
    have ne:(d.M.pins h' as).h e = none:=new en (nas he fun es ep h=>by rw [hed] at h; cases h)
    have S3:=F2.S.putNew (x:=.frz oe) (h':=h') (tk:=d.s.toks) (mem':=m') ne (fun zz zz zz e=>e) (fun zz zz zz zz=>rfl) nofun (.frz he)
    have nt:((d.M.pins h' as).set e (.frz oe)).h t = none:=(Map.set_ne _ _ te).trans (new tn (nas hot fun es ep h=>by rw [htd] at h; cases h))
    have S4:=S3.putNew (x:=.frz ot) (h':=h') (tk:=d.s.toks) (mem':=m') nt (fun zz zz zz e=>e) (fun zz zz zz zz=>rfl) nofun (.frz hot)
    have l4:=(Map.le_set (.frz oe) ne).tr (Map.le_set (.frz ot) nt)
    have l5:=N1.leS (d:=⟨{ d.s with heap:=h' },d.M.pins h' as⟩) F1 ll
    exact ⟨_,t,oe,ot,vs,n,fs,F2.keep (d:=⟨_,_⟩) l4 S4,((l1.b own).s l).tr (l5.tr ((l4.b own).s l)),(Map.set_ne _ _ te.symm).trans (Map.set_at _ _ _),Map.set_at _ _ _,hec,hed,he0,htc,htd,hp⟩
end
end
section
open PySem PySem.W PyProof.Rows PySem.Calls PySem.SeqAt
section
variable {X:Amb} {D:Nat} {sc:Names} {env:Env} {own:List Addr} {A:Around} {l:List Env} {c d:Cf} {L L':Lc} {m m' m1 m2:Mem} {cls:String} {P:List Value→Prop} {cq:Value × Str} {e:Addr} {s:Shared}
private theorem Flown.pass {x:Str} {T':String} {np pos:Pos} {n:Str} {b₀:Stmt} {suite:List Stmt} {rest:List ExceptHandler} (hexc:isSubtype (.type T') (.type "BaseException") = pure true) (hnt:isSubtype (.type ((Manifest.find? T').elim "type" fun y=>y.metatype)) (.type "tuple") = pure false) (hsub:isSubtype (.type cls) (.type T') = pure false)
    (y:Flown X c m' (env :: l) cls P e s) (F:FS X env sc own c m L) (N:Near X cq env own A c.M l) (hg:Glo X.B x (.type T')) (hx:sc.lookup x = some .globalImplicit) {Q:Flow→Shared→Prop} {E:Value→Shared→Prop} (k:wpAny (model X.prog X.w) A (handleBy (.ref e) env rest) Q E s) :
    wpAny (model X.prog X.w) A (handleBy (.ref e) env (.ExceptHandler (some (.Name x np)) (some n) (b₀ :: suite) pos :: rest)) Q E s:=by
  obtain ⟨M,t,oe,ot,vs,n,fs,F2,_,ex⟩:=y.fs F N
  exact wpAny_handleBy_builtin_as (X:=cls) (T:=T') (b:=false) hexc hnt hsub (globN (c:=⟨s,M⟩) F2.N F2.S hx hg ⟨rfl,⟨oe,F2.S.frz ex.he,ex.ec⟩,k⟩)
private theorem Flown.hit {x:Str} {T':String} {np pos:Pos} {n:Str} {b₀:Stmt} {suite:List Stmt} {rest:List ExceptHandler} (hexc:isSubtype (.type T') (.type "BaseException") = pure true) (hnt:isSubtype (.type ((Manifest.find? T').elim "type" fun y=>y.metatype)) (.type "tuple") = pure false) (hsub:isSubtype (.type cls) (.type T') = pure true)
    (y:Flown X c m' (env :: l) cls P e s) (T:Now X D sc env own A c L m) (N:Near X cq env own A c.M l) (hg:Glo X.B x (.type T')) (hx:sc.lookup x = some .globalImplicit) (hn:okB sc n = true) {Q:Flow→Shared→Prop} {E:Value→Shared→Prop}
    (k:∀ d t oe ot vs j fs E',FS X env sc own d m' ((n,.ext (.ref e)) :: L)→Map.leS own l c.M d.M→ExcM d.M e cls P t oe ot vs j fs →
      wpAny (model X.prog X.w) (A.mark (some (.ref e))) (execs (b₀ :: suite) env) (fun f s₄=>wpAny (model X.prog X.w) A (do bindName env n .none; unbindBehindTheSuite env n pos) (fun zz s₅=>Q f s₅) E s₄) E' d.s) :
    wpAny (model X.prog X.w) A (handleBy (.ref e) env (.ExceptHandler (some (.Name x np)) (some n) (b₀ :: suite) pos :: rest)) Q E s:=by
  obtain ⟨M,t,oe,ot,vs,n,fs,F2,_,ex⟩:=y.fs T.F N
  refine wpAny_handleBy_builtin_as (X:=cls) (T:=T') (b:=true) hexc hnt hsub (globN (c:=⟨s,M⟩) F2.N F2.S hx hg ⟨rfl,⟨oe,F2.S.frz ex.he,ex.ec⟩,?_⟩)
  refine y.again fun s6 y6=>?_
  obtain ⟨M6,t6,oe6,ot6,vs6,n6,fs6,F6,l6,ex6⟩:=y6.fs T.F N
  refine F6.store (c:=⟨s6,M6⟩) (T.T _ (nameOk hn)) (.ext (.ref e)) fun d ld Fd=>?_
  have nf:∀ {a o},M6.h a = some (.frz o)→d.M.h a = some (.frz o):=fun {a o} q=>ld.h a _ (fun ha=>(F6.ow a ha).1.elim fun z w=>by rw [q] at w; cases w) q
  exact k d t6 oe6 ot6 vs6 n6 fs6 _ Fd (l6.tr (ld.s l)) { ex6 with he:=nf ex6.he,ht:=nf ex6.ht }
private theorem FS.gone {n:Str} {v:AV} {pos:Pos} (F:FS X env sc own c m ((n,v) :: L)) (hn:env.kindOf n = some .local) (h0:L.lookup n = none) {Q:Unit→Shared→Prop} {E:Value→Shared→Prop} (k:∀ d,Map.leB own c.M d.M→FS X env sc own d m L→Q () d.s) :
    wpAny (model X.prog X.w) A (do bindName env n .none; unbindBehindTheSuite env n pos) Q E c.s:=by
  obtain ⟨mm,hm⟩:=F.ns
  refine wpAny_nameGoes_keeps hn hm (by rw [F.N.kind]; rfl) fun h' w hns hs=>?_
  obtain ⟨oL,esL,epL,hoL,hdL,hsL,hfL⟩:=id hns
  refine k ⟨{ c.s with heap:=h',toks:=c.s.toks + 1 },c.M.set env.locals (.pin oL)⟩ (Map.leB.set _ F.L) (F.upd F.L hs hoL ⟨_,hns⟩ (fun y h=>absurd rfl (F.cne h)) fun y ay h=>?_)
  have ne:y ≠ n:=fun q=>by rw [q,h0] at h; cases h
  have h2:((n,v) :: L).lookup y = some ay:=by rw [List.lookup_cons,show (y == n) = false from beq_eq_false_iff_ne.mpr ne]; exact h
  obtain ⟨vy,ry,zy⟩:=F.N.var y ay h2
  refine ⟨vy,ry,?_⟩
  cases zy with
  | loc k q1 q2 q3 q4 =>
    obtain ⟨o2,es2,ep2,p1,p2,p3,p4⟩:=hm
    rw [F.S.pin q1] at p1; cases p1
    rw [p2] at q2; cases q2
    exact .loc k (Map.set_at _ _ _) hdL hsL (by rw [hfL]; show (if y = n then w else mm y) = _; rw [if_neg ne,← p4,q4])
  | cel k q1 q2 q3=>exact .cel k q1 (by unfold Map.ob; rw [Map.set_ne _ _ (F.cne q1)]; exact q2) q3
noncomputable def Says (X:Amb) (A:Around) (e:Addr) (w:List Nat) (h:Heap):Prop:=∀ (s:Shared) (Q E:Value→Shared→Prop),s.heap = h→(∀ t n,Q (.str ⟨w.toArray⟩ t) { s with toks:=n })→wpAny (model X.prog X.w) A (call (.type "str") [.ref e]) Q E s
private theorem sayOne {M:Map} {t:Addr} {oe ot:Obj} {vs:List Value} {j:Nat} {fs:Array Value} {N:String} {w:List Nat} (FX:ExcStrFacts cls N) (hu:A.units + 2 < cLine) (S:Sep X s M m) (x:ExcM M e cls P t oe ot vs j fs) (h:∃ tk,vs = [.str ⟨w.toArray⟩ tk]):Says X A e w s.heap:=fun s' Q E q k=>by
  obtain ⟨tk,rfl⟩:=h
  exact PySem.P.str_of_exc_one FX hu ⟨oe,fs,by rw [q]; exact S.frz x.he,x.ec,x.ed,x.e0⟩ ⟨ot,j,by rw [q]; exact S.frz x.ht,x.tc,x.td⟩ (k tk s'.toks)
private theorem sayNone {M:Map} {t:Addr} {oe ot:Obj} {vs:List Value} {j:Nat} {fs:Array Value} {N:String} (FX:ExcStrFacts cls N) (hu:A.units + 2 < cLine) (S:Sep X s M m) (x:ExcM M e cls P t oe ot vs j fs) (h:vs = []):Says X A e [] s.heap:=fun s' Q E q k=>by
  subst h
  exact PySem.P.str_of_exc_none FX hu ⟨oe,fs,by rw [q]; exact S.frz x.he,x.ec,x.ed,x.e0⟩ ⟨ot,j,by rw [q]; exact S.frz x.ht,x.tc,x.td⟩ (k _ _)
private theorem sayGo {xs:List AV} {i:Nat} {pre:Str} {w:List Nat} {p1 p2 p3 p4 p5 p6 p7 p8 p9:Pos} {k0:Nat} (F:FS X env sc own c m L) (hs:Says X A e w c.s.heap) (ht:L.lookup ("told":Str) = some (.mref i)) (he:L.lookup ("error":Str) = some (.ext (.ref e))) (hm:m[i]? = some (.lst xs)) (hz:xs.length≤2 ^ 23) (hw:pre.cps.size + w.length≤2 ^ 24)
    (hg:Glo X.B "str" (.type "str")) (hx:sc.lookup ("str":Str) = some .globalImplicit) (hl:(p2.endLine == p8.line) = true) {Q:Flow→Shared→Prop} {E:Value→Shared→Prop} (k:∀ d,d.M = c.M→FS X env sc own d (m.set i (.lst (xs++[.str (pre.cps.toList++w)]))) L→Q .next d.s) :
    wpAny (model X.prog X.w) A (execs [.Expr (.Call (.Attribute (.Name "told" p1) "append" p2) [.BinOp (.Constant (.str pre) k0 p3) .Add (.Call (.Name "str" p4) [.Name "error" p5] [] p6) p7] [] p8) p9] env) Q E c.s:=by
  obtain ⟨vt,rt,zt⟩:=F.N.var "told" _ ht
  obtain ⟨ve,re,ze⟩:=F.N.var "error" _ he
  have:=re.i_ext
  subst this
  have F1:FS X env sc own (tk c (c.s.toks + 1)) m L:=F.keep (.rf _) (F.S.tok _)
  refine wpAny_execs_cons (wpAny_Expr ?_ (by unfold interactive; rw [F.N.kind]; rfl) rfl)
  have it:=IsOf.mref hm X _ _ _ F.S rt
  refine wpAny_Call_method (T:="list") (id:="list.append") rfl rfl hl PySem.F.plainAttrs_list PySem.F.slot_list_append PySem.F.type_list_append (wpAny_Name (loadVar F.N F.S zt ⟨it.1,it.2,callWith_builtin rfl (evalArgs_plain (wpAny_items_cons (wpAny_BinOp (Constant_str ?_)) rfl))⟩) (zt.dbg F.N.dbg'))
  refine wpAny_bind (globN (c:=tk c (c.s.toks + 1)) F1.N F1.S hx hg (PySem.callWith_type rfl (evalArgs_plain (wpAny_items_cons (wpAny_Name (loadVar F1.N F1.S ze (wpAny_items_nil ?_)) (ze.dbg F.N.dbg')) rfl))))
  refine hs _ _ _ rfl fun t n=>SB.add (fun t2 n2=>wpAny_items_nil ?_) hw
  cases rt.i_mref with
  | @mk a ha =>
    obtain ⟨us,nn,h1,rx⟩:=F.S.mlist ha hm
    refine call_meets PySem.F.slot_list_append ⟨_,h1,rfl⟩ PySem.F.entry_list_append (PySem.F.args_list_append_2 _ _) (PySem.list_append a us.toArray nn _ (le24 (rx.sz hz))) ⟨h1,?_⟩
    refine wpAny_execs_nil (k ⟨{ c.s with heap:=_,toks:=n2 },c.M⟩ rfl (F.keep (.rf _) (F.S.upd ha h1 (ws:=us++[.str (pre++⟨w.toArray⟩) t2]) (List.push_toArray ..) (rx.app (.one ?_)) _)))
    have:(pre++⟨w.toArray⟩:Str) = ⟨(pre.cps.toList++w).toArray⟩:=congrArg Str.mk (by rw [← List.append_toArray])
    rw [this]; exact .str _ _
end
end
section
open PySem PySem.W PyProof.Rows PySem.Calls PySem.SeqAt
section
variable {X:Amb} {D:Nat} {sc:Names} {cq:Value × Str} {env:Env} {own:List Addr} {A:Around} {l:List Env} {c d:Cf} {L L':Lc} {m m' m1 m2:Mem} {tgt:Expr} {P:RP} {rest:List Stmt} {itv:Value} {C M M' V W:Map}
private theorem Map.leS.b (h:Map.leS own l C M):Map.leB (own++l.map (·.locals)) C M:=⟨fun a x n e=>h.h a x (fun q=>n (List.mem_append_left _ q)) (fun e' he q=>n (List.mem_append_right _ (q ▸ List.mem_map_of_mem (f:=(·.locals)) he))) e,h.g⟩
private theorem Pins.onS (p:Pins C W) (h:Map.leS own l C M) (w:Map.leW W M M'):Map.leS own l C M':=⟨fun a x n k e=>w.h a x (p.v a x e) (h.h a x n k e),fun e he o n q=>(h.s e he o n q).imp fun sl z=>w.h _ _ (p.v _ _ q) z,fun i x e=>w.g i x (p.g i x e) (h.g i x e)⟩
private theorem Near.l0 (N:Near X cq env own A c.M l) (F:FS X env sc own c m L) (h:Map.leS own l c.M M):c.M.le0 M:=fun a x e n=>by
  refine h.h a x (fun q=>?_) (fun e' he q=>?_) e
  · obtain ⟨o,w⟩:=(F.ow a q).1
    rw [w] at e; cases e; exact n _ rfl
  · subst q
    obtain ⟨o,w,_⟩:=(N.o e' he).m
    rw [w] at e; cases e; exact n _ rfl
structure ForAtF (X:Amb) (D:Nat) (sc:Names) (tgt:Expr) (env:Env) (own:List Addr) (l:List Env) (itv:Value) (C M0:Map) (c2:Cf) (xs:List AV) (W:Map) (L:Lc) (m:Mem):Prop where
  l:Map.leS own l C c2.M
  l0:M0.le0 c2.M
  F:FS X env sc own c2 m L
  w:W.le c2.M
  p:Pins C W
  f:Feeds X D tgt itv M0 xs W
inductive TurnF (X:Amb) (D:Nat) (sc:Names) (cq:Value × Str) (tgt:Expr) (body:List Stmt) (L:Lc) (m:Mem) (x:AV) (P:RP):Prop
  | mk {L':Lc}:Asg X D sc sc tgt L x L'→WF X D sc cq body L' m P→TurnF X D sc cq tgt body L m x P
private theorem forRunF {α:Type} {f:α→AV} {xs:List α} {body:List Stmt} (I:Nat→Lc→Mem→Prop) (T:Now X D sc env own A c L m) (N:Near X cq env own A c.M l) (it:Iter X D tgt c.M m1 (xs.map f) itv d V) (h0:I 0 L m1)
    (hs:∀ k x L m,xs[k]? = some x→I k L m→TurnF X D sc cq tgt body L m (f x) (Loop (I (k + 1)) P)) (he:∀ L m,I xs.length L m→P .next L m) {R:Result→Shared→Prop} (q:∀ v d fl L m,FinP X env sc own l c P v d fl L m→R (.ok v) d.s):codeAny (model X.prog X.w) A (.forLoop tgt itv body [] env) R d.s:=by
  have ap:=T.F.has
  refine forLoop (Loops f xs I fun c2 xs W L m=>ForAtF X D sc tgt env own l itv c.M d.M c2 xs W L m) (fun n s i=>?_) xs.length (.mk (k:=0) rfl rfl (Nat.zero_le _) h0 ⟨(it.l.b own).s l,fun zz zz e zz=>e,T.F.keep it.l it.h,it.w,it.p,it.f⟩)
  cases i with
  | @mk c2 k W L m hs' hn' hk i F0 =>
    subst hs'; subst hn'
    have ff:=F0.f
    rcases Nat.lt_or_ge k xs.length with hk | hk
    · rw [List.drop_eq_getElem_cons hk] at ff
      refine ff A c2 m _ _ T.R F0.l0 F0.F.S F0.w fun v d1 go=>go _ _ _ T.R fun d2 W2 s2 r2 w2 p2 f2=>?_
      have F2:=F0.F.step ap F0.p F0.w s2
      have N0:=N.s F0.l
      have p2:=p2.pins F0.p F0.l.b fun a ha=>(List.mem_append.mp ha).elim (fun ha=>(F0.F.ow a ha).1.imp' _ fun zz q=>q) fun ha=>by
        obtain ⟨e',h1,rfl⟩:=List.mem_map.mp ha
        exact (N0.o e' h1).m.imp' _ fun zz q=>q.1
      have l2:=F0.p.onS F0.l s2.l
      have N2:=N.s l2
      cases hs k _ L m (List.getElem?_eq_getElem hk) i with
      | @mk L' ha hb =>
        refine ha env own A d2 m v T.R T.T F2 r2 _ _ fun d3 l3 F3=>hb env own A d3 l (T.on F3) (N2.s (l3.s l)) _ _ fun v4 d4 fl L4 m4 g=>?_
        have l4:=(l3.s l).tr g.l
        have lc:Map.leS own l c.M d4.M:=l2.tr l4
        have key:FS X env sc own d4 m4 L4→I (k + 1) L4 m4→∃ m,m < xs.length - k∧Loops f xs I (fun c2 xs W L m=>ForAtF X D sc tgt env own l itv c.M d.M c2 xs W L m) m d4.s:=fun gF i=>⟨xs.length - (k + 1),Nat.sub_succ_lt_self _ _ hk,.mk rfl rfl hk i
          ⟨lc,fun a x e n=>N2.l0 F2 l4 a x ((F0.p.l0 F0.w s2.l) a x (F0.l0 a x e n) n) n,gF,⟨fun a x e=>l4.h a x (fun ha=>(ap.o a ha).elim fun y q=>by rw [p2.v a y q] at e; cases e) (fun e' h1 h2=>by
            obtain ⟨o,w,_⟩:=(N.o e' h1).m
            rw [h2,p2.v _ _ w] at e; cases e) (w2.h a x e),fun i x e=>l4.g i x (w2.g i x e)⟩,p2,f2⟩⟩
        cases g.r with
        | next=>exact key g.F g.p
        | cont=>exact key g.F g.p
        | brk=>exact q _ d4 .next L4 m4 ⟨lc,g.F,.next,g.p⟩
        | ret r=>exact q _ d4 (.ret _) L4 m4 ⟨lc,g.F,.ret r,g.p⟩
    · rw [List.drop_eq_nil_of_le hk] at ff
      have e:k = xs.length:=Nat.le_antisymm ‹_› hk
      subst e
      exact ff A c2 m _ _ T.R F0.l0 F0.F.S F0.w fun d1 s1=>wpAny_execs_nil (q _ d1 .next L m ⟨F0.p.onS F0.l s1.l,F0.F.step ap F0.p F0.w s1,.next,he L m i⟩)
private theorem WF.for {α:Type} {f:α→AV} {xs:List α} {p:Pos} {iter:Expr} {body:List Stmt} (hi:PI X D sc tgt iter L m (xs.map f) m1) (I:Nat→Lc→Mem→Prop) (h0:I 0 L m1)
    (hs:∀ k x L m,xs[k]? = some x→I k L m→TurnF X D sc cq tgt body L m (f x) (Loop (I (k + 1)) (ThenF X D sc cq rest P))) (he:∀ L m,I xs.length L m→WF X D sc cq rest L m P) (hf:∀ env x,foldedSetIterable iter env x = pure x):WF X D sc cq (.For tgt iter body [] p :: rest) L m P :=
  .seq fun env own A c l T N Q E q=>wpAny_For (hi env A c (T.F.at' T.R) _ _ fun itv d V it=>forRunF I T N it h0 hs he q) (hf env)
noncomputable def PEc (X:Amb) (D:Nat) (sc:Names) (cq:Value × Str) (e:Expr) (L:Lc) (m:Mem) (av:AV) (m':Mem):Prop :=
  ∀ (env:Env) (own:List Addr) (A:Around) (c:Cf),env.code = cq.1→env.qual = cq.2→Now X D sc env own A c L m→∀ Q E,(∀ v d,Got X c m' av v d→Q v d.s)→wpAny (model X.prog X.w) A (eval e env) Q E c.s
private theorem WF.set {x:Str} {p p':Pos} {e:Expr} {av:AV} (he:PEc X D sc cq e L m av m1) (hs:NoSwap e) (hx:okB sc x = true) (h:WF X D sc cq rest ((x,av) :: L) m1 P):WF X D sc cq (.Assign [.Name x p'] e p :: rest) L m P :=
  .seq fun env own A c l T N Q E k=>wpAny_Assign_Name (he env own A c N.cd N.q T _ _ fun v d g=>(T.F.keep g.l g.h).store (T.T x (nameOk hx)) g.r fun d2 l2 F2=>k _ d2 .next _ _ ⟨((g.l.b own).tr l2).s l,F2,.next,h⟩) (hs _ _ _)
private theorem PEc.bin {a b:Expr} {op:Operator} {p:Pos} {x y r:AV} (ha:PEc X D sc cq a L m x m1) (hb:PE X D sc b L m1 y m2) (ho:Bin X D (binaryOp op) m2 x y r):PEc X D sc cq (.BinOp a op b p) L m r m2:=fun env own A c h1 h2 T Q E k =>
  wpAny_BinOp (ha env own A c h1 h2 T _ _ fun va d g=>hb env A d ((T.F.at' T.R).up g.l g.h) _ _ fun vb d2 g2=>ho A d2 va vb T.R g2.h (g.r.up g2.l) g2.r Q E fun v d3 g3=>k v d3 (g3.fr (g.l.tr g2.l)))
end
end
section
open PySem PySem.W PyProof.Rows PySem.Calls PySem.SeqAt
section
variable {X X':Amb} {D:Nat} {sc names:Names} {cq:Value × Str} {env:Env} {own own':List Addr} {A:Around} {l:List Env} {c c' d:Cf} {L L':Lc} {m m' m1 m2:Mem} {P:RP}
private theorem Gave.near (g:Gave X D sc names env own A c L m X' own' c') (N:Near X cq env own A c.M l):Near X' cq env own' A c'.M l:={ N with
  o:=fun e he=>by
    have q:=N.o e he
    obtain ⟨o,w,z⟩:=q.m
    have w':=g.m _ _ (N.n e he) w
    exact { q with b:=(g.bp _ _ w').trans q.b,m:=⟨o,w',z⟩ }
  n:=fun e he h=>N.n e he (g.w _ h) }
private theorem Gave.kP (g:Gave X D sc names env own A c L m X' own' c') {v:Flow} {fl:AFlow} (f:FinP X' env (kept names sc) own' l c' (OnlyRet P) v d fl L' m'):FinP X env sc own l c P v d fl L' m':=by
  have h:=g.o
  subst h
  have lS:Map.leS own l c.M d.M:=⟨fun a x n k e=>f.l.h a x (fun h=>n (g.w a h)) k (g.m a x n e),fun e he o n q=>f.l.s e he o (fun h=>n (g.w _ h)) (g.m _ _ n q),fun i x e=>f.l.g i x (g.gg i x e)⟩
  cases fl with
  | ret v=>exact ⟨lS,{ f.F with x:=g.b.tr f.F.x },f.r,f.p⟩
  | _=>exact f.p.elim
noncomputable abbrev tellS (p1 p2 p3 p4 p5 p6:Pos):Stmt:=.Expr (.Call (.Attribute (.Name "told" p1) "append" p2) [.Call (.Name "call" p3) [] [] p4] [] p5) p6
noncomputable abbrev sayS (pre:Str) (k0:Nat) (p1 p2 p3 p4 p5 p6 p7 p8 p9:Pos):Stmt:=.Expr (.Call (.Attribute (.Name "told" p1) "append" p2) [.BinOp (.Constant (.str pre) k0 p3) .Add (.Call (.Name "str" p4) [.Name "error" p5] [] p6) p7] [] p8) p9
variable {cls:String} {Pv:List Value→Prop} {i:Nat} {xs:List AV}
private theorem tellGo {p1 p2 p3 p4 p5 p6:Pos} (T:Now X D sc env own A c L m) (N:Near X cq env own A c.M l) (h:PEX X D sc (.Call (.Name "call" p3) [] [] p4) L m cls Pv m) (ht:L.lookup ("told":Str) = some (.mref i)) (hm:m[i]? = some (.lst xs)) (hl:(p2.endLine == p5.line) = true) {Q:Flow→Shared→Prop} {E:Value→Shared→Prop} (k:∀ e s,Flown X c m (env :: l) cls Pv e s→E (.ref e) s) :
    wpAny (model X.prog X.w) A (execs [tellS p1 p2 p3 p4 p5 p6] env) Q E c.s:=by
  obtain ⟨vt,rt,zt⟩:=T.F.N.var "told" _ ht
  have it:=IsOf.mref hm X _ _ _ T.F.S rt
  refine wpAny_execs_cons (wpAny_Expr ?_ (by unfold interactive; rw [T.F.N.kind]; rfl) rfl)
  exact wpAny_Call_method (T:="list") (id:="list.append") rfl rfl hl PySem.F.plainAttrs_list PySem.F.slot_list_append PySem.F.type_list_append (wpAny_Name (loadVar T.F.N T.F.S zt ⟨it.1,it.2,callWith_builtin rfl (evalArgs_plain (wpAny_items_cons (h env A c (env :: l) (T.F.at' T.R) N.a (N.out T.F) _ _ k) rfl))⟩) (zt.dbg T.F.N.dbg'))
structure TryK (X:Amb) (sc:Names):Prop where
  v:Glo X.B "ValueError" (.type "ValueError")
  z:Glo X.B "ZeroDivisionError" (.type "ZeroDivisionError")
  s:Glo X.B "str" (.type "str")
  nv:sc.lookup ("ValueError":Str) = some .globalImplicit
  nz:sc.lookup ("ZeroDivisionError":Str) = some .globalImplicit
  ns:sc.lookup ("str":Str) = some .globalImplicit
  ne:sc.lookup ("error":Str) = some .local
private theorem TryK.ok (K:TryK X sc):okB sc "error" = true:=by
  unfold okB; rw [K.ne]; rfl
inductive TellK:String→(List Value→Prop)→List Nat→Prop
  | v (w:List Nat):w.length≤2 ^ 20→TellK "ValueError" (fun vs=>∃ t,vs = [.str ⟨w.toArray⟩ t]) (("ValueError: ":Str).cps.toList++w)
  | z:TellK "ZeroDivisionError" (fun vs=>vs = []) ("ZeroDivisionError: ":Str).cps.toList
private theorem notSub:isSubtype (.type "ZeroDivisionError") (.type "ValueError") = pure false:=by rw [isSubtype_type]; kernel_rfl
private theorem subV:isSubtype (.type "ValueError") (.type "ValueError") = pure true:=by rw [isSubtype_type]; kernel_rfl
private theorem subZ:isSubtype (.type "ZeroDivisionError") (.type "ZeroDivisionError") = pure true:=by rw [isSubtype_type]; kernel_rfl
private theorem suiteGo {e:Addr} {pre:Str} {w:List Nat} {k0:Nat} {p1 p2 p3 p4 p5 p6 p7 p8 p9 pos:Pos} {A0:Around} (K:TryK X sc) (F:FS X env sc own d m (("error",.ext (.ref e)) :: L)) (hs:Says X A0 e w d.s.heap) (ht:L.lookup ("told":Str) = some (.mref i)) (h0:L.lookup ("error":Str) = none) (hm:m[i]? = some (.lst xs)) (hz:xs.length≤2 ^ 23) (hw:pre.cps.size + w.length≤2 ^ 24) (hl:(p2.endLine == p8.line) = true)
    {Q:Flow→Shared→Prop} {E E':Value→Shared→Prop} (k:∀ d2,Map.leB own d.M d2.M→FS X env sc own d2 (m.set i (.lst (xs++[.str (pre.cps.toList++w)]))) L→Q .next d2.s) :
    wpAny (model X.prog X.w) A0 (execs [sayS pre k0 p1 p2 p3 p4 p5 p6 p7 p8 p9] env) (fun f s₄=>wpAny (model X.prog X.w) A (do bindName env ("error":Str) .none; unbindBehindTheSuite env ("error":Str) pos) (fun zz s₅=>Q f s₅) E s₄) E' d.s :=
  sayGo F hs ht rfl hm hz hw K.s K.ns hl fun d1 e1 F1=>F1.gone (F.N.names.at K.ne nofun) h0 fun d2 l2 F2=>k d2 (by rw [← e1]; exact l2) F2
private theorem Room.str (R:Room A D) (e:Value):(A.mark (some e)).units + 2 < cLine:=by
  have:=R.2.2
  show A.units + 2 < cLine
  lia
private theorem WSF.tell {w:List Nat} {p1 p2 p3 p4 p5 p6 q1 q2 q3 q4 q5 q6 q7 q8 q9 r1 r2 r3 r4 r5 r6 r7 r8 r9 hp1 hp2 np1 np2 pos:Pos} {kv kz:Nat} (K:TryK X sc) (h:PEX X D sc (.Call (.Name "call" p3) [] [] p4) L m cls Pv m) (ht:L.lookup ("told":Str) = some (.mref i)) (h0:L.lookup ("error":Str) = none) (hm:m[i]? = some (.lst xs)) (hz:xs.length≤2 ^ 23) (hk:TellK cls Pv w) (hl1:(p2.endLine == p5.line) = true) (hl2:(q2.endLine == q8.line) = true) (hl3:(r2.endLine == r8.line) = true) (hP:P .next L (m.set i (.lst (xs++[.str w])))) :
    WSF X D sc cq (.Try [tellS p1 p2 p3 p4 p5 p6] [.ExceptHandler (some (.Name "ValueError" np1)) (some "error") [sayS "ValueError: " kv q1 q2 q3 q4 q5 q6 q7 q8 q9] hp1,.ExceptHandler (some (.Name "ZeroDivisionError" np2)) (some "error") [sayS "ZeroDivisionError: " kz r1 r2 r3 r4 r5 r6 r7 r8 r9] hp2] [] [] pos) L m P:=fun env own A c l T N Q E k=>by
  refine wpAny_Try_except (tellGo T N h ht hm hl1 fun e s x=>x.lands N.f N.a fun s y=>?_)
  cases hk with
  | v w hw =>
    refine y.hit PySem.F.isExc_ValueError PySem.F.notTuple_ValueError subV T N K.v K.nv K.ok fun d t oe ot vs j fs E' Fd ld ex=>?_
    exact suiteGo K Fd (sayOne PySem.F.excStr_ValueError (T.R.str _) Fd.S ex ex.p) ht h0 hm hz (by show 12 + w.length≤_; lia) hl2 fun d2 l2 F2=>k _ d2 .next _ _ ⟨ld.tr (l2.s l),F2,.next,hP⟩
  | z =>
    refine y.pass PySem.F.isExc_ValueError PySem.F.notTuple_ValueError notSub T.F N K.v K.nv ?_
    refine y.hit PySem.F.isExc_ZeroDivisionError PySem.F.notTuple_ZeroDivisionError subZ T N K.z K.nz K.ok fun d t oe ot vs j fs E' Fd ld ex=>?_
    exact suiteGo (w:=[]) K Fd (sayNone PySem.F.excStr_ZeroDivisionError (T.R.str _) Fd.S ex ex.p) ht h0 hm hz (by decide) hl3 fun d2 l2 F2=>k _ d2 .next _ _ ⟨ld.tr (l2.s l),F2,.next,by rw [List.append_nil] at F2; exact hP⟩
end
end
section
open PySem PySem.W PyProof.Rows PySem.Calls PySem.SeqAt
noncomputable def siteRef:Site:=⟨188,184,[(⟨253,0,253,31⟩,"_law_refused.<locals>.<lambda>"),(⟨254,0,254,32⟩,"_law_refused.<locals>.<lambda>"),(⟨255,0,255,31⟩,"_law_refused.<locals>.<lambda>")]⟩
noncomputable def siteHolds:Site:=⟨193,191,[(⟨269,32,269,44⟩,"_law_holds.<locals>.<lambda>"),(⟨270,18,270,58⟩,"_law_holds.<locals>.<lambda>"),(⟨293,80,293,149⟩,"_law_holds.<locals>.<lambda>"),(⟨294,78,294,139⟩,"_law_holds.<locals>.<lambda>")]⟩
structure KnM (X:Amb):Prop extends KnL X where
  mkc:MakeC X 133 109
  f_refused:FnC X (fdAt prog1 25) 189 188
  f_holds:FnC X (fdAt prog1 26) 194 193
  s_refused:Makes X siteRef
  s_holds:Makes X siteHolds
section
variable {X:Amb} {D:Nat} {sc:Names} {env:Env} {own:List Addr} {A:Around} {c:Cf} {L:Lc} {m:Mem}
noncomputable def LamO (params:Arguments) (body:Expr) (scope:Scope) (qual:Str) (cl:List (Str × Addr)) (fo:Obj) (cd:Value):Prop:=∃ pm ct,fo = { cls:=.type "function",data:=.func (kla_fn "<lambda>" qual params body scope cl pm cd ct) }
private theorem LamO.at' {params:Arguments} {body:Expr} {scope:Scope} {qual:Str} {cl:List (Str × Addr)} {fo:Obj} {cd:Value} {M:Map} {r:Addr} {x:Str} {a:Addr} (h:LamO params body scope qual cl fo cd) (hm:M.h r = some (.frz fo)) (hc:cl = [(x,a)]) (hcd:CodeRecM M cd qual):LamAt M ⟨body,params,scope⟩ r x a:=by
  obtain ⟨pm,ct,rfl⟩:=h
  exact ⟨_,_,hm,rfl,rfl,rfl,rfl,rfl,rfl,rfl,hc,rfl,rfl,hcd⟩
private theorem LamO.fn {params:Arguments} {body:Expr} {scope:Scope} {qual:Str} {cl:List (Str × Addr)} {fo:Obj} {cd:Value} (h:LamO params body scope qual cl fo cd):∃ fd,fo.cls = .type "function"∧fo.dict = none∧fo.data = .func fd:=by
  obtain ⟨pm,ct,rfl⟩:=h
  exact ⟨_,rfl,rfl,rfl⟩
private theorem lamGo (b:Bool) {st:Site} (Mk:Makes X st) (T:Now X D sc env own A c L m) {params:Arguments} {body:Expr} {scope:Scope} {pos:Pos} {qual:Str} (hcode:env.code = .ref st.c) (hq:env.qual++"<lambda>" = qual) (hd:defaultsOf params env = ([],[]))
    (hcl:scope.names.all (fun p=>p.2 != .free || sc.lookup p.1 == some .cell) = true) (hu:∀ pq∈st.at',pq.1.line = pos.line→pq.1.col = pos.col→pq.2 = qual) (hin:∃ pq∈st.at',pq.1 = pos) {Q E:Value→Shared→Prop}
    (k:∀ f d fo cd,Made X c m b qual (LamO params body scope qual (closL env.cells scope.names [])) f d fo cd→FS X env sc own d m L→Q (.ref f) d.s):wpAny (model X.prog X.w) A (eval (.Lambda params body scope pos) env) Q E c.s:=by
  have hcc:closureFor scope env = pure (closL env.cells scope.names []):=closureFor_eq fun x hx=>by
    have:sc.lookup x = some .cell:=beq_iff_eq.mp (List.all_eq_true.mp hcl _ hx)
    rcases T.T x (.inr this) with q | ⟨_,c,h,_⟩
    · rw [show env.kindOf x = some .cell from T.F.N.names.at this nofun] at q; cases q
    · exact ⟨c,h⟩
  refine kla_eval hd ?_
  rw [hq]
  exact mkFn b T.F.S Mk (Φ:=LamO params body scope qual (closL env.cells scope.names [])) hu hin
    (fun mg ps h1 h2 h3 h4 h5 h6 h7 k=>kla_makeFunction hcc T.F.N.gl h1 hcode h2 h3 h4 h5 h6 h7 fun c' ctv h' tk a b c d e=>k _ c' h' tk a b c d e rfl ⟨_,_,rfl⟩)
    (fun mg ps cv h1 h2 h3 h4 h5 h6 k=>kla_makeFunctionHit hcc T.F.N.gl h1 hcode h2 h3 h4 h5 h6 fun ctv h' tk a b=>k _ h' tk a b rfl ⟨_,_,rfl⟩) fun f d fo cd md=>k f d fo cd md (T.F.keep md.l md.h)
end
end
section
open PySem PySem.W PyProof.Rows PySem.Calls PySem.SeqAt
section
variable {X X':Amb} {D:Nat} {sc:Names} {L:Lc} {m m1 m2:Mem}
private theorem FnC.up {F:Fd} {a c:Addr} (h:FnC X F a c) (l:X.B.le X'.B):FnC X' F a c:=⟨h.g.up l,h.f.imp fun o q=>q.imp fun doc q=>q.imp fun pm q=>q.imp fun ct q=>{ q with m:=l.h _ _ q.m,code:=q.code.up l.l0.f }⟩
private theorem Makes.up {st:Site} (h:Makes X st) (l:X.B.le X'.B):Makes X' st:=by
  obtain ⟨mg,bm,o,h⟩:=h
  exact ⟨mg,bm,o,{ h with t:=l.h _ _ h.t,hd:=fun hp k=>h.hd hp fun b o e=>k b o (l.h _ _ e),gl:=h.gl.up l,bm:=l.h _ _ h.bm }⟩
private theorem BisAt.up {F:Fd} {a d k:Addr} (h:BisAt X F a d k) (l:X.B.le X'.B):BisAt X' F a d k:=by
  obtain ⟨o,doc,pm,cd,ct,P,t,u,h⟩:=h
  exact ⟨o,doc,pm,cd,ct,P,t,u,{ h with g:=h.g.up l,m:=l.h _ _ h.m,code:=h.code.up l.l0.f,d:=l.h _ _ h.d,k:=l.h _ _ h.k }⟩
private theorem KnB.up (kn:KnB X) (l:X.B.le X'.B):KnB X' :=
  { kn.toKn.up l with
    ci:=kn.ci.up l,mi:=kn.mi.up l,cd:=kn.cd.up l,md:=kn.md.up l
    dl:=kn.dl.imp fun v h=>⟨h.1.up l,fun M k=>h.2 M (l.tr k)⟩
    bR:=kn.bR.up l,bL:=kn.bL.up l }
private theorem FnV.ob {a:Addr} {o:Obj} {fd:FuncData} {avs:List AV} {r:AV} (hm:X.B.h a = some (.frz o)) (hd:o.data = .func fd) (ho:Call X D (opF a) m avs r m1):FnV X D (.ext (.ref a)) m avs r m1:=fun sc L m0 x p es pos hx hes env A c T Q E k=>by
  obtain ⟨v,r1,q⟩:=T.N.var x _ hx
  have:=r1.i_ext
  subst this
  exact (wpAny_bind (wpAny_Name (loadVar T.N T.S q (callWith_function (o:=o) ((hes.p env pos).2 _ _ _ _ _ _ (hes.v pos env A c T _ _ fun vs d g=>⟨⟨g.h.base hm,hd⟩,ho A d vs T.R g.h g.r Q E fun v d2 g2=>k v d2 (g2.fr g.l)⟩)))) (q.dbg T.N.dbg')):wpAny (model X.prog X.w) A (do callWith pos (← eval (.Name x p) env) [] (backTo pos (starEach es env)) (backToKw pos (keywordEach [] env))) Q E c.s)
private theorem PE.and2 {e1 e2:Expr} {p:Pos} {r:AV} (h1:PE X D sc e1 L m (.bool true) m1) (h2:PE X D sc e2 L m1 r m2):PE X D sc (.BoolOp .And [e1,e2] p) L m r m2:=fun env A c T Q E k =>
  BoolOp_and (h1 env A c T _ _ fun v d g=>g.r.i_bool ▸ wpAny_truthy_bool (h2 env A d (T.up g.l g.h) Q E fun v d2 g2=>k v d2 (g2.fr g.l)))
end
end
section
open PySem PySem.W PyProof.Rows PySem.Calls PySem.SeqAt
section
variable {X X':Amb}
private theorem Cls.up {C:Addr} {mN:Str→Option Value} (h:Cls X C mN) (l:X.B.le X'.B):Cls X' C mN:=h.imp fun r q=>{ q with m:=l.h _ _ q.m,ns:=q.ns.up l }
private theorem KnL.up (kn:KnL X) (l:X.B.le X'.B):KnL X' :=
  { kn.toKnB.up l with cls:=kn.cls.imp fun zz q=>⟨q.1.up l,q.2⟩,gcls:=kn.gcls.up l,mi':=kn.mi'.up l,mr:=kn.mr.up l,mg:=kn.mg.up l,mp:=kn.mp.up l }
private theorem KnM.over (kn:KnM X) {M:Map} (l:X.B.le (X.over M).B):KnM (X.over M) :=
  { kn.toKnL.up l with
    mkc:=⟨fun h k=>kn.mkc.made h fun b o e=>k b o (l.h _ _ e),fun h k=>kn.mkc.init h fun b o e=>k b o (l.h _ _ e),fun h k=>kn.mkc.bind h fun b o e=>k b o (l.h _ _ e)⟩
    f_refused:=kn.f_refused.up l,f_holds:=kn.f_holds.up l,s_refused:=kn.s_refused.up l,s_holds:=kn.s_holds.up l }
end
end
section
open PySem PySem.W PyProof.Rows PySem.Calls PySem.SeqAt
noncomputable def fromTo (a:Int) (n:Nat):List Int:=(List.range n).map fun (i:Nat)=>a + i
private theorem fromTo_get {a:Int} {n i:Nat} (h:i < n):(fromTo a n)[i]? = some (a + i):=by
  unfold fromTo
  rw [List.getElem?_map,List.getElem?_range h]; rfl
private theorem fromTo_len (a:Int) (n:Nat):(fromTo a n).length = n:=by simp [fromTo]
section
variable {X:Amb} {D:Nat} {m:Mem} {tgt:Expr} {a b:Int} {n:Nat}
private theorem Call.range2:Call X D (opT "range") m [.int a,.int b] (.rng a b) m:=.of2 fun A c v w R S r q Q E k=>by
  obtain ⟨t,rfl⟩:=r.i_int
  obtain ⟨u,rfl⟩:=q.i_int
  exact PySem.call_range_2 (k _ _ (Got.new S (rngObj a b 1 _ _ _) rfl _ fun M zz e=>.rng e))
private theorem rsz (h:b - a = n):Builtin.Range.rangeSize a b 1 = n:=by rw [rangeSize_one]; split <;> lia
private theorem Call.listRG (h:b - a = n) (h0:-(2 ^ 40)≤a) (h1:a≤2 ^ 40) (hn:n≤2 ^ 23):Call X D (opT "list") m [.rng a b] (.mref m.length) (sn m (.lst ((fromTo a n).map .int))):=.of1 fun A c v R S r Q E k=>by
  cases r.i_rng with
  | mk g =>
    refine call_list_range R.1 (S.frz g) (small_one (by lia) (by lia) (by lia) (by lia)) (rsz h) (dB hn rfl) fun h' tk acc' c' hk' ho hi=>?_
    refine k _ ⟨{ c.s with heap:=h',toks:=tk },_⟩ (Got.join S hk' ho (itemsReps (by rw [List.length_map,fromTo_len]; exact hi) fun i v x hx pv=>?_))
    obtain ⟨t,hv⟩:=pv
    have hi:=(List.getElem?_eq_some_iff.mp hx).1
    rw [List.length_map,fromTo_len] at hi
    rw [List.getElem?_map,fromTo_get hi] at hx
    cases hx
    rw [hv,Int.mul_one]; exact .int _ _
private theorem ItV.rngG (h:b - a = n) (h0:-(2 ^ 40)≤a) (h1:a≤2 ^ 40) (hn:n≤2 ^ 40):ItV X D tgt m (.rng a b) ((fromTo a n).map .int):=fun A c C v R hC S r Q E k=>by
  cases r.i_rng with
  | @mk g t u w hk =>
    refine wpAny_pyIter_range (S.frz hk) (small_one (by lia) (by lia) (by lia) (by lia)) ?_
    rw [rsz h]
    refine k _ _ _ (Iter.new (T:="range_iterator") (tk:=c.s.toks) hC S rfl (fun A' hA=>Walks.range hA _ a 1 n) (fun i h st=>⟨_,st,rfl⟩) (by decide) (fun b hb hbn=>absurd (List.mem_singleton.mp hb) hbn) (by rw [List.length_map,fromTo_len]) (fun i v x hx pv=>?_) ?_ (fun A2 s2 Q2 E2 he hq=>wpAny_pyIter_rangeiter he hq))
    · obtain ⟨t,rfl⟩:=pv
      have hi:=(List.getElem?_eq_some_iff.mp hx).1
      rw [List.length_map,fromTo_len] at hi
      rw [List.getElem?_map,fromTo_get hi] at hx
      cases hx
      rw [Int.mul_one]; exact .int _ _
    · simpa using Heap.get?_push_size c.s.heap rfl
end
noncomputable def Amb.at (X:Amb) (M:Map):Amb:={ X with B:=M }
section
variable {X:Amb} {D:Nat} {sc names:Names} {cq:Value × Str} {env:Env} {own:List Addr} {A:Around} {c:Cf} {L:Lc} {m m0 m1 m2:Mem}
private theorem Now.free (T:Now X D sc env own A c L m) (ok:giveOk sc names L = true):FreeK c.M names (closL env.cells names []) (seen names L):=by
  have F:=T.F
  have cap:∀ x,(x,NameKind.free)∈names→env.kindOf x = some .cell∧∃ b,env.cells.lookup x = some b∧b∈own:=fun x hx=>by
    have h1:=(giveOk_c ok hx).1
    have h2:env.kindOf x = some .cell:=F.N.names.at h1 nofun
    exact (T.T x (.inr h1)).elim (fun q=>by rw [h2] at q; cases q) fun q=>q
  refine ⟨fun x b h=>F.N.cel x b (mem_closL (mem_of_lookup h)).2,fun x av h=>?_⟩
  obtain ⟨h1,h2⟩:=seen_lookup h
  have hm:=mem_of_lookup h2
  obtain ⟨v,r,z⟩:=F.N.var x av h1
  refine ⟨h2,?_⟩
  cases z with
  | loc k=>have:=(cap x hm).1; rw [k] at this; cases this
  | @cel b o k q1 q2 q3=>exact ⟨b,o,v,lookup_first (closL_mem hm q1) fun d hd=>Option.some.inj ((mem_closL hd).2.symm.trans q1),q2,q3,r⟩
structure KeyF (X:Amb) (params:Arguments) (body:Expr) (scope:Scope) (L:Lc) (f:Addr) (o:Obj) (fd:FuncData):Prop where
  m:X.B.h f = some (.frz o)
  d:o.data = .func fd
  c:CodeRecM X.B fd.code fd.qualname
  b:fd.body = .expr body
  ps:fd.params = params
  s:fd.scope = scope
  g:fd.globals = mainGlobals
  bu:fd.builtins = builtinsNs
  df:fd.defaults = .none
  kd:fd.kwdefaults = .none
  fr:FreeK X.B scope.names fd.closure (seen scope.names L)
private theorem KeyF.fn {X:Amb} {params:Arguments} {body:Expr} {scope:Scope} {f:Addr} {o:Obj} {fd:FuncData} (h:KeyF X params body scope L f o fd) (lim:NoLim X.B) {ps:List Str} (ok:cloOkB ps scope = true) (hbind:∀ (fd:FuncData) (vs:List Value),fd.params = params→fd.defaults = .none→fd.kwdefaults = .none→vs.length = ps.length→bindArgs fd ⟨vs,[]⟩ = pure (ps.zip vs)) {avs:List AV} {r:AV} (hl:avs.length = ps.length)
    (hb:PE X D scope.names body (ps.zip avs++seen scope.names L) m r m):FnV X (D + 1) (.ext (.ref f)) m avs r m:=by
  obtain ⟨h1,h2,h3,h4,h5,h6,h7,h8,h9,h10,h11⟩:=h
  subst h6
  exact .ob h1 h2 (callLam h1 h2 h3 h4 h7 h8 lim (cloOk ok) h11 (fun vs hv=>hbind fd vs h5 h9 h10 hv) hl hb)
private theorem PEc.key {st:Site} (Mk:Makes X st) {x kname:Str} {a:Addr} {o:Obj} {fd:FuncData} {p pos kp lp:Pos} {e:Expr} {es:List Expr} {avs:List AV} {r:AV} {params:Arguments} {body:Expr} {scope:Scope} {qual:Str} (hcd:cq.1 = .ref st.c) (hq:cq.2++"<lambda>" = qual) (hd0:∀ env,defaultsOf params env = ([],[]))
    (ok:giveOk sc scope.names L = true) (hcl:scope.names.all (fun p=>p.2 != .free || sc.lookup p.1 == some .cell) = true) (hu:∀ pq∈st.at',pq.1.line = lp.line→pq.1.col = lp.col→pq.2 = qual) (hin:∃ pq∈st.at',pq.1 = lp)
    (hx:sc.lookup x = some .globalImplicit) (hg:Glo X.B x (.ref a)) (hm:X.B.h a = some (.frz o)) (hd:o.data = .func fd) (he:∀ env,starEach (e :: es) env = (false,eval e env) :: starEach es env) (hes:PEs X D sc (e :: es) L m0 avs m1)
    (ho:∀ M f fo ffd,X.B.le M→KeyF (X.at M) params body scope L f fo ffd→Call (X.at M) D (fun vs=>PySem.call (.ref a) vs.dropLast [(kname,vs.getLastD .none)]) m1 (avs++[.ext (.ref f)]) r m2) :
    PEc X D sc cq (.Call (.Name x p) (e :: es) [⟨some kname,.Lambda params body scope lp,kp⟩] pos) L m0 r m2:=fun env own A c e1 e2 T Q E k=>by
  show wpAny _ A (do callWith pos (← eval (.Name x p) env) [] (backTo pos (starEach (e :: es) env)) (backToKw pos (keywordEach [⟨some kname,.Lambda params body scope lp,kp⟩] env))) Q E c.s
  have T1:=T.F.at' T.R
  refine wpAny_bind (globGo T1 hx hg ?_)
  refine callWith_function_kw (o:=o) (fd:=fd) (evalArgs_kw2 rfl (hes pos env A c T1 _ _ fun vs d g=>?_) (he env))
  have F1:=T.F.keep g.l g.h
  refine kwAll_cons (lamGo true Mk (T.on F1) (e1.trans hcd) (by rw [e2]; exact hq) (hd0 env) hcl hu hin fun f d2 fo cd md F2=>kwAll_nil ?_)
  refine ⟨⟨F2.S.base hm,hd⟩,?_⟩
  obtain ⟨pm,ct,hfo⟩:=md.p
  have K:KeyF (X.at d2.M) params body scope L f fo (kla_fn "<lambda>" qual params body scope (closL env.cells scope.names []) pm cd ct):=by
    subst hfo
    exact ⟨md.f,rfl,md.c,rfl,rfl,rfl,rfl,rfl,rfl,rfl,(T.on F2).free ok⟩
  have S2:Sep (X.at d2.M) d2.s d2.M m1:={ F2.S with x:=.rf _ }
  have h3:=ho d2.M f fo _ F2.S.x K A d2 (vs++[.ref f]) T.R S2 ((g.r.up md.l).app (.one (.ext _))) Q E fun v d3 g3=>k v d3 ⟨(g.l.tr md.l).tr g3.l,{ g3.h with x:=F2.S.x.tr g3.l },g3.r⟩
  simp only [List.dropLast_concat,List.getLastD_concat] at h3
  exact h3
end
end
section
open PySem PySem.W PyProof.Rows PySem.Calls PySem.SeqAt
section
variable {X:Amb} {D:Nat} {m m':Mem} {av r kv xv:AV} {lo hi:Int}
private theorem BisAt.fiveC {F:Fd} {a d k:Addr} (h:BisAt X F a d k) (lim:NoLim X.B) (hD:4≤D) (ok:cloOkB bisNames F.scope = true) (hbind:∀ {P:Params} {s:Shared} {t u:Tok} (_:(bisK P d k t u).In s.heap) (doc pm cd ct a x l h y:Value),BindsTo s (fnX F.name F.name F.params F.body F.scope [] (.ref d) (.ref k) doc pm none cd ct) ⟨[a,x,l,h],[("key",y)]⟩ (bisNames.zip [a,x,l,h,y]))
    (hb:wpS ⟨X,D,F.scope.names,[]⟩ 40 40 F.body (bisNames.zip [av,xv,.int lo,.int hi,kv]) m (Ret (IsV r m'))):Call X (D + 1) (fun vs=>PySem.call (.ref a) vs.dropLast [("key",vs.getLastD .none)]) m [av,xv,.int lo,.int hi,kv] r m':=fun A c vs Ro S rs Q E kk=>by
  obtain ⟨o,doc,pm,cd,ct,P,t,u,h⟩:=h
  cases rs.i_cons with
  | mk r1 q1=>cases q1.i_cons with
    | mk r2 q2=>cases q2.i_cons with
      | mk r3 q3=>cases q3.i_cons with
        | mk r4 q4=>cases q4.i_cons with
          | mk r5 q5 =>
            cases q5.i_nil
            exact callD (avs:=[av,xv,.int lo,.int hi,kv]) h.m h.data h.code rfl rfl rfl rfl lim (cloOk ok) rfl (wpS_ok (G:=⟨X,D,F.scope.names,[]⟩) hD hb) Ro S (.cons r1 (.cons r2 (.cons r3 (.cons r4 (.one r5))))) (hbind (inK (S.base h.d) (S.base h.k)) _ _ _ _ _ _ _ _ _) fun v d r' m'' hr g2=>by cases hr; exact kk v d g2
end
section
variable {X:Amb} {D:Nat} {m:Mem} {av:AV} {N lo:Nat} {g:Nat→Int} {kb:Nat→Bool} {x:Bool} {f:Addr}
noncomputable def bisLb (av kv:AV) (x:Bool) (s:Nat × Nat):Lc:=bd "lo" (.int s.1) (bd "hi" (.int s.2) (bd "a" av (bd "x" (.bool x) (bd "key" kv []))))
private theorem op_bisL5 (kn:KnB X) (hD:4≤D) (hN:N < 2 ^ 12) (hl:lo≤N) (at':∀ i,lo≤i→i < N→Sub X D m av (.int (i:Nat)) (.int (g i))) (hkey:∀ i,lo≤i→i < N→FnV X D (.ext (.ref f)) m [.int (g i)] (.bool (kb i)) m) :
    Call X (D + 1) (fun vs=>PySem.call (.ref 32) vs.dropLast [("key",vs.getLastD .none)]) m [av,.bool x,.int (lo:Nat),.int (N:Nat),.ext (.ref f)] (.int (bisGo (fun i=>!(!kb i && x)) 12 lo N:Nat)) m:=by
  refine BisAt.fiveC (av:=av) (xv:=.bool x) (lo:=(lo:Nat)) (hi:=(N:Nat)) (kv:=.ext (.ref f)) kn.bL kn.lim hD (by rfl) (fun h zz zz zz zz zz zz zz zz zz=>kp_binds h fun zz=>by rfl) (.f (decide_eq_false (Int.not_lt.mpr (Int.natCast_nonneg _))) ⟨.isIN,.f rfl ⟨.isEN,.f rfl ?_⟩⟩)
  refine W.whileW (G:=⟨X,D,_,[]⟩) hD (bisLb av (.ext (.ref f)) x) (fun zz=>m) (fun n s=>BisI (fun i=>!(!kb i && x)) N (bisGo (fun i=>!(!kb i && x)) 12 lo N) n s∧lo≤s.1) 12 (.mk (lo,N) ⟨⟨hl,Nat.le_refl _,Nat.lt_of_le_of_lt (Nat.sub_le ..) hN,rfl⟩,Nat.le_refl _⟩ rfl (.rf rfl)) ?_
  rintro n ⟨l,h⟩ ⟨I,I2⟩
  have I2:lo≤l:=I2
  by_cases hl:l < h
  · obtain ⟨j,rfl,h1,h2,h3⟩:=bis_step I hl
    have e:=bis_mid l h
    have h4:l≤(l + h) / 2:=by lia
    have h5:=Nat.le_trans I2 h4
    have hs:Sub X D m av (.int (((l:Int) + h).fdiv 2)) (.int (g ((l + h) / 2))):=e.symm ▸ at' _ h5 h1
    refine .go ⟨decide_eq_true (Int.ofNat_lt.mpr hl),.div (by decide) (by decide),hs,hkey _ h5 h1,.ltB,fun q=>?_,fun q=>?_⟩
    · exact ⟨j,Nat.lt_succ_self _,.mk ((l + h) / 2 + 1,h) ⟨h3 (congrArg (fun z=>!z) q),Nat.le_succ_of_le h5⟩ rfl (.cons (congrArg (fun z=>some (AV.int (z + 1))) e) (.cons rfl (.cons rfl (.cons rfl (.cons rfl .nil)))))⟩
    · exact ⟨j,Nat.lt_succ_self _,.mk (l,(l + h) / 2) ⟨h2 (congrArg (fun z=>!z) q),I2⟩ rfl (.cons rfl (.cons (congrArg (fun z=>some (AV.int z)) e) (.cons rfl (.cons rfl (.cons rfl .nil)))))⟩
  · cases bis_end I hl
    exact .no ⟨decide_eq_false (fun q=>hl (Int.ofNat_lt.mp q)),.mk⟩
private theorem op_bisR5 (kn:KnB X) (hD:4≤D) (hN:N < 2 ^ 12) (hl:lo≤N) (at':∀ i,lo≤i→i < N→Sub X D m av (.int (i:Nat)) (.int (g i))) (hkey:∀ i,lo≤i→i < N→FnV X D (.ext (.ref f)) m [.int (g i)] (.bool (kb i)) m) :
    Call X (D + 1) (fun vs=>PySem.call (.ref 23) vs.dropLast [("key",vs.getLastD .none)]) m [av,.bool x,.int (lo:Nat),.int (N:Nat),.ext (.ref f)] (.int (bisGo (fun i=>!x && kb i) 12 lo N:Nat)) m:=by
  refine BisAt.fiveC (av:=av) (xv:=.bool x) (lo:=(lo:Nat)) (hi:=(N:Nat)) (kv:=.ext (.ref f)) kn.bR kn.lim hD (by rfl) (fun h zz zz zz zz zz zz zz zz zz=>kp_binds h fun zz=>by rfl) (.f (decide_eq_false (Int.not_lt.mpr (Int.natCast_nonneg _))) ⟨.isIN,.f rfl ⟨.isEN,.f rfl ?_⟩⟩)
  refine W.whileW (G:=⟨X,D,_,[]⟩) hD (bisLb av (.ext (.ref f)) x) (fun zz=>m) (fun n s=>BisI (fun i=>!x && kb i) N (bisGo (fun i=>!x && kb i) 12 lo N) n s∧lo≤s.1) 12 (.mk (lo,N) ⟨⟨hl,Nat.le_refl _,Nat.lt_of_le_of_lt (Nat.sub_le ..) hN,rfl⟩,Nat.le_refl _⟩ rfl (.rf rfl)) ?_
  rintro n ⟨l,h⟩ ⟨I,I2⟩
  have I2:lo≤l:=I2
  by_cases hl:l < h
  · obtain ⟨j,rfl,h1,h2,h3⟩:=bis_step I hl
    have e:=bis_mid l h
    have h4:l≤(l + h) / 2:=by lia
    have h5:=Nat.le_trans I2 h4
    have hs:Sub X D m av (.int (((l:Int) + h).fdiv 2)) (.int (g ((l + h) / 2))):=e.symm ▸ at' _ h5 h1
    refine .go ⟨decide_eq_true (Int.ofNat_lt.mpr hl),.div (by decide) (by decide),hs,hkey _ h5 h1,.ltB,fun q=>?_,fun q=>?_⟩
    · exact ⟨j,Nat.lt_succ_self _,.mk (l,(l + h) / 2) ⟨h2 q,I2⟩ rfl (.cons rfl (.cons (congrArg (fun z=>some (AV.int z)) e) (.cons rfl (.cons rfl (.cons rfl .nil)))))⟩
    · exact ⟨j,Nat.lt_succ_self _,.mk ((l + h) / 2 + 1,h) ⟨h3 q,Nat.le_succ_of_le h5⟩ rfl (.cons (congrArg (fun z=>some (AV.int (z + 1))) e) (.cons rfl (.cons rfl (.cons rfl (.cons rfl .nil)))))⟩
  · cases bis_end I hl
    exact .no ⟨decide_eq_false (fun q=>hl (Int.ofNat_lt.mp q)),.mk⟩
end
end
section
open PySem PySem.W PyProof.Rows PySem.Calls PySem.SeqAt
private theorem closL_one {cells:List (Str × Addr)} {x:Str} {c:Addr} (h:cells.lookup x = some c) {gs:Names} (hg:gs.all (fun p=>p.2 != .free) = true):closL cells ((x,.free) :: gs) [] = [(x,c)]:=by
  show (List.filterMap (frC cells) ((x,.free) :: gs)).reverse++[] = _
  have e:frC cells (x,.free) = some (x,c):=by show (cells.lookup _).map _ = _; rw [h]; rfl
  have e2:gs.filterMap (frC cells) = []:=List.filterMap_eq_nil_iff.mpr fun p hp=>by
    have:=List.all_eq_true.mp hg p hp
    unfold frC
    exact if_neg (by rw [bne_iff_ne] at this; exact fun q=>this (beq_iff_eq.mp q))
  rw [List.filterMap_cons_some e,e2]; rfl
noncomputable def loW:List Nat:=("lo must be non-negative":Str).cps.toList
noncomputable abbrev PvV (vs:List Value):Prop:=∃ t,vs = [.str ⟨loW.toArray⟩ t]
noncomputable abbrev PvZ (vs:List Value):Prop:=vs = []
section
variable {X:Amb} {D:Nat} {m:Mem} {av:AV}
private theorem bisX {F:Fd} {a d k:Addr} {cls:String} {P:List Value→Prop} (h:BisAt X F a d k) (lim:NoLim X.B) (ok:cloOkB bisNames F.scope = true) (hbind:∀ {P:Params} {s:Shared} {t u:Tok} (_:(bisK P d k t u).In s.heap) (doc pm cd ct a x l:Value),BindsTo s (fnX F.name F.name F.params F.body F.scope [] (.ref d) (.ref k) doc pm none cd ct) ⟨[a,x,l],[]⟩ (bisNames.zip [a,x,l,.none,.none]))
    (hb:WX X D F.scope.names F.body (bisNames.zip [av,.int 0,.int (-1),.none,.none]) m cls P m):CallX X (D + 1) (opF a) m [av,.int 0,.int (-1)] cls P m:=fun A c vs l fa Oo Ro S rs Q E kk=>by
  obtain ⟨o,doc,pm,cd,ct,P,t,u,h⟩:=h
  cases rs.i_cons with
  | mk r1 q1=>cases q1.i_cons with
    | mk r2 q2=>cases q2.i_cons with
      | mk r3 q3 =>
        cases q3.i_nil
        exact callXD (avs:=[av,.int 0,.int (-1),.none,.none]) h.m h.data h.code rfl rfl rfl rfl lim (cloOk ok) rfl hb fa Oo Ro S (.cons r1 (.cons r2 (.cons r3 (.cons .none (.one .none))))) (hbind (inK (S.base h.d) (S.base h.k)) _ _ _ _ _ _ _) kk
private theorem lo_body (kn:KnB X) {sc:Names} {L:Lc} {p1 p2 p3 p4 p5 p6 p7 p8:Pos} {k1 k2:Nat} {b rest:List Stmt} (hl:L.lookup ("lo":Str) = some (.int (-1))) (hx:sc.lookup ("ValueError":Str) = some .globalImplicit) :
    WX X D sc (.If (.Compare (.Name "lo" p1) [.Lt] [.Constant (.int 0) k1 p2] p3) [.Raise (some (.Call (.Name "ValueError" p4) [.Constant (.str "lo must be non-negative") k2 p5] [] p6)) none p7] b p8 :: rest) L m "ValueError" PvV m :=
  .ifT (.cmp (.var hl) .int .lt rfl) (.raiseC PySem.F.excCall_ValueError PySem.F.excRaise_ValueError (kn.bu _ _ rfl) hx (.cons (fun zz=>rfl) .str .nil) (by decide) fun M vs r=>by
    cases r.i_cons with
    | mk r1 r2 =>
      cases r2.i_nil
      obtain ⟨t,rfl⟩:=r1.i_str
      exact ⟨t,rfl⟩)
private theorem bisL_X (kn:KnB X):CallX X (D + 1) (opF 32) m [av,.int 0,.int (-1)] "ValueError" PvV m :=
  bisX kn.bL kn.lim (by rfl) (fun h zz zz zz zz zz zz zz=>kp_binds h fun zz=>by rfl) (lo_body kn rfl (by rfl))
private theorem bisR_X (kn:KnB X):CallX X (D + 1) (opF 23) m [av,.int 0,.int (-1)] "ValueError" PvV m :=
  bisX kn.bR kn.lim (by rfl) (fun h zz zz zz zz zz zz zz=>kp_binds h fun zz=>by rfl) (lo_body kn rfl (by rfl))
private theorem div_body (kn:KnB X) (hD:4≤D) {sc:Names} {L:Lc} {p1 p2 p3 p4 p5 p6:Pos} {k1:Nat} {b rest:List Stmt} (hl:L.lookup ("b":Str) = some (.int 0)) (hx:sc.lookup ("ZeroDivisionError":Str) = some .globalImplicit) :
    WX X D sc (.If (.Compare (.Name "b" p1) [.Eq] [.Constant (.int 0) k1 p2] p3) [.Raise (some (.Name "ZeroDivisionError" p4)) none p5] b p6 :: rest) L m "ZeroDivisionError" PvZ m :=
  .ifT (.cmp (.var hl) .int (.eqI hD) rfl) (.raiseT PySem.F.excCall_ZeroDivisionError excClass_ZeroDivisionError (kn.bu _ _ rfl) hx rfl)
private theorem div_X (kn:KnB X) (hD:4≤D) {a:Int}:CallX X (D + 1) (opF 74) m [.int a,.int 0] "ZeroDivisionError" PvZ m:=fun A c vs l fa Oo Ro S rs Q E kk=>by
  obtain ⟨o,doc,pm,cd,ct,h⟩:=(kn.fn 10 74 rfl).f
  exact callXD (avs:=[.int a,.int 0]) (ps:=["a","b"]) h.m h.data h.code rfl rfl rfl rfl kn.lim (cloOk (by rfl)) rfl (div_body kn hD rfl (by rfl)) fa Oo Ro S rs (.of_eq ((BindN.to (ps:=["a","b"]) (us:=[]) (bs:=[]) (fun zz zz=>rfl) rs.len))) kk
end
end
section
open PySem PySem.W PyProof.Rows PySem.Calls PySem.SeqAt
noncomputable abbrev refSc:Names:=(fdAt prog1 25).scope.names
noncomputable abbrev refN:Names:=([("row",.free)]:Names)
noncomputable def toldAV:List AV:=[.str (("ValueError: ":Str).cps.toList++loW),.str (("ValueError: ":Str).cps.toList++loW),.str ("ZeroDivisionError: ":Str).cps.toList]
noncomputable def refM (m:Mem) (ns:List Int) (k:Nat):Mem:=sn (sn m (.lst (toldAV.take k))) (.lst (ns.map .int))
noncomputable def refW:List (List Nat):=[("ValueError: lo must be non-negative":Str).cps.toList,("ValueError: lo must be non-negative":Str).cps.toList,("ZeroDivisionError: ":Str).cps.toList]
private theorem refW_ok:∀ l∈refW,okS l:=by
  show ∀ l∈refW,∀ c∈l,c < 0x110000
  decide
structure RefI (m:Mem) (ns:List Int) (i k:Nat) (L:Lc) (m2:Mem):Prop where
  t:L.lookup ("told":Str) = some (.mref m.length)
  kp:L.lookup ("kept":Str) = some (.mref (m.length + 1))
  r:L.lookup ("row":Str) = some (.mref i)
  e:L.lookup ("error":Str) = none
  m:m2 = refM m ns k
structure LamX (X:Amb) (D:Nat) (i:Nat) (ns:List Int) (f:Addr) (cls:String) (P:List Value→Prop):Prop where
  o:∃ o fd,X.B.h f = some (.frz o)∧o.data = .func fd
  c:∀ m,m[i]? = some (.lst (ns.map .int))→CallX X D (opF f) m [] cls P m
private theorem lamX {X:Amb} {D i:Nat} {ns:List Int} {f cl:Addr} {fo:Obj} {cd:Value} {params:Arguments} {body:Expr} {scope:Scope} {qual:Str} {cells:List (Str × Addr)} {cls:String} {P:List Value→Prop} {gs:Names} {co:Obj} {w:Value} (lim:NoLim X.B) (h:LamO params body scope qual (closL cells scope.names []) fo cd) (hm:X.B.h f = some (.frz fo)) (hcd:CodeRecM X.B cd qual) (hc:cells.lookup ("row":Str) = some cl) (hco:X.B.ob cl co) (hcd2:co.data = .cell (some w)) (hw:Rep X.B (.mref i) w)
    (hn:scope.names = (("row":Str),NameKind.free) :: gs) (hg:gs.all (fun p=>p.2 != .free) = true) (ok:cloOkB [] scope = true) (hbind:∀ fd:FuncData,fd.params = params→fd.defaults = .none→fd.kwdefaults = .none→bindArgs fd ⟨[],[]⟩ = pure ([]:List (Str × Value))) (hb:∀ m,m[i]? = some (.lst (ns.map .int))→PEX X D scope.names body [("row",.mref i)] m cls P m):LamX X (D + 1) i ns f cls P:=by
  obtain ⟨pm,ct,rfl⟩:=h
  have e:closL cells scope.names [] = [(("row":Str),cl)]:=by rw [hn]; exact closL_one hc hg
  refine ⟨⟨_,_,hm,rfl⟩,fun m hm'=>callLamX (fvs:=[("row",.mref i)]) (ps:=[]) hm rfl hcd rfl rfl rfl lim (cloOk ok) ?_ (fun vs hv=>by cases List.eq_nil_of_length_eq_zero hv; exact hbind _ rfl rfl rfl) rfl (hb m hm')⟩
  show FreeK X.B scope.names (closL cells scope.names []) _
  rw [e]
  refine ⟨fun x b h=>?_,fun x av h=>?_⟩
  · rw [List.lookup_cons] at h
    split at h
    · cases h; exact ⟨_,hco⟩
    · cases h
  · rcases lookup_set (L:=[]) h with ⟨e1,e2⟩ | ⟨_,e⟩
    · rw [e1,e2]
      exact ⟨by rw [hn]; rfl,cl,co,w,rfl,hco,hcd2,hw⟩
    · cases e
section
variable {X:Amb} {D:Nat} {m:Mem} {i:Nat} {ns:List Int}
private theorem refM_i {k:Nat} (hm:m[i]? = some (.lst (ns.map .int))):(refM m ns k)[i]? = some (.lst (ns.map .int)):=by
  have hlt:i < m.length:=(List.getElem?_eq_some_iff.mp hm).1
  unfold refM sn
  rw [List.getElem?_append_left (by rw [List.length_append]; exact Nat.lt_add_right _ hlt),List.getElem?_append_left hlt]; exact hm
private theorem ref_turn (K:TryK X (kept refN refSc)) {f:Addr} {cls:String} {P:List Value→Prop} {w:List Nat} (h:LamX X D i ns f cls P) (hm:m[i]? = some (.lst (ns.map .int))) (hk:TellK cls P w) {cq:Value × Str} {k:Nat} (hw:toldAV[k]? = some (.str w)) {L:Lc} {m2:Mem} (I:RefI m ns i k L m2) {p1 p2 p3 p4 p5 p6 q1 q2 q3 q4 q5 q6 q7 q8 q9 r1 r2 r3 r4 r5 r6 r7 r8 r9 hp1 hp2 np1 np2 pos tp:Pos} {kv kz:Nat} (hl1:(p2.endLine == p5.line) = true) (hl2:(q2.endLine == q8.line) = true) (hl3:(r2.endLine == r8.line) = true) {P':RP} :
    TurnF X D (kept refN refSc) cq (.Name "call" tp) [.Try [tellS p1 p2 p3 p4 p5 p6] [.ExceptHandler (some (.Name "ValueError" np1)) (some "error") [sayS "ValueError: " kv q1 q2 q3 q4 q5 q6 q7 q8 q9] hp1,.ExceptHandler (some (.Name "ZeroDivisionError" np2)) (some "error") [sayS "ZeroDivisionError: " kz r1 r2 r3 r4 r5 r6 r7 r8 r9] hp2] [] [] pos] L m2 (.ext (.ref f)) (Loop (RefI m ns i (k + 1)) P'):=by
  obtain ⟨o,fd,ho,hd⟩:=h.o
  refine .mk (L':=("call",.ext (.ref f)) :: L) (Asg.name (by rfl)) (.seq (WSF.tell (i:=m.length) (xs:=toldAV.take k) K (PEX.callV rfl ho hd .nil (h.c _ (by rw [I.m]; exact refM_i hm))) ((lookup_ne (by decide)).trans I.t) ((lookup_ne (by decide)).trans I.e) (by rw [I.m]; exact sn_get1 _ _ _) (Nat.le_trans (List.length_take_le' ..) (by decide)) hk hl1 hl2 hl3 (W.p (.nil ?_))))
  refine ⟨(lookup_ne (by decide)).trans I.t,(lookup_ne (by decide)).trans I.kp,(lookup_ne (by decide)).trans I.r,(lookup_ne (by decide)).trans I.e,?_⟩
  rw [I.m]
  unfold refM
  rw [sn_set1,List.take_add_one,hw]; rfl
private theorem ref_end (hD:4≤D) {sc:Names} {L:Lc} (I:RefI m ns i 3 L (refM m ns 3)) (hm:m[i]? = some (.lst (ns.map .int))) {p1 p2 p3 p4 p5 p6 p7 p8 p9 q1 q2 q3 q4 q5:Pos} {k1 k2 k3:Nat} {P:RP} (h:P (.ret (.bool true)) L (refM m ns 3)) :
    W X D sc [.Return (some (.BoolOp .And [.Compare (.Name "told" p1) [.Eq] [.BinOp (.BinOp (.List [.Constant (.str "ValueError: lo must be non-negative") k1 p2] p3) .Mult (.Constant (.int 2) k2 p4) p5) .Add (.List [.Constant (.str "ZeroDivisionError: ") k3 p6] p7) p8] p9,.Compare (.Name "row" q1) [.Eq] [.Name "kept" q2] q3] q4)) q5] L (refM m ns 3) P:=by
  have hm2:=refM_i (k:=3) hm
  have hk:(refM m ns 3)[m.length + 1]? = some (.lst (ns.map .int)):=by
    have:=sn_get (sn m (.lst (toldAV.take 3))) (.lst (ns.map .int))
    rw [sn_len] at this; exact this
  have ht:(refM m ns 3)[m.length]? = some (.lst ((toldAV.take 3))):=sn_get1 _ _ _
  refine .ret (.and2 (.cmp (.var I.t) (.bin (.bin (.lst (.cons' (fun zz=>rfl) .str .nil) (by decide)) .int (Bin.mulL nofun (by decide) (by decide) (by decide))) (.lst (.cons' (fun zz=>rfl) .str .nil) (by decide)) (Bin.addL (by decide))) ?_ rfl) (.cmp (.var I.r) (.var I.kp) ?_ rfl)) h
  · exact .eq (dx:=.list (refW.map pyS)) (dy:=.list (refW.map pyS)) (.mref ht (.strs refW)) (.lst (.strs refW)) (shaped_strs refW_ok) (shaped_strs refW_ok) (by rw [eqv_ss]; exact decide_eq_true rfl) hD
  · exact .eq (dx:=.list (ns.map .int)) (dy:=.list (ns.map .int)) (.mref hm2 (.ints ns)) (.mref hk (.ints ns)) (shaped_ints ns) (shaped_ints ns) (by rw [eqv_is]; exact decide_eq_true rfl) hD
end
end
section
open PySem PySem.W PyProof.Rows PySem.Calls PySem.SeqAt
section
variable {X:Amb} {D:Nat} {m:Mem} {i:Nat} {ns:List Int}
noncomputable def refCq:Value × Str:=(.ref 188,"_law_refused.<locals>.")
private theorem FS.l0m {sc:Names} {env:Env} {own:List Addr} {c:Cf} {M:Map} {L:Lc} (F:FS X env sc own c m L) (h:∀ a x,a ∉ own→c.M.h a = some x→M.h a = some x):c.M.le0 M:=fun a x e n=>h a x (fun q=>by
  obtain ⟨o,w⟩:=(F.ow a q).1
  rw [w] at e; cases e; exact n _ rfl) e
noncomputable def refL (m:Mem) (i:Nat):Lc:=[("told",.mref m.length),("kept",.mref (m.length + 1)),("row",.mref i)]
private theorem ref_tail (kn:KnM X) (hD:20≤D) (hz:ns.length≤2 ^ 20) (hm:m[i]? = some (.lst (ns.map .int))) {P:RP} (h:∀ L,P (.ret (.bool true)) L (refM m ns 3)):WF X D refSc refCq ((fdAt prog1 25).body.drop 1) (refL m i) (refM m ns 0) P:=fun env own A c l T N Q E k=>by
  obtain ⟨D,rfl⟩:∃ d,D = d + 3:=⟨D - 3,by lia⟩
  have hq:env.qual++"<lambda>" = "_law_refused.<locals>.<lambda>":=by rw [N.q]; rfl
  refine wpAny_execs_cons (wpAny_For (wpAny_Tuple (wpAny_items_cons (lamGo true kn.s_refused T N.cd hq rfl rfl (by decide) ⟨_,.head _,rfl⟩ fun f1 d1 fo1 cd1 md1 F1=>wpAny_items_cons (lamGo true kn.s_refused (T.on F1) N.cd hq rfl rfl (by decide) ⟨_,.tail _ (.head _),rfl⟩ fun f2 d2 fo2 cd2 md2 F2 =>
    wpAny_items_cons (lamGo true kn.s_refused (T.on F2) N.cd hq rfl rfl (by decide) ⟨_,.tail _ (.tail _ (.head _)),rfl⟩ fun f3 d3 fo3 cd3 md3 F3=>wpAny_items_nil ⟨by simp [sizeLine_is],?_⟩) rfl) rfl) rfl)) (fun zz=>rfl))
  have g3:=Got.newTup md3.h (.cons (.ext (.ref f1)) (.cons (.ext (.ref f2)) (.one (.ext (.ref f3))))) d3.s.toks
  have F4:=F3.keep g3.l g3.h
  have l34:=md2.l.tr (md3.l.tr g3.l)
  have l4:=md1.l.tr l34
  have N4:=N.s ((l4.b own).s l)
  obtain ⟨X',own',c',g⟩:=(T.on F4).give (names:=refN) (by rfl)
  have go:=g.o
  subst go
  have m0:=F4.l0m g.m
  have rt:=g3.r.up0 m0
  obtain ⟨_,cl,co,vl,hcl,hco,hcd,rl⟩:=g.F.var "row" (.mref i) (by rfl)
  have hcl':env.cells.lookup ("row":Str) = some cl:=(mem_closL (mem_of_lookup hcl)).2
  have lim:=kn.lim.up g.b
  have knB:=kn.toKnB.up g.b
  have K:TryK (X.over c'.M) (kept refN refSc):=⟨knB.bu _ _ rfl,knB.bu _ _ rfl,knB.bu _ _ rfl,by rfl,by rfl,by rfl,by rfl⟩
  have h1:LamX (X.over c'.M) (D + 3) i ns f1 "ValueError" PvV:=lamX lim md1.p (g.l _ _ (l34.h _ _ md1.f)) ((md1.c.up l34.l0.f).up g.l) hcl' hco hcd rl rfl rfl (by rfl) (fun fd e1 e2 e3=>by
    obtain ⟨name,qual,params,body,scope,gl,cl,df,kw⟩:=fd
    dsimp only at e1 e2 e3
    subst e1; subst e2; subst e3
    rfl) fun m hm'=>by
      obtain ⟨o,doc,pm,cd,ct,P,t,u,b⟩:=knB.bL
      exact .call b.g b.m b.data (.cons (fun zz=>rfl) (.var rfl) (.cons (fun zz=>rfl) .int (.cons (fun zz=>rfl) (.un .int .neg) .nil))) (bisL_X knB) (by rfl)
  have h2:LamX (X.over c'.M) (D + 3) i ns f2 "ValueError" PvV:=lamX lim md2.p (g.l _ _ ((md3.l.tr g3.l).h _ _ md2.f)) ((md2.c.up (md3.l.tr g3.l).l0.f).up g.l) hcl' hco hcd rl rfl rfl (by rfl) (fun fd e1 e2 e3=>by
    obtain ⟨name,qual,params,body,scope,gl,cl,df,kw⟩:=fd
    dsimp only at e1 e2 e3
    subst e1; subst e2; subst e3
    rfl) fun m hm'=>by
      obtain ⟨o,doc,pm,cd,ct,P,t,u,b⟩:=knB.bR
      exact .call b.g b.m b.data (.cons (fun zz=>rfl) (.var rfl) (.cons (fun zz=>rfl) .int (.cons (fun zz=>rfl) (.un .int .neg) .nil))) (bisR_X knB) (by rfl)
  have h3:LamX (X.over c'.M) (D + 3) i ns f3 "ZeroDivisionError" PvZ:=lamX lim md3.p (g.l _ _ (g3.l.h _ _ md3.f)) ((md3.c.up g3.l.l0.f).up g.l) hcl' hco hcd rl rfl rfl (by rfl) (fun fd e1 e2 e3=>by
    obtain ⟨name,qual,params,body,scope,gl,cl,df,kw⟩:=fd
    dsimp only at e1 e2 e3
    subst e1; subst e2; subst e3
    rfl) fun m hm'=>by
      obtain ⟨o,doc,pm,cd,ct,b⟩:=(knB.fn 10 74 rfl).f
      exact .call (knB.fn 10 74 rfl).g b.m b.data (.cons (fun zz=>rfl) (.callB (knB.bu "len" _ rfl) (.cons (fun zz=>rfl) (.var rfl) .nil) (.lenM hm' (by rw [List.length_map]; exact dB hz rfl)) (by rfl)) (.cons (fun zz=>rfl) .int .nil)) (div_X knB (by lia)) (by rfl)
  have hx:∀ (k:Nat) (L:Lc) (m2:Mem),k = 3→RefI m ns i k L m2→ThenF (X.over c'.M) (D + 3) (kept refN refSc) refCq ((fdAt prog1 25).body.drop 2) (OnlyRet P) .next L m2:=fun k L m2 e I=>by
    subst e
    have:=I.m
    subst this
    exact W.p (ref_end (dA hD rfl) I hm (h L))
  show wpAny (model X.prog X.w) A (pyIter (.ref d3.s.heap.objs.size)) _ _ _
  have it:=fun Q E=>ItV.tup (X:=X.over c'.M) (D:=D + 3) (tgt:=.Name "call" ⟨252,8,252,12⟩) A c' c'.M _ g.T.R (.rf _) g.T.F.S rt Q E
  rw [g.s] at it
  refine it _ _ fun itv d5 V it=>forRunF (α:=Addr) (f:=fun a=>.ext (.ref a)) (xs:=[f1,f2,f3]) (RefI m ns i) g.T (g.near N4) it ⟨rfl,rfl,rfl,rfl,rfl⟩ (fun k x L m2 e I=>?_) (fun L m2 I=>hx 3 L m2 rfl I) fun v d6 fl L6 m6 f=>?_
  · match k,e with
    | 0,rfl=>exact ref_turn K h1 hm (.v loW (by decide)) rfl I (by rfl) (by rfl) (by rfl)
    | 1,rfl=>exact ref_turn K h2 hm (.v loW (by decide)) rfl I (by rfl) (by rfl) (by rfl)
    | 2,rfl=>exact ref_turn K h3 hm .z rfl I (by rfl) (by rfl) (by rfl)
  · have l6:Map.leS own l c.M d3.M:=((md1.l.tr (md2.l.tr md3.l)).b own).s l
    have done:∀ {v fl L m d},FinP (X.over c'.M) env (kept refN refSc) own' l c' (OnlyRet P) v d fl L m→FinP X env refSc own l c P v d fl L m:=fun f=>(g.kP f).fr ((l4.b own).s l)
    cases f.r with
    | next=>exact f.p env own' A d6 l (g.T.on f.F) ((g.near N4).s f.l) Q E fun v e fl L m h=>k v e fl L m (done (h.fr f.l))
    | brk=>exact f.p.elim
    | cont=>exact f.p.elim
    | ret r=>exact k _ _ _ _ _ (done ⟨f.l,f.F,.ret r,f.p⟩)
private theorem ref_body (kn:KnM X) (hD:20≤D) (hz:ns.length≤2 ^ 20) (hm:m[i]? = some (.lst (ns.map .int))):WF X D refSc refCq (fdAt prog1 25).body [("row",.mref i)] m (Ret fun r m'=>r = .bool true∧m' = refM m ns 3):=by
  refine WF.app (pre:=(fdAt prog1 25).body.take 1) (rest:=(fdAt prog1 25).body.drop 1) ?_
  refine W.asgRev (xs:=["told","kept"]) (by rfl) rfl rfl rfl (.tup (.cons' (fun zz=>rfl) (.lstM .nil (by decide)) (.cons' (fun zz=>rfl) (.callT (kn.bu "list" _ rfl) (.cons (fun zz=>rfl) (.var rfl) .nil) (.listL (.m (xs:=ns.map .int) ?_) ?_) (by rfl)) .nil)) (by show 2≤_; decide)) (.nil ?_)
  · rw [List.getElem?_append_left (List.getElem?_eq_some_iff.mp hm).1]; exact hm
  · rw [List.length_map]; exact dB hz rfl
  · have:=ref_tail (P:=Ret fun r m'=>r = .bool true∧m' = refM m ns 3) kn hD hz hm fun L=>⟨rfl,rfl⟩
    have e:(m++[AObj.lst []]).length = m.length + 1:=List.length_append
    rw [e]
    exact this
private theorem op_refused (kn:KnM X) (hD:20≤D) (hz:ns.length≤2 ^ 20) (hm:m[i]? = some (.lst (ns.map .int))):CallP X (D + 1) (opF 189) m [.mref i] fun r m'=>r = .bool true∧m' = refM m ns 3:=by
  obtain ⟨o,doc,pm,ct,h⟩:=kn.f_refused.f
  exact h.callP (ps:=["row"]) kn.lim (fnOk (by rfl)) (fun zz zz zz zz zz=>rfl) rfl (ref_body kn hD hz hm)
end
end
section
open PySem PySem.W PyProof.Rows PySem.Calls PySem.SeqAt
private theorem fdivN (c d:Nat):(c:Int).fdiv (d:Int) = ((c / d:Nat):Int):=by
  rw [Int.fdiv_eq_ediv_of_nonneg _ (Int.natCast_nonneg d)]; rfl
private theorem fmodN (c d:Nat):(c:Int).fmod (d:Int) = ((c % d:Nat):Int):=by
  rw [Int.fmod_eq_emod_of_nonneg _ (Int.natCast_nonneg d)]; rfl
noncomputable def cn (c0:Nat):Nat:=4 + c0 % 3
noncomputable def tnI (c0:Nat):Int:=((c0 / 3 % 2:Nat):Int)
noncomputable def wd (c6:Nat):Nat:=5 + c6 % 60
noncomputable def dvL:List Int:=[7,64,1009,100003]
noncomputable def dvI (c5:Nat):Int:=dvL.getD (c5 % 4) 0 * (1 - 2 * ((c5 / 4 % 2:Nat):Int))
noncomputable def drN (c1 c2 c3 p:Nat):Nat:=[c1,c2,c3].getD (p % 3) 0 / 2048 ^ (p / 3) % 2048
noncomputable def sgs:List Nat:=[97,32,10,9,34,92,35,98]
noncomputable def wdF (d:Nat):List Nat:=(List.range (d % 4)).map fun p=>sgs.getD (d / 4 / 2 ^ (3 * p) % 8) 0
noncomputable def wdsL (n c1 c2 c3:Nat):List (List Nat):=(List.range n).map fun p=>wdF (drN c1 c2 c3 p)
private theorem cn_le (c0:Nat):4≤cn c0∧cn c0≤6:=by unfold cn; lia
private theorem wdF_len (d:Nat):(wdF d).length≤3:=by unfold wdF; simp; lia
private theorem sgs_ok {k:Nat}:sgs.getD k 0 < 0x110000:=by
  rcases Nat.lt_or_ge k 8 with h | h
  · revert k; decide
  · rw [List.getD_eq_getElem?_getD,List.getElem?_eq_none (show sgs.length≤k from h)]; decide
private theorem wdF_ok (d:Nat):okS (wdF d):=fun c hc=>by
  obtain ⟨p,_,rfl⟩:=List.mem_map.mp hc
  exact sgs_ok
noncomputable abbrev hoSc:Names:=(fdAt prog1 26).scope.names
noncomputable abbrev hoB:List Stmt:=(fdAt prog1 26).body
noncomputable def cellsL (c0 c1 c2 c3 c4 c5 c6 c7:Nat):List AV:=[.int c0,.int c1,.int c2,.int c3,.int c4,.int c5,.int c6,.int c7]
section
variable {X:Amb} {D:Nat} {m:Mem} {c0 c1 c2 c3 c4 c5 c6 c7:Nat} {P:RP}
noncomputable abbrev hoL0 (c0 c1 c2 c3 c4 c5 c6 c7:Nat):Lc:=bd "signs" (.str sgs) (bd "count" (.int (cn c0:Nat)) (bd "cells" (.lst (cellsL c0 c1 c2 c3 c4 c5 c6 c7)) []))
private theorem cn_is (c0:Nat):(4:Int) + (c0:Int).fmod 3 = (cn c0:Nat):=by
  have:(c0:Int).fmod 3 = ((c0 % 3:Nat):Int):=fmodN c0 3
  rw [this]; rfl
private theorem ho0 (hD:4≤D) (h:W X D hoSc ((hoB.take 5).drop 1) (hoL0 c0 c1 c2 c3 c4 c5 c6 c7) m P):W X D hoSc (hoB.take 5) (bd "cells" (.lst (cellsL c0 c1 c2 c3 c4 c5 c6 c7)) []) m P:=by
  refine W.tup (G:=⟨X,D,hoSc,[]⟩) (xs:=["count","signs"]) hD (by rfl) rfl (.cons rfl (.cons rfl .nil)) ⟨.lst (by decide) (by decide) rfl,.mod (by decide),.mk rfl (h.weak (show Sub0 _ _ from .cons rfl (.cons (congrArg (fun z=>some (AV.int z)) (cn_is c0)) (.cons rfl .nil))))⟩
noncomputable abbrev hoL1 (c0 c1 c2 c3 c4 c5 c6 c7:Nat):Lc:=bd "turn" (.int (tnI c0)) (bd "width" (.int (wd c6:Nat)) (bd "divisor" (.int (dvI c5)) (hoL0 c0 c1 c2 c3 c4 c5 c6 c7)))
private theorem ho1 (hD:4≤D) (h:W X D hoSc ((hoB.take 5).drop 2) (hoL1 c0 c1 c2 c3 c4 c5 c6 c7) m P):W X D hoSc ((hoB.take 5).drop 1) (hoL0 c0 c1 c2 c3 c4 c5 c6 c7) m P:=by
  have e1:((c0:Int).fdiv 3).fmod 2 = tnI c0:=by
    have:(c0:Int).fdiv 3 = ((c0 / 3:Nat):Int):=fdivN c0 3
    rw [this]; exact fmodN _ 2
  have e2:(5:Int) + (c6:Int).fmod 60 = (wd c6:Nat):=by
    have:(c6:Int).fmod 60 = ((c6 % 60:Nat):Int):=fmodN c6 60
    rw [this]; rfl
  have e3:(c5:Int).fmod 4 = ((c5 % 4:Nat):Int):=fmodN c5 4
  have e4:((c5:Int).fdiv 4).fmod 2 = ((c5 / 4 % 2:Nat):Int):=by
    have:(c5:Int).fdiv 4 = ((c5 / 4:Nat):Int):=fdivN c5 4
    rw [this]; exact fmodN _ 2
  have i1:0≤(c5:Int).fmod 4∧(c5:Int).fmod 4 < 2 ^ 62:=by rw [e3]; lia
  have i2:[AV.int 7,.int 64,.int 1009,.int 100003][((c5:Int).fmod 4).toNat]? = some (.int (dvL.getD (c5 % 4) 0)):=by
    rw [e3,Int.toNat_natCast]
    have:c5 % 4 < 4:=Nat.mod_lt _ (by decide)
    generalize c5 % 4 = k at this
    match k,this with
    | 0,_=>rfl
    | 1,_=>rfl
    | 2,_=>rfl
    | 3,_=>rfl
  have i3:(dvL.getD (c5 % 4) 0).natAbs < 2 ^ 63:=by
    have:c5 % 4 < 4:=Nat.mod_lt _ (by decide)
    generalize c5 % 4 = k at this
    match k,this with
    | 0,_=>decide
    | 1,_=>decide
    | 2,_=>decide
    | 3,_=>decide
  refine W.tup (G:=⟨X,D,hoSc,[]⟩) (xs:=["turn","width","divisor"]) hD (by rfl) rfl (.cons rfl (.cons rfl (.cons rfl .nil))) ⟨.lst (by decide) (by decide) rfl,.div (by decide) (by decide),.mod (by decide),.lst (by decide) (by decide) rfl,.mod (by decide),.lst (by decide) (by decide) rfl,.mod (by decide),.lst i1.1 i1.2 i2,.lst (by decide) (by decide) rfl,.div (by decide) (by decide),.mod (by decide),.mul (.inl (by decide)),.mul (.inl i3),.mk rfl ?_⟩
  rw [e4]
  exact h.weak (show Sub0 _ _ from .cons (congrArg (fun z=>some (AV.int z)) e1) (.cons (congrArg (fun z=>some (AV.int z)) e2) (.cons rfl (.cons rfl (.cons rfl (.cons rfl .nil))))))
end
end
section
open PySem PySem.W PyProof.Rows PySem.Calls PySem.SeqAt
private theorem bit7 (x:Nat):Builtin.bitAnd (x:Int) 7 = ((x % 8:Nat):Int):=by
  have:Builtin.bitAnd (x:Int) ((7:Nat):Int) = ((x &&& 7:Nat):Int):=rfl
  rw [show (7:Nat) = 2 ^ 3 - 1 from rfl,Nat.and_two_pow_sub_one_eq_mod] at this
  exact this
private theorem powN (a k:Nat):(a:Int) ^ k = ((a ^ k:Nat):Int):=(Int.natCast_pow a k).symm
private theorem flat1 {α β:Type} (f:α→β):∀ l:List α,(l.map fun q=>[f q]).flatten = l.map f
  | []=>rfl
  | x :: r=>congrArg (f x :: ·) (flat1 f r)
private theorem sum_le {α:Type} (f:α→Nat) (b:Nat):∀ l:List α,(∀ x∈l,f x≤b)→(l.map f).sum≤l.length * b
  | [],_=>Nat.zero_le _
  | x :: r,h=>by
    have h1:=h x List.mem_cons_self
    have h2:=sum_le f b r fun y hy=>h y (List.mem_cons_of_mem _ hy)
    rw [List.map_cons,List.sum_cons,List.length_cons,Nat.add_mul]; lia
section
variable {X:Amb} {D:Nat} {m:Mem} {c0 c1 c2 c3 c4 c5 c6 c7:Nat} {P:RP}
noncomputable def drL (n c1 c2 c3:Nat):List AV:=(List.range n).map fun p=>.int (drN c1 c2 c3 p:Nat)
noncomputable abbrev hoL2 (c0 c1 c2 c3 c4 c5 c6 c7:Nat):Lc:=bd "drawn" (.lst (drL (cn c0) c1 c2 c3)) (hoL1 c0 c1 c2 c3 c4 c5 c6 c7)
private theorem dr_is (c1 c2 c3 p:Nat):((([c1,c2,c3].getD (p % 3) 0:Nat):Int).fdiv ((2048:Int) ^ ((p:Int).fdiv 3).toNat)).fmod 2048 = (drN c1 c2 c3 p:Nat):=by
  have e1:(p:Int).fdiv 3 = ((p / 3:Nat):Int):=fdivN p 3
  have e2:(2048:Int) ^ (p / 3) = ((2048 ^ (p / 3):Nat):Int):=powN 2048 _
  rw [e1,Int.toNat_natCast,e2,fdivN]
  exact fmodN _ 2048
private theorem ho2 (kn:Kn X) (hD:4≤D) (h:W X D hoSc ((hoB.take 5).drop 3) (hoL2 c0 c1 c2 c3 c4 c5 c6 c7) m P):W X D hoSc ((hoB.take 5).drop 2) (hoL1 c0 c1 c2 c3 c4 c5 c6 c7) m P:=by
  have hn:=(cn_le c0).2
  refine W.mapA (G:=⟨X,D,hoSc,[]⟩) (xs:=List.range (cn c0)) (f:=fun (i:Nat)=>.int i) (av:=.rng 0 (cn c0:Nat)) (m1:=m) (b:=true) hD (by rfl) (fun zz zz=>rfl) ⟨.t (kn.bu "range" _ rfl) .range,.mk⟩ (.rng' (by lia)) (by rw [List.length_range]; lia) (fun p=>.int (drN c1 c2 c3 p:Nat)) (fun p hp=>?_) (by rfl) rfl h
  have hp:p < cn c0:=List.mem_range.mp hp
  have e1:(p:Int).fmod 3 = ((p % 3:Nat):Int):=fmodN p 3
  have i1:0≤(1:Int) + (p:Int).fmod 3∧(1:Int) + (p:Int).fmod 3 < 2 ^ 62:=by rw [e1]; lia
  have i2:(cellsL c0 c1 c2 c3 c4 c5 c6 c7)[((1:Int) + (p:Int).fmod 3).toNat]? = some (.int ([c1,c2,c3].getD (p % 3) 0:Nat)):=by
    rw [e1]
    have:p % 3 < 3:=Nat.mod_lt _ (by decide)
    generalize p % 3 = k at this
    match k,this with
    | 0,_=>rfl
    | 1,_=>rfl
    | 2,_=>rfl
  have e3:(p:Int).fdiv 3 = ((p / 3:Nat):Int):=fdivN p 3
  have i3:(2048:Int) ^ ((p:Int).fdiv 3).toNat ≠ 0∧((2048:Int) ^ ((p:Int).fdiv 3).toNat).natAbs < 1073741824:=by
    rw [e3,Int.toNat_natCast]
    have:p / 3 < 2:=by lia
    generalize p / 3 = k at this
    match k,this with
    | 0,_=>decide
    | 1,_=>decide
  exact ⟨_,.name rfl,⟨.mod (by decide),.lst i1.1 i1.2 i2,.div (by decide) (by decide),.pow (by rw [e3]; exact Int.natCast_nonneg _) (by rw [e3]; lia) (by decide),.div i3.1 i3.2,.mod (by decide),isV (congrArg AV.int (dr_is c1 c2 c3 p).symm)⟩⟩
noncomputable abbrev hoL3 (c0 c1 c2 c3 c4 c5 c6 c7:Nat):Lc:=bd "words" (.lst ((wdsL (cn c0) c1 c2 c3).map .str)) (hoL2 c0 c1 c2 c3 c4 c5 c6 c7)
private theorem ho3 (kn:Kn X) (hD:4≤D) (h:W X D hoSc ((hoB.take 5).drop 4) (hoL3 c0 c1 c2 c3 c4 c5 c6 c7) m P):W X D hoSc ((hoB.take 5).drop 3) (hoL2 c0 c1 c2 c3 c4 c5 c6 c7) m P:=by
  have hn:=(cn_le c0).2
  refine W.mapA (G:=⟨X,D,hoSc,[]⟩) (xs:=List.range (cn c0)) (f:=fun p=>.int (drN c1 c2 c3 p:Nat)) (av:=.lst (drL (cn c0) c1 c2 c3)) (m1:=m) (b:=false) hD (by rfl) (fun zz zz=>rfl) .mk .lst (by rw [List.length_range]; lia) (fun p=>.str (wdF (drN c1 c2 c3 p))) (fun p hp=>?_) (by rfl) rfl (by unfold hoL3 wdsL at h; rw [List.map_map] at h; exact h)
  generalize drN c1 c2 c3 p = d
  have e0:(d:Int).fmod 4 = ((d % 4:Nat):Int):=fmodN d 4
  refine ⟨_,.name rfl,?_⟩
  refine OkE.map (G:=⟨X,D,_,[]⟩) (xs:=List.range (d % 4)) (f:=fun (i:Nat)=>.int i) (av:=.rng 0 (d % 4:Nat)) (m1:=m) hD (by rfl) (fun zz zz=>rfl) ⟨.mod (by decide),.t (kn.bu "range" _ rfl) .range,isV (by rw [e0])⟩ (.rng' (by lia)) (by rw [List.length_range]; lia) (fun q=>.str [sgs.getD (d / 4 / 2 ^ (3 * q) % 8) 0]) (fun q hq=>?_) ?_
  · have e1:(d:Int).fdiv 4 = ((d / 4:Nat):Int):=fdivN d 4
    have e2:(3:Int) * (q:Int) = ((3 * q:Nat):Int):=rfl
    have e3:(2:Int) ^ (3 * q) = ((2 ^ (3 * q):Nat):Int):=powN 2 _
    have e:Builtin.bitAnd (((d:Int).fdiv 4).fdiv ((2:Int) ^ ((3:Int) * (q:Int)).toNat)) 7 = ((d / 4 / 2 ^ (3 * q) % 8:Nat):Int):=by
      rw [e1,e2,Int.toNat_natCast,e3,fdivN]; exact bit7 _
    have hi:sgs[(Builtin.bitAnd (((d:Int).fdiv 4).fdiv ((2:Int) ^ ((3:Int) * (q:Int)).toNat)) 7).toNat]? = some (sgs.getD (d / 4 / 2 ^ (3 * q) % 8) 0):=by
      rw [e,Int.toNat_natCast]
      have:d / 4 / 2 ^ (3 * q) % 8 < 8:=Nat.mod_lt _ (by decide)
      generalize d / 4 / 2 ^ (3 * q) % 8 = k at this
      rw [List.getD_eq_getElem?_getD,List.getElem?_eq_getElem (show k < sgs.length from this)]; rfl
    exact ⟨_,.name rfl,⟨.div (by decide) (by decide),.mul (.inl (by decide)),.shr (by lia),.and,.str (by rw [e]; exact Int.natCast_nonneg _) (by rw [e]; lia) hi,.mk⟩⟩
  · refine ⟨.join' (zs:=(List.range (d % 4)).map fun q=>[sgs.getD (d / 4 / 2 ^ (3 * q) % 8) 0]) (by rw [List.map_map]; rfl) ?_,isV (congrArg AV.str ?_)⟩
    · rw [List.map_map]
      have:=sum_le (fun q=>[sgs.getD (d / 4 / 2 ^ (3 * q) % 8) 0].length) 1 (List.range (d % 4)) fun zz zz=>Nat.le_refl _
      rw [List.length_range] at this
      refine Nat.le_trans this ?_
      lia
    · unfold wdF
      exact (flat1 _ _).symm
noncomputable def stF (c7 p:Nat):Int:=((c7 / 2 ^ (4 * p):Nat):Int)
noncomputable def partsF (W:List (List Nat)) (c7 n:Nat):List (List Nat):=(List.range n).map fun p=>wrF (W.getD p []) (stF c7 p)
noncomputable def fileF (W:List (List Nat)) (c7 n:Nat):List Nat:=(partsF W c7 n).flatten++[122]
private theorem wrF_len (w:List Nat) (s:Int):(wrF w s).length≤2 * w.length + 3:=by
  unfold wrF
  split
  · rw [List.length_append,List.length_cons,List.length_append,List.length_flatten]
    have h1:=sum2 (qF (s.fmod 4)) (qF_len _) w
    have h2:=endQ_len ((s.fdiv 4).fmod 4)
    simp only [List.length_cons,List.length_nil]; lia
  · rw [List.length_append,List.length_flatten]
    have h1:=sum2 (bF (s.fmod 4)) (bF_len _) (enL 0 w)
    rw [enL_len] at h1
    simp only [List.length_cons,List.length_nil]; lia
noncomputable abbrev rowC (c0:Nat):List Nat:=rowL ((c0 / 3:Nat):Int) (cn c0)
noncomputable abbrev hoL4 (c0 c1 c2 c3 c4 c5 c6 c7:Nat):Lc:=bd "file" (.str (fileF (wdsL (cn c0) c1 c2 c3) c7 (cn c0))) (bd "row" (.str (rowC c0)) (hoL3 c0 c1 c2 c3 c4 c5 c6 c7))
private theorem wds_get {n c1 c2 c3 p:Nat} (hp:p < n):(wdsL n c1 c2 c3)[p]? = some (wdF (drN c1 c2 c3 p)):=by
  unfold wdsL; rw [List.getElem?_map,List.getElem?_range hp]; rfl
private theorem wds_getD {n c1 c2 c3 p:Nat} (hp:p < n):(wdsL n c1 c2 c3).getD p [] = wdF (drN c1 c2 c3 p):=by rw [List.getD_eq_getElem?_getD,wds_get hp]; rfl
private theorem parts_len {n c1 c2 c3 c7:Nat} (hn:n≤6):((partsF (wdsL n c1 c2 c3) c7 n).map List.length).sum≤54:=by
  unfold partsF
  rw [List.map_map]
  refine Nat.le_trans (sum_le _ 9 _ fun p hp=>?_) (by rw [List.length_range]; lia)
  have h1:=wrF_len ((wdsL n c1 c2 c3).getD p []) (stF c7 p)
  rw [wds_getD (List.mem_range.mp hp)] at h1
  have h2:=wdF_len (drN c1 c2 c3 p)
  show (wrF ((wdsL n c1 c2 c3).getD p []) (stF c7 p)).length≤9
  rw [wds_getD (List.mem_range.mp hp)]; lia
private theorem ho4 (kn:Kn X) (hD:5≤D) (h:P .next (hoL4 c0 c1 c2 c3 c4 c5 c6 c7) m):W X (D + 1) hoSc ((hoB.take 5).drop 4) (hoL3 c0 c1 c2 c3 c4 c5 c6 c7) m P:=by
  have hn:=(cn_le c0).2
  have hD4:4≤D + 1:=by lia
  have hl:=parts_len (c1:=c1) (c2:=c2) (c3:=c3) (c7:=c7) hn
  have e0:(c0:Int).fdiv 3 = ((c0 / 3:Nat):Int):=fdivN c0 3
  have hrow:=op_row (m:=m) kn (Nat.le_of_lt hD) (code:=((c0 / 3:Nat):Int)) (n:=cn c0) (by lia)
  rw [← e0] at hrow
  refine W.tupR (G:=⟨X,D + 1,hoSc,[]⟩) (xs:=["file","row"]) hD4 (by rfl) rfl rfl ?_
  refine OkE.map (G:=⟨X,D + 1,_,[]⟩) (xs:=List.range (cn c0)) (f:=fun (i:Nat)=>.int i) (av:=.rng 0 (cn c0:Nat)) (m1:=m) hD4 (by rfl) (fun zz zz=>rfl) ⟨.t (kn.bu "range" _ rfl) .range,.mk⟩ (.rng' (by lia)) (by rw [List.length_range]; lia) (fun p=>.str (wrF ((wdsL (cn c0) c1 c2 c3).getD p []) (stF c7 p))) (fun p hp=>?_) ?_
  · have hp:=List.mem_range.mp hp
    have e1:(4:Int) * (p:Int) = ((4 * p:Nat):Int):=rfl
    have e2:(2:Int) ^ (4 * p) = ((2 ^ (4 * p):Nat):Int):=powN 2 _
    have e:(c7:Int).fdiv ((2:Int) ^ ((4:Int) * (p:Int)).toNat) = stF c7 p:=by rw [e1,Int.toNat_natCast,e2]; exact fdivN _ _
    have hw:=op_written (X:=X) (D:=D) kn (kn.bu "enumerate" _ rfl) (by lia) (w:=(wdsL (cn c0) c1 c2 c3).getD p []) (s:=stF c7 p) (m:=m) (by rw [wds_getD hp]; have:=wdF_len (drN c1 c2 c3 p); lia) (by rw [wds_getD hp]; exact wdF_ok _)
    rw [← e] at hw
    exact ⟨_,.name rfl,⟨.lst (Int.natCast_nonneg _) (by lia) (by rw [Int.toNat_natCast,List.getElem?_map,wds_get hp,wds_getD hp]; rfl),.lst (by decide) (by decide) rfl,.mul (.inl (by decide)),.shr (by lia),hw,isV (congrArg (fun z=>AV.str (wrF _ z)) e.symm)⟩⟩
  · refine ⟨.join' (zs:=partsF (wdsL (cn c0) c1 c2 c3) c7 (cn c0)) (by unfold partsF; rw [List.map_map]; rfl) (by lia),.addS (by rw [List.length_flatten]; show _ + 1≤_; lia),.lst (by decide) (by decide) rfl,.div (by decide) (by decide),hrow,.mk rfl ?_⟩
    rw [e0]
    exact h
end
end
section
open PySem PySem.W PyProof.Rows PySem.Calls PySem.SeqAt
noncomputable abbrev hoCq:Value × Str:=(.ref 193,"_law_holds.<locals>.")
noncomputable abbrev lexLam:Names:=([("size",.local),("left",.free)]:Names)
private theorem closL_left {cells:List (Str × Addr)} {c:Addr} (h:cells.lookup ("left":Str) = some c):closL cells lexLam [] = ([("left",c)]:List (Str × Addr)):=by
  show (List.filterMap (frC cells) lexLam).reverse++[] = _
  have e:frC cells (("left":Str),.free) = some (("left":Str),c):=by show (cells.lookup _).map _ = _; rw [h]; rfl
  rw [List.filterMap_cons_none rfl,List.filterMap_cons_some e]; rfl
noncomputable abbrev hoSk:Names:=kept lexLam hoSc
section
variable {X:Amb} {D:Nat} {m:Mem} {t:List Nat} {L:Lc} {P:RP}
private theorem ho56 (kn:KnM X) (hD:20≤D) (ht:t.length≤2 ^ 23) (hf:L.lookup ("file":Str) = some (.str t))
    (h:∀ M,X.B.le (X.over M).B→WF (X.over M) D hoSk hoCq (hoB.drop 7) (bd "stream" (.strm lamRead m.length) (binds ["left","stream"] [.mref m.length,.none] L)) (sn m (.lst (t.map sgAV))) (OnlyRet P)):WF X D hoSc hoCq (hoB.drop 5) L m P:=fun env own A c l T N Q E k=>by
  have e1:env.code = .ref siteHolds.c:=N.cd
  have e2:env.qual++"<lambda>" = "_law_holds.<locals>.<lambda>":=by rw [N.q]; rfl
  have evList:PE X D hoSc (.Call (.Name "list" ⟨269,20,269,24⟩) [.Name "file" ⟨269,25,269,29⟩] [] ⟨269,20,269,30⟩) L m (.mref m.length) (sn m (.lst (t.map sgAV))):=.callT (kn.bu "list" _ rfl) (.cons (fun zz=>rfl) (.var hf) .nil) (.listS ht) (by rfl)
  refine wpAny_execs_cons (Assign_Tuple (wpAny_Tuple (wpAny_items_cons (evList.go T fun v1 d1 l1 F1 r1=>?_) rfl)) rfl (swStores (by rfl) env T.F.N.names T.F.N.kind))
  refine wpAny_items_cons (lamGo false kn.s_holds (T.on F1) e1 e2 rfl rfl (by decide) ⟨_,.head _,rfl⟩ fun f d2 fo cd md F2=>wpAny_items_nil ⟨by simp [sizeLine_is],?_⟩) rfl
  have g3:=Got.newTup md.h (.cons (r1.up md.l) (.one (.ext (.ref f)))) d2.s.toks
  refine Asg.tup (xs:=["left","stream"]) (.cons rfl (.cons rfl .nil)) rfl env own A _ _ _ T.R T.T (F2.keep g3.l g3.h) g3.r _ _ fun d4 l4 F4=>?_
  refine wpAny_execs_cons (plainObj_wpAny_Assign_Attribute (lamGo true kn.s_holds (T.on F4) e1 e2 rfl rfl (by decide) ⟨_,.tail _ (.head _),rfl⟩ fun rl d5 ro cd5 md5 F5=>?_) rfl)
  refine (PE.var (av:=.ext (.ref f)) rfl).go (T.on F5) fun vo d6 l6 F6 r6=>?_
  cases r6.i_ext
  have fno:f ∉ own:=fun h=>by obtain ⟨o,e⟩:=(F1.ow f h).1; rw [md.nw] at e; cases e
  have fnc:∀ n a,env.cells.lookup n = some a→a ≠ f:=fun n a h q=>by
    obtain ⟨o,e⟩:=F1.N.cel n a h
    rw [q] at e; rcases e with e | e <;> (rw [md.nw] at e; cases e)
  have e4:d4.M.h f = some (.pin fo):=l4.h _ _ fno (g3.l.h _ _ md.f)
  have e6:d6.M.h f = some (.pin fo):=l6.h _ _ fno (md5.l.h _ _ e4)
  have l06:∀ a x,a ∉ own→c.M.h a = some x→d6.M.h a = some x∧a ≠ f:=fun a x n e =>
    have e1:=l1.h a x n e
    ⟨l6.h a x n (md5.l.h a x (l4.h a x n (g3.l.h a x (md.l.h a x e1)))),fun q=>by rw [q,md.nw] at e1; cases e1⟩
  obtain ⟨fd,ho1,ho2,ho3⟩:=md.p.fn
  obtain ⟨⟨h6,g6,dr6,t6,o6⟩,M6⟩:=d6
  have hf6:h6.get? f = some fo:=F6.S.pin e6
  refine fn_setAttr hf6 ho1 ho2 ho3 fun h' tk' dd hd0 hf' hn' hx=>?_
  have nd:M6.h dd = none:=F6.S.fresh hd0
  have ndf:dd ≠ f:=fun q=>by rw [q,e6] at nd; cases nd
  obtain ⟨od,es,ep,q1,q2,q3,q4,q5⟩:=hn'
  have nB:X.B.h f = none:=by
    cases q:X.B.h f with
    | none=>rfl
    | some y=>have:=F1.S.x.h _ _ q; rw [md.nw] at this; cases this
  have S7:Sep X { (⟨h6,g6,dr6,t6,o6⟩:Shared) with heap:=h',toks:=tk' } (M6.set f (.frz { fo with dict:=some dd })) (sn m (.lst (t.map sgAV))) :=
    F6.S.put (fun y e n=>by rw [e6] at e; cases e; exact absurd rfl (n _)) (fun y e=>by rw [nB] at e; cases e) (fun b o hb e=>hx b o hb e) (fun zz zz zz zz=>rfl) nofun (.frz hf')
  have nd7:(M6.set f (.frz { fo with dict:=some dd })).h dd = none:=(Map.set_ne _ _ ndf).trans nd
  have S8:=S7.putNew (h':=h') (tk:=tk') (x:=.frz od) nd7 (fun zz zz zz e=>e) (fun zz zz zz zz=>rfl) nofun (.frz q1)
  have k8:∀ a x,a ≠ f→M6.h a = some x→((M6.set f (.frz { fo with dict:=some dd })).set dd (.frz od)).h a = some x:=fun a x n e=>by
    rw [Map.set_ne _ _ (fun q=>by rw [q,nd] at e; cases e),Map.set_ne _ _ n]; exact e
  have F8:=F6.keepB (d:=⟨_,_⟩) (fun a x e n=>k8 a x (fun q=>by rw [q,e6] at e; cases e; exact n _ rfl) e) (fun a ha x e=>k8 a x (fun q=>fno (q ▸ ha)) e) (fun n a h x e=>k8 a x (fnc n a h) e) S8
  have l8:Map.leS own l c.M ((M6.set f (.frz { fo with dict:=some dd })).set dd (.frz od)):=Map.leB.s ⟨fun a x n e=>(l06 a x n e).elim fun h1 h2=>k8 a x h2 h1,fun i x e=>l6.g i x (md5.l.g i x (l4.g i x (g3.l.g i x (md.l.g i x (l1.g i x e)))))⟩ l
  have N8:=N.s (d:=⟨c.s,(M6.set f (.frz { fo with dict:=some dd })).set dd (.frz od)⟩) l8
  obtain ⟨X',own',c',g⟩:=(T.on F8).give (names:=lexLam) (by rfl)
  have go:=g.o
  subst go
  obtain ⟨_,cl,oc,vl,hcl,hoc,hcd,rl'⟩:=g.F.var "left" (.mref m.length) rfl
  cases rl'.i_mref with
  | @mk la hl =>
    have x9:=g.T.F.S.x
    have n5:∀ a o,d5.M.h a = some (.frz o)→a ∉ own:=fun a o e h=>by obtain ⟨o',e'⟩:=(F5.ow a h).1; rw [e] at e'; cases e'
    have lf:d5.M.lef (X.over c'.M).B:=fun a o e =>
      have e7:=l6.h a _ (n5 a o e) e
      g.l _ _ (k8 a _ (fun q=>by rw [q,e6] at e7; cases e7) e7)
    obtain ⟨o2,fd2,hlam⟩:=md5.p.at' (lf _ _ md5.f) (closL_left (mem_closL (mem_of_lookup hcl)).2) (md5.c.up lf)
    have hocF:(X.over c'.M).B.h cl = some (.frz oc):=by
      obtain ⟨o,e⟩:=g.fz _ _ hcl
      rcases hoc with q | q
      · exact q
      · rw [e] at q; cases q
    have hst:StrmAt (X.over c'.M).B lamRead f la:=⟨_,fd,dd,od,es,ep,rl,o2,fd2,cl,oc,{
      m:=g.l _ _ ((Map.set_ne _ _ ndf.symm).trans (Map.set_at _ _ _)),cls:=ho1,data:=ho3,dict:=rfl,md:=g.l _ _ (Map.set_at _ _ _),dd:=q2,keys:=q3,find:=fun n=>q5 n
      lam:=hlam,mc:=hocF,cd:=hcd }⟩
    have N9:EnvOk env hoSk c'.M (bd "stream" (.strm lamRead m.length) (binds ["left","stream"] [.mref m.length,.none] L)):={ g.T.F.N with
      var:=fun x av h=>by
        rcases lookup_set h with ⟨e1,e2⟩ | ⟨ne,h⟩
        · obtain ⟨v,r,z⟩:=g.T.F.N.var "stream" (.ext (.ref f)) rfl
          rw [r.i_ext] at z
          rw [e1,e2]
          exact ⟨_,(Rep.strm hst hl).up x9,z⟩
        · exact g.T.F.N.var x av ((lookup_ne ne).trans ((lookup_ne ne).symm.trans h)) }
    have T9:Now (X.over c'.M) D hoSk env own' A c' (bd "stream" (.strm lamRead m.length) (binds ["left","stream"] [.mref m.length,.none] L)) (sn m (.lst (t.map sgAV))):=⟨g.T.R,g.T.T,{ g.T.F with N:=N9 }⟩
    have ev:=h c'.M g.b env own' A c' l T9 (g.near N8) Q E fun v d fl L' m' f=>k v d fl L' m' ((g.kP f).fr l8)
    rw [g.s] at ev
    exact ev
end
end
section
private theorem gTok_enc {α:Type} {z:Nat→Bool} (hz:z 92 = false) (enc:α→List Nat) (val:α→Nat) (r:List Nat):∀ (w:List α) (tok:List Nat),(∀ x∈w,enc x = [92,val x]∨(enc x = [val x]∧z (val x) = false∧val x ≠ 92))→gTok z tok ((w.map enc).flatten++r) = gTok z (tok++w.map val) r
  | [],tok,_=>by simp
  | x :: w,tok,h=>by
    have ih:=fun t=>gTok_enc hz enc val r w t fun y hy=>h y (List.mem_cons_of_mem _ hy)
    rw [List.map_cons,List.flatten_cons,List.append_assoc,List.map_cons]
    rcases h x List.mem_cons_self with e | ⟨e,h1,h2⟩
    · rw [e,show [92,val x]++((w.map enc).flatten++r) = 92 :: val x :: ((w.map enc).flatten++r) from rfl,gTok_cons,hz,if_neg (by decide),if_pos rfl,if_pos rfl]
      simp only [List.take_succ_cons,List.take_zero,List.drop_succ_cons,List.drop_zero]
      rw [ih]; simp
    · rw [e,show [val x]++((w.map enc).flatten++r) = val x :: ((w.map enc).flatten++r) from rfl,gTok_cons,h1,if_neg (by decide),if_neg h2,if_neg h2,ih]; simp
private theorem tokF_lead (r:List Nat):∀ l:List Nat,(∀ c∈l,wsB c = true)→tokF (l++r) = tokF r
  | [],_=>rfl
  | c :: l,h=>by
    rw [List.cons_append,tokF_ws (h c List.mem_cons_self),tokF_lead r l fun d hd=>h d (List.mem_cons_of_mem _ hd)]
private theorem wsz:wsB 92 = false∧wsB 34 = false∧qtB 92 = false∧qtB 34 = true:=by decide
private theorem tokF_quote (r:List Nat):tokF (34 :: r) = gTok qtB [] r:=tokF_qt (by rw [wsz.2.1]; decide) rfl
private theorem gTok_ws {w r:List Nat} {c:Nat} (h:wsB c = true):gTok wsB w (c :: r) = (w,r,false):=by rw [gTok_cons,if_pos h]
private theorem gTok_qt {w r:List Nat}:gTok qtB w (34 :: r) = (w,r,false):=by rw [gTok_cons,if_pos wsz.2.2.2]
private theorem endQ_ws (t:Int):∀ c∈endQ t,wsB c = true:=by
  unfold endQ
  rcases Nat.lt_or_ge t.toNat 4 with h | h
  · match t.toNat,h with
    | 0,_=>decide
    | 1,_=>decide
    | 2,_=>decide
    | 3,_=>decide
  · rw [List.getD_eq_getElem?_getD,List.getElem?_eq_none (show [[],[10],[9],[13]].length≤t.toNat from h)]; decide
private theorem endB_ws (t:Int):wsB (endB t) = true:=by
  unfold endB
  rcases Nat.lt_or_ge t.toNat 4 with h | h
  · match t.toNat,h with
    | 0,_=>decide
    | 1,_=>decide
    | 2,_=>decide
    | 3,_=>decide
  · rw [List.getD_eq_getElem?_getD,List.getElem?_eq_none (show [32,10,9,13].length≤t.toNat from h)]; decide
private theorem enL_snd:∀ (i:Nat) (w:List Nat),(enL i w).map (·.2) = w
  | _,[]=>rfl
  | i,c :: r=>congrArg (c :: ·) (enL_snd (i + 1) r)
private theorem enL_mem:∀ (i:Nat) (w:List Nat) (x:Nat × Nat),x∈enL i w→x.2∈w
  | i,c :: r,x,h=>(List.mem_cons.mp h).elim (fun e=>e ▸ List.mem_cons_self) fun h=>List.mem_cons_of_mem _ (enL_mem (i + 1) r x h)
private theorem bF_enc {k:Int} {x:Nat × Nat} (h:x.2 ≠ 13):bF k x = [92,x.2]∨(bF k x = [x.2]∧wsB x.2 = false∧x.2 ≠ 92∧(x.1 = 0→x.2 ≠ 34)):=by
  unfold bF
  cases e:bB k x with
  | true=>exact .inl (if_pos rfl)
  | false =>
    refine .inr ⟨if_neg Bool.false_ne_true,?_⟩
    unfold bB at e
    obtain ⟨_,e⟩:=Bool.or_eq_false_iff.mp e
    obtain ⟨e1,e2⟩:=Bool.or_eq_false_iff.mp e
    have e1:=of_decide_eq_false e1
    refine ⟨decide_eq_false fun q=>?_,fun q=>e1 (by rw [q]; decide),fun q q2=>?_⟩
    · simp only [List.mem_cons,List.not_mem_nil,or_false] at q e1
      rcases q with q | q | q | q
      · exact e1 (.inr (.inl q))
      · exact e1 (.inr (.inr (.inl q)))
      · exact h q
      · exact e1 (.inl q)
    · rcases Bool.and_eq_false_iff.mp e2 with e2 | e2
      · exact of_decide_eq_false e2 (by rw [q]; rfl)
      · exact of_decide_eq_false e2 (by rw [q2])
private theorem tok_wr {w:List Nat} (h:∀ c∈w,c ≠ 13) (s:Int) (r:List Nat):∃ l:List Nat,l.length≤1∧(∀ c∈l,wsB c = true)∧tokF (wrF w s++r) = (w,l++r,false):=by
  unfold wrF
  split
  · refine ⟨endQ ((s.fdiv 4).fmod 4),endQ_len _,endQ_ws _,?_⟩
    rw [show (34 :: ((w.map (qF (s.fmod 4))).flatten++[34]))++endQ ((s.fdiv 4).fmod 4)++r = 34 :: ((w.map (qF (s.fmod 4))).flatten++34 :: (endQ ((s.fdiv 4).fmod 4)++r)) by simp,tokF_quote]
    have:=gTok_enc (z:=qtB) wsz.2.2.1 (qF (s.fmod 4)) id (34 :: (endQ ((s.fdiv 4).fmod 4)++r)) w [] fun c hc=>by
      unfold qF
      by_cases q:s.fmod 4 = 3∨c∈[34,92]
      · exact .inl (if_pos q)
      · refine .inr ⟨if_neg q,decide_eq_false fun e=>q (.inr (by rw [show c = 34 from e]; decide)),fun e=>q (.inr (by rw [show c = 92 from e]; decide))⟩
    rw [this,List.map_id]; exact gTok_qt
  · rename_i hne
    refine ⟨[],Nat.zero_le _,nofun,?_⟩
    match w,h,hne with
    | [],_,hne=>exact absurd (.inr (.inr rfl)) hne
    | c :: w,h,hne =>
      rw [show enL 0 (c :: w) = (0,c) :: enL 1 w from rfl,List.map_cons,List.flatten_cons,List.append_assoc,List.append_assoc]
      have hg:=gTok_enc (z:=wsB) wsz.1 (bF (s.fmod 4)) (·.2) ([endB ((s.fdiv 4).fmod 4)]++r) (enL 1 w) [c] fun x hx=>(bF_enc (k:=s.fmod 4) (h x.2 (List.mem_cons_of_mem _ (enL_mem 1 w x hx)))).imp id fun q=>⟨q.1,q.2.1,q.2.2.1⟩
      rw [enL_snd] at hg
      have hz:gTok wsB ([c]++w) ([endB ((s.fdiv 4).fmod 4)]++r) = (c :: w,r,false):=gTok_ws (endB_ws _)
      rcases bF_enc (k:=s.fmod 4) (x:=(0,c)) (h c List.mem_cons_self) with e | ⟨e,h1,h2,h3⟩
      · rw [e]
        show tokF (92 :: c :: _) = _
        rw [tokF_pl (by rw [wsz.1]; decide) (by decide),if_pos rfl,if_pos rfl]
        simp only [List.take_succ_cons,List.take_zero,List.drop_succ_cons,List.drop_zero]
        exact hg.trans hz
      · rw [e]
        show tokF (c :: _) = _
        rw [tokF_pl (by rw [h1]; decide) (h3 rfl),if_neg h2,if_neg h2]
        exact hg.trans hz
noncomputable def restF (t:List Nat):Nat→List Nat
  | 0=>t
  | p + 1=>(tokF (restF t p)).2.1
structure RestAt (W:List (List Nat)) (c7 n p:Nat) (l:List Nat):Prop where
  len:l.length≤1
  ws:∀ c∈l,wsB c = true
  e:restF (fileF W c7 n) p = l++((((List.range n).drop p).map fun p=>wrF (W.getD p []) (stF c7 p)).flatten++[122])
private theorem rest_step {W:List (List Nat)} {c7 n p:Nat} {l:List Nat} (hW:∀ w∈W,∀ c∈w,c ≠ 13) (hp:p < n) (R:RestAt W c7 n p l):(tokF (restF (fileF W c7 n) p)).1 = W.getD p []∧∃ l',RestAt W c7 n (p + 1) l':=by
  have hw:∀ c∈W.getD p [],c ≠ 13:=fun c hc=>by
    rw [List.getD_eq_getElem?_getD] at hc
    cases q:W[p]? with
    | none=>rw [q] at hc; exact absurd hc List.not_mem_nil
    | some w=>rw [q] at hc; exact hW w (List.mem_of_getElem? q) c hc
  have hd:(List.range n).drop p = p :: (List.range n).drop (p + 1):=by
    rw [List.drop_eq_getElem_cons (by rw [List.length_range]; exact hp),List.getElem_range]
  obtain ⟨l',h1,h2,h3⟩:=tok_wr hw (stF c7 p) ((((List.range n).drop (p + 1)).map fun p=>wrF (W.getD p []) (stF c7 p)).flatten++[122])
  have e:tokF (restF (fileF W c7 n) p) = (W.getD p [],l'++((((List.range n).drop (p + 1)).map fun p=>wrF (W.getD p []) (stF c7 p)).flatten++[122]),false):=by
    rw [R.e,tokF_lead _ _ R.ws,hd,List.map_cons,List.flatten_cons,List.append_assoc]; exact h3
  exact ⟨by rw [e],l',h1,h2,by show (tokF (restF (fileF W c7 n) p)).2.1 = _; rw [e]⟩
private theorem rest_at {W:List (List Nat)} {c7 n:Nat} (hW:∀ w∈W,∀ c∈w,c ≠ 13):∀ p,p≤n→∃ l,RestAt W c7 n p l
  | 0,_=>⟨[],Nat.zero_le _,nofun,rfl⟩
  | p + 1,h=>(rest_at hW p (Nat.le_of_lt h)).elim fun l R=>(rest_step hW h R).2
private theorem rest_end {W:List (List Nat)} {c7 n:Nat} (hW:∀ w∈W,∀ c∈w,c ≠ 13):∃ b,tokF (restF (fileF W c7 n) n) = ([122],[],b):=by
  obtain ⟨l,R⟩:=rest_at (c7:=c7) hW n (Nat.le_refl n)
  rw [R.e,tokF_lead _ _ R.ws,List.drop_eq_nil_of_le (by rw [List.length_range]; exact Nat.le_refl _)]
  exact ⟨true,(by decide:tokF [122] = ([122],[],true))⟩
end
section
private theorem find_sgs:∀ k,k < 8→PySem.Txt.find ⟨sgs.toArray⟩ ⟨#[sgs.getD k 0]⟩ = (k:Int):=by decide +kernel
noncomputable def ixF (c:Nat):Nat:=sgs.idxOf c
private theorem ix_sgs:∀ k,k < 8→ixF (sgs.getD k 0) = k:=by decide
private theorem digsF_map (c:Nat):∀ x,digsF 3 c x = (List.range c).map fun p=>x / 2 ^ (3 * p) % 8:=by
  induction c with
  | zero=>intro x; rfl
  | succ c ih =>
    intro x
    rw [List.range_succ_eq_map,List.map_cons,List.map_map]
    show (x % 2 ^ 3) :: digsF 3 c (x / 2 ^ 3) = _
    rw [ih]
    refine congr (congrArg List.cons (by simp)) (List.map_congr_left fun p zz=>?_)
    show x / 2 ^ 3 / 2 ^ (3 * p) % 8 = x / 2 ^ (3 * (p + 1)) % 8
    rw [Nat.div_div_eq_div_mul,← Nat.pow_add,Nat.mul_succ,Nat.add_comm 3]
private theorem wdF_ix (d:Nat):(wdF d).map ixF = digsF 3 (d % 4) (d / 4):=by
  rw [digsF_map]
  unfold wdF
  rw [List.map_map]
  exact List.map_congr_left fun p zz=>ix_sgs _ (Nat.mod_lt _ (by decide))
private theorem wdF_find (d:Nat):∀ c∈wdF d,PySem.Txt.find ⟨sgs.toArray⟩ ⟨#[c]⟩ = ((ixF c:Nat):Int):=fun c hc=>by
  obtain ⟨p,_,rfl⟩:=List.mem_map.mp hc
  have h:d / 4 / 2 ^ (3 * p) % 8 < 8:=Nat.mod_lt _ (by decide)
  rw [find_sgs _ h,ix_sgs _ h]
noncomputable def nbF (d:Nat):Nat:=ofDigs 3 ((wdF d).map ixF)
private theorem nbF_is (d:Nat):nbF d = d / 4 % 8 ^ (wdF d).length:=by
  unfold nbF
  rw [wdF_ix,ofDigs_digs]
  have:(wdF d).length = d % 4:=by unfold wdF; simp
  rw [this,Nat.pow_mul]
private theorem wdF_13 (d:Nat):∀ c∈wdF d,c ≠ 13:=fun c hc=>by
  obtain ⟨p,_,rfl⟩:=List.mem_map.mp hc
  have h:d / 4 / 2 ^ (3 * p) % 8 < 8:=Nat.mod_lt _ (by decide)
  revert h
  generalize d / 4 / 2 ^ (3 * p) % 8 = k
  revert k
  decide
private theorem wd_check:((List.range 2048).all fun d=>[0,1,3].all fun k=>checkF (wrF (wdF d++[40]) k)) = true:=by decide +kernel
end
section
open PySem PySem.W PyProof.Rows PySem.Calls PySem.SeqAt
noncomputable def lxS (M:Mem) (cs:List Nat) (ln:Int) (cits:Mem):Mem:=M++AObj.lst (cs.map sgAV) :: .ns (lexNs ln M.length (M.length + 2)) :: .lst [] :: cits
section
variable {X:Amb} {D:Nat} {m M cits:Mem} {cs:List Nat} {ln:Int}
private theorem lxS_get (k:Nat):(lxS M cs ln cits)[M.length + k]? = (AObj.lst (cs.map sgAV) :: .ns (lexNs ln M.length (M.length + 2)) :: .lst [] :: cits)[k]?:=get_app M _ k
private theorem lxS_set (k:Nat) (x:AObj):(lxS M cs ln cits).set (M.length + (3 + k)) x = lxS M cs ln (cits.set k x):=by
  unfold lxS
  rw [set_app M _ (3 + k) x,Nat.add_comm 3 k]; rfl
private theorem lxS_sn (x:AObj):sn (lxS M cs ln cits) x = lxS M cs ln (cits++[x]):=by
  unfold sn lxS; rw [List.append_assoc]; rfl
private theorem lxS_at (h1:okS cs) (h2:cs.length≤100000):LexAt (lxS M cs ln cits) (M.length + 1) ln M.length (M.length + 2) cs [] :=
  ⟨lxS_get 1,lxS_get 0,lxS_get 2,by exact Nat.ne_of_lt (Nat.lt_succ_self _),by lia,by lia,h1,h2,by decide⟩
private theorem lxS_tok (kn:KnL X) (hD:7≤D) (h1:okS cs) (h2:cs.length≤100000):∃ c,Mt X (D + 1) "get_token" (lxS M cs ln cits) (lxS M cs ln cits) (.inst 133 (M.length + 1)) [] (.str (tokF cs).1) (lxS M (tokF cs).2.1 (ln + (cs.count 10:Nat) - ((tokF cs).2.1.count 10:Nat)) (cits++[c])):=by
  obtain ⟨mN,cl,lx⟩:=kn.cls
  have A:=lxS_at (M:=M) (cits:=cits) (ln:=ln) h1 h2
  refine ⟨.cit (if (tokF cs).2.2 then none else some (116,133,M.length + 1)),?_⟩
  have e:lxM (lxS M cs ln cits) (M.length + 1) (ln + (cs.count 10:Nat)) M.length (M.length + 2) (tokF cs).2.2 (tokF cs).2.1 = lxS M (tokF cs).2.1 (ln + (cs.count 10:Nat) - ((tokF cs).2.1.count 10:Nat)) (cits++[.cit (if (tokF cs).2.2 then none else some (116,133,M.length + 1))]):=by
    unfold lxM lxS
    rw [set_app0,set_app M _ 1,List.append_assoc]; rfl
  exact e ▸ .inst cl lx.gt kn.mg lo_gt A.ns rfl (op_gt kn hD A)
variable {t:List Nat} {P:RP} {c0 c1 c2 c3 c4 c5 c6 c7:Nat}
noncomputable abbrev hoL7 (c0 c1 c2 c3 c4 c5 c6 c7 k:Nat):Lc:=bd "lexer" (.inst 133 (k + 1)) (bd "weights" (.mref (k + 3)) (hoL4 c0 c1 c2 c3 c4 c5 c6 c7))
private theorem ho7 (kn:KnM X) (hD:20≤D) (h:W X D hoSk ((hoB.take 12).drop 8) (hoL7 c0 c1 c2 c3 c4 c5 c6 c7 m.length) (lxS m t 1 [.lst []]) P):W X D hoSk ((hoB.take 12).drop 7) (bd "stream" (.strm lamRead m.length) (binds ["left","stream"] [.mref m.length,.none] (hoL4 c0 c1 c2 c3 c4 c5 c6 c7))) (sn m (.lst (t.map sgAV))) P:=by
  obtain ⟨mN,cl,lx⟩:=kn.cls
  obtain ⟨D,rfl⟩:∃ d,D = d + 2:=⟨D - 2,by lia⟩
  have o:=op_init (D:=D) (m:=sn (sn m (.lst (t.map sgAV))) (.ns [])) (j:=m.length + 1) (i:=m.length) kn.toKnL (dC hD rfl) (by rw [← sn_len m (.lst (t.map sgAV)),sn_get])
  have e1:sn ((sn (sn m (.lst (t.map sgAV))) (.ns [])).set (m.length + 1) (.ns (lexNs 1 m.length (sn (sn m (.lst (t.map sgAV))) (.ns [])).length))) (.lst []) = lxS m t 1 []:=by
    rw [← sn_len m (.lst (t.map sgAV)),sn_set,sn_len,sn_len]
    unfold sn lxS; rw [List.append_assoc,List.append_assoc]; rfl
  rw [e1] at o
  have o2:=makeC (C:=133) (f:=109) (m:=sn m (.lst (t.map sgAV))) (avs:=[.strm lamRead m.length]) kn.mkc (by rw [sn_len]; exact o)
  rw [sn_len] at o2
  have e2:(lxS m t 1 []).length = m.length + 3:=by unfold lxS; rw [List.length_append]; rfl
  refine W.tup (G:=⟨X,D + 2,hoSk,[]⟩) (xs:=["lexer","weights"]) (by exact dA hD rfl) (by rfl) rfl (.cons rfl (.cons rfl .nil)) ⟨.cls cl kn.gcls o2,.mk rfl ?_⟩
  rw [lxS_sn,e2]
  exact h.weak (show Sub0 _ _ from .rf rfl)
end
end
section
open PySem PySem.W PyProof.Rows PySem.Calls PySem.SeqAt
private theorem okS_flat {α:Type} {f:α→List Nat} {l:List α} (h:∀ x∈l,okS (f x)):okS (l.map f).flatten:=fun c hc=>by
  obtain ⟨y,hy,hc⟩:=List.mem_flatten.mp hc
  obtain ⟨x,hx,rfl⟩:=List.mem_map.mp hy
  exact h x hx c hc
private theorem okS_2 {a c:Nat} (ha:a < 0x110000) (h:c < 0x110000):okS [a,c]:=fun d hd=>(List.mem_cons.mp hd).elim (fun e=>e ▸ ha) fun hd=>List.mem_singleton.mp hd ▸ h
private theorem ws_ok {l:List Nat} (h:∀ c∈l,wsB c = true):okS l:=fun c hc=>by
  have:c∈[10,9,13,32]:=of_decide_eq_true (h c hc)
  simp only [List.mem_cons,List.not_mem_nil,or_false] at this
  lia
private theorem wrF_ok {w:List Nat} (h:okS w) (s:Int):okS (wrF w s):=by
  unfold wrF
  split
  · refine okS_app (okS_app (a:=[34]) (okS_1 (by decide)) (okS_app (okS_flat fun c hc=>?_) (okS_1 (by decide)))) (ws_ok (endQ_ws _))
    unfold qF; split
    · exact okS_2 (by decide) (h c hc)
    · exact okS_1 (h c hc)
  · refine okS_app (okS_flat fun x hx=>?_) (ws_ok fun c hc=>by rw [List.mem_singleton.mp hc]; exact endB_ws _)
    have:=h _ (enL_mem 0 w x hx)
    unfold bF; split
    · exact okS_2 (by decide) this
    · exact okS_1 this
private theorem wdsL_mem {n c1 c2 c3:Nat} {w:List Nat} (h:w∈wdsL n c1 c2 c3):∃ d,d < 2048∧w = wdF d:=by
  obtain ⟨p,_,rfl⟩:=List.mem_map.mp h
  exact ⟨_,Nat.mod_lt _ (by decide),rfl⟩
private theorem wds_13 {n c1 c2 c3:Nat}:∀ w∈wdsL n c1 c2 c3,∀ c∈w,c ≠ 13:=fun w hw=>by
  obtain ⟨d,_,rfl⟩:=wdsL_mem hw
  exact wdF_13 d
private theorem getD_ok {n c1 c2 c3:Nat} (p:Nat):okS ((wdsL n c1 c2 c3).getD p [])∧((wdsL n c1 c2 c3).getD p []).length≤3:=by
  rw [List.getD_eq_getElem?_getD]
  cases q:(wdsL n c1 c2 c3)[p]? with
  | none=>exact ⟨okS_nil,Nat.zero_le _⟩
  | some w =>
    obtain ⟨d,_,rfl⟩:=wdsL_mem (List.mem_of_getElem? q)
    exact ⟨wdF_ok d,wdF_len d⟩
private theorem rest_ok {n c1 c2 c3 c7 p:Nat} (hn:n≤6) (hp:p≤n):okS (restF (fileF (wdsL n c1 c2 c3) c7 n) p)∧(restF (fileF (wdsL n c1 c2 c3) c7 n) p).length≤100000:=by
  obtain ⟨l,R⟩:=rest_at (c7:=c7) (W:=wdsL n c1 c2 c3) (n:=n) wds_13 p hp
  rw [R.e]
  refine ⟨okS_app (ws_ok R.ws) (okS_app (okS_flat fun q zz=>wrF_ok (getD_ok q).1 _) (okS_1 (by decide))),?_⟩
  have h1:=R.len
  have h2:=sum_le (fun q=>(wrF ((wdsL n c1 c2 c3).getD q []) (stF c7 q)).length) 9 ((List.range n).drop p) fun q zz=>by
    have:=wrF_len ((wdsL n c1 c2 c3).getD q []) (stF c7 q)
    have:=(getD_ok (n:=n) (c1:=c1) (c2:=c2) (c3:=c3) q).2
    lia
  rw [List.length_drop,List.length_range] at h2
  rw [List.length_append,List.length_append,List.length_flatten,List.map_map]
  have h3:(n - p) * 9≤54:=by lia
  have h4:=Nat.le_trans h2 h3
  show _ + ((((List.range n).drop p).map fun q=>(wrF ((wdsL n c1 c2 c3).getD q []) (stF c7 q)).length).sum + 1)≤_
  lia
private theorem dv_ok (c5:Nat):dvI c5 ≠ 0∧(dvI c5).natAbs≤100003:=by
  unfold dvI
  have:c5 % 4 < 4:=Nat.mod_lt _ (by decide)
  have:c5 / 4 % 2 < 2:=Nat.mod_lt _ (by decide)
  generalize c5 % 4 = a at *
  generalize c5 / 4 % 2 = b at *
  rcases b with _ | _ | b
  · match a with
    | 0=>decide
    | 1=>decide
    | 2=>decide
    | 3=>decide
    | a + 4=>lia
  · match a with
    | 0=>decide
    | 1=>decide
    | 2=>decide
    | 3=>decide
    | a + 4=>lia
  · lia
noncomputable def numI (c4 d:Nat):Int:=(nbF d:Nat) - ((c4:Int).fmod 600)
noncomputable def remF (c4 c5 d:Nat):Int:=(numI c4 d).fmod (dvI c5)
noncomputable def wsF (n c1 c2 c3 c4 c5:Nat):List Int:=(List.range n).map fun p=>remF c4 c5 (drN c1 c2 c3 p)
private theorem fmod_side {a b:Int} (h:b ≠ 0):0≤a.fmod b * b∧a.fmod b * b < b * b:=by
  have key:∀ {a b:Int},0 < b→0≤a.fmod b * b∧a.fmod b * b < b * b:=fun {a b} h =>
    ⟨Int.mul_nonneg (Int.fmod_nonneg_of_pos a h) (Int.le_of_lt h),Int.mul_lt_mul_of_pos_right (Int.fmod_lt_of_pos a h) h⟩
  rcases Int.lt_or_gt_of_ne h with h | h
  · have:=key (a:=-a) (b:=-b) (by lia)
    rw [Int.neg_fmod_neg,Int.neg_mul_neg,Int.neg_mul_neg] at this
    exact this
  · exact key h
private theorem ws_succ {n c1 c2 c3 c4 c5 p:Nat} (hp:p < n):(wsF n c1 c2 c3 c4 c5).take (p + 1) = (wsF n c1 c2 c3 c4 c5).take p++[remF c4 c5 (drN c1 c2 c3 p)]:=by
  have:(wsF n c1 c2 c3 c4 c5)[p]? = some (remF c4 c5 (drN c1 c2 c3 p)):=by
    unfold wsF; rw [List.getElem?_map,List.getElem?_range hp]; rfl
  rw [List.take_add_one,this]; rfl
private theorem ws_len {n c1 c2 c3 c4 c5:Nat}:(wsF n c1 c2 c3 c4 c5).length = n:=by simp [wsF]
end
section
open PySem PySem.W PyProof.Rows PySem.Calls PySem.SeqAt
private theorem chF2 {a b c:Int} (h1:a≤b) (h2:b < c):chF a [.LtE,.Lt] [b,c] = true:=by
  show ((some (decide (a≤b)) == some true) && ((some (decide (b < c)) == some true) && true)) = true
  rw [decide_eq_true h1,decide_eq_true h2]; rfl
section
variable {X:Amb} {D:Nat} {M:Mem} {c0 c1 c2 c3 c4 c5 c6 c7:Nat} {P:RP}
noncomputable abbrev fl8 (c0 c1 c2 c3 c7:Nat):List Nat:=fileF (wdsL (cn c0) c1 c2 c3) c7 (cn c0)
noncomputable def mem8 (c0 c1 c2 c3 c4 c5 c7:Nat) (M:Mem) (k:Nat) (cits:Mem):Mem :=
  lxS M (restF (fl8 c0 c1 c2 c3 c7) k) (1 + ((fl8 c0 c1 c2 c3 c7).count 10:Nat) - ((restF (fl8 c0 c1 c2 c3 c7) k).count 10:Nat)) (.lst (((wsF (cn c0) c1 c2 c3 c4 c5).take k).map .int) :: cits)
private theorem ho8 (kn:KnM X) (hD:30≤D∧D≤480) (h:∀ cits,W X (D + 1) hoSk ((hoB.take 12).drop 9) (hoL7 c0 c1 c2 c3 c4 c5 c6 c7 M.length) (mem8 c0 c1 c2 c3 c4 c5 c7 M (cn c0) cits) P):W X (D + 1) hoSk ((hoB.take 12).drop 8) (hoL7 c0 c1 c2 c3 c4 c5 c6 c7 M.length) (lxS M (fl8 c0 c1 c2 c3 c7) 1 [.lst []]) P:=by
  have hn:=(cn_le c0).2
  have hD4:4≤D + 1:=by exact dE hD.1 rfl
  refine W.forW (G:=⟨X,D + 1,hoSk,[]⟩) (σ:=Mem) (xs:=List.range (cn c0)) (f:=fun (i:Nat)=>.int i) (av:=.rng 0 (cn c0:Nat)) (m1:=lxS M (fl8 c0 c1 c2 c3 c7) 1 [.lst []]) hD4 ⟨.t (kn.bu "range" _ rfl) .range,.mk⟩ (.rng' (by lia)) (fun zz zz=>hoL7 c0 c1 c2 c3 c4 c5 c6 c7 M.length) (mem8 c0 c1 c2 c3 c4 c5 c7 M) (fun zz zz=>True) (.mk [] trivial (congrArg (fun z=>lxS M (fl8 c0 c1 c2 c3 c7) z [.lst []]) (show (1:Int) = 1 + ((fl8 c0 c1 c2 c3 c7).count 10:Nat) - ((fl8 c0 c1 c2 c3 c7).count 10:Nat) by lia)) (.rf rfl)) (fun p x cits hx zz=>?_) (fun cits zz=>?_) (fun zz zz=>rfl)
  · have hp:p < cn c0:=by have:=(List.getElem?_eq_some_iff.mp hx).1; rwa [List.length_range] at this
    cases range_at hx
    obtain ⟨ro1,ro2⟩:=rest_ok (c1:=c1) (c2:=c2) (c3:=c3) (c7:=c7) hn (Nat.le_of_lt hp)
    obtain ⟨l,R⟩:=rest_at (c7:=c7) (W:=wdsL (cn c0) c1 c2 c3) (n:=cn c0) wds_13 p (Nat.le_of_lt hp)
    have rs:=(rest_step wds_13 hp R).1
    rw [wds_getD hp] at rs
    obtain ⟨cc,ht⟩:=lxS_tok (X:=X) (D:=D) (M:=M) (cits:=.lst (((wsF (cn c0) c1 c2 c3 c4 c5).take p).map .int) :: cits) (ln:=1 + ((fl8 c0 c1 c2 c3 c7).count 10:Nat) - ((restF (fl8 c0 c1 c2 c3 c7) p).count 10:Nat)) kn.toKnL (by lia) ro1 ro2
    have hln:(1:Int) + ((fl8 c0 c1 c2 c3 c7).count 10:Nat) - ((restF (fl8 c0 c1 c2 c3 c7) p).count 10:Nat) + ((restF (fl8 c0 c1 c2 c3 c7) p).count 10:Nat) = 1 + ((fl8 c0 c1 c2 c3 c7).count 10:Nat):=by lia
    rw [rs,hln] at ht
    have hd:drN c1 c2 c3 p < 2048:=Nat.mod_lt _ (by decide)
    have hw:=ws_succ (c1:=c1) (c2:=c2) (c3:=c3) (c4:=c4) (c5:=c5) hp
    have hdr:(drL (cn c0) c1 c2 c3)[p]? = some (.int (drN c1 c2 c3 p:Nat)):=by
      unfold drL; rw [List.getElem?_map,List.getElem?_range hp]; rfl
    have hwd:((wdsL (cn c0) c1 c2 c3).map AV.str)[p]? = some (.str (wdF (drN c1 c2 c3 p))):=by rw [List.getElem?_map,wds_get hp]; rfl
    generalize drN c1 c2 c3 p = d at ht hd hw hdr hwd
    have wl:=wdF_len d
    have wo:=wdF_ok d
    have hnum:((nbF d:Nat):Int) = ((d:Int).fdiv 4).fmod ((8:Int) ^ ((wdF d).length:Int).toNat):=by
      have e1:(d:Int).fdiv 4 = ((d / 4:Nat):Int):=fdivN d 4
      have e2:(8:Int) ^ (wdF d).length = ((8 ^ (wdF d).length:Nat):Int):=powN 8 _
      rw [nbF_is,e1,Int.toNat_natCast,e2,fmodN]
    have h8:(8:Int) ^ ((wdF d).length:Int).toNat ≠ 0:=by
      have e2:(8:Int) ^ (wdF d).length = ((8 ^ (wdF d).length:Nat):Int):=powN 8 _
      rw [Int.toNat_natCast,e2]
      exact Int.ofNat_ne_zero.mpr (Nat.ne_of_gt (Nat.pow_pos (by decide)))
    have hk3:∃ k:Int,([AV.int 0,.int 1,.int 3])[((p:Int).fmod 3).toNat]? = some (.int k)∧checkF (wrF (wdF d++[40]) k) = true:=by
      have e3:(p:Int).fmod 3 = ((p % 3:Nat):Int):=fmodN p 3
      rw [e3,Int.toNat_natCast]
      have hc:=List.all_eq_true.mp (List.all_eq_true.mp wd_check d (List.mem_range.mpr hd))
      have:p % 3 < 3:=Nat.mod_lt _ (by decide)
      generalize p % 3 = q at this
      match q,this with
      | 0,_=>exact ⟨0,rfl,hc 0 (by decide)⟩
      | 1,_=>exact ⟨1,rfl,hc 1 (by decide)⟩
      | 2,_=>exact ⟨3,rfl,hc 3 (by decide)⟩
    obtain ⟨k3,hk3,hck⟩:=hk3
    have i3:0≤(p:Int).fmod 3∧(p:Int).fmod 3 < 2 ^ 62:=by
      have e3:(p:Int).fmod 3 = ((p % 3:Nat):Int):=fmodN p 3
      rw [e3]; lia
    obtain ⟨dv1,dv2⟩:=dv_ok c5
    have wo2:okS (wdF d++[40]):=okS_app wo (okS_1 (by decide))
    have hwr:=op_written (X:=X) (D:=D) kn.toKn (kn.bu "enumerate" _ rfl) (by lia) (w:=wdF d++[40]) (s:=k3) (m:=lxS M (restF (fl8 c0 c1 c2 c3 c7) (p + 1)) (1 + ((fl8 c0 c1 c2 c3 c7).count 10:Nat) - ((restF (fl8 c0 c1 c2 c3 c7) (p + 1)).count 10:Nat)) (.lst (((wsF (cn c0) c1 c2 c3 c4 c5).take p).map .int) :: cits++[cc])) (by rw [List.length_append]; show _ + 1≤_; lia) wo2
    refine ⟨_,.name rfl,⟨ht,?_⟩⟩
    refine OkE.map (G:=⟨X,D + 1,hoSk,[]⟩) (xs:=wdF d) (f:=fun c=>.str [c]) (av:=.str (wdF d)) hD4 (by rfl) (fun zz zz=>rfl) .mk .str' (Nat.le_trans wl (by decide)) (fun c=>.int (ixF c:Nat)) (fun c hc=>⟨_,.name rfl,⟨.find (wdF_find d c hc),.mk⟩⟩) ?_
    have hds:((wdF d).map ixF).map dAV = (wdF d).map fun c=>AV.int (ixF c:Nat):=List.map_map
    have hdi:∀ m,Fn X (D + 1) "_digits2int" m [.lst ((wdF d).map fun c=>AV.int (ixF c:Nat)),.int ((3:Nat):Int)] (.int (nbF d:Nat)) m:=fun m=>by
      rw [← hds]
      exact op_digits2int kn.toKnC (by lia) .f (by rw [List.length_map]; lia) (by rw [List.length_map]; lia) fun x hx=>by
        rw [wdF_ix] at hx
        exact digs_lt 3 _ _ x hx
    have hnb:nbF d < 512:=by
      rw [nbF_is]
      exact Nat.lt_of_le_of_lt (Nat.mod_le _ _) (by lia)
    have hc4:(c4:Int).fmod 600 = ((c4 % 600:Nat):Int):=fmodN c4 600
    have hc4':c4 % 600 < 600:=Nat.mod_lt _ (by decide)
    have hni:(((nbF d:Nat):Int) - (c4:Int).fmod 600).natAbs < 2 ^ 60:=by rw [hc4]; lia
    have hdvm:(dvI c5).natAbs < 2 ^ 63:=by lia
    have hsd:=fmod_side (a:=numI c4 d) dv1
    have hfm:(numI c4 d).fdiv (dvI c5) * dvI c5 + (numI c4 d).fmod (dvI c5) = numI c4 d:=by
      have:=Int.mul_fdiv_add_fmod (numI c4 d) (dvI c5)
      rw [Int.mul_comm] at this; exact this
    refine ⟨hdi _,.lst (by decide) (by decide) rfl,.mod (by decide),op_divmod kn.toKnC (by lia) hni dv1 (by lia),?_⟩
    refine ⟨.lst (Int.natCast_nonneg _) (by lia) hwd,.neS wo wo hD4,fun zz=>⟨.lst (Int.natCast_nonneg _) (by lia) hdr,.div (by decide) (by decide),.b (kn.bu "len" _ rfl) (.lenS (by lia)),.pow (Int.natCast_nonneg _) (by lia) (by decide),.mod h8,fun zz=>⟨.addS (by show _ + 1≤_; lia),.mod (by decide),.lst i3.1 i3.2 hk3,hwr,op_check kn.toKn (by lia) (by have:=wrF_len (wdF d++[40]) k3; rw [List.length_append] at this; have:_≤2 * ((wdF d).length + 1) + 3:=this; lia) (wrF_ok wo2 _),.isNotB,.mk⟩,.mk⟩,.f ?_ ?_⟩
    · rw [decide_eq_true rfl,decide_eq_true hnum,hck]; rfl
    refine ⟨.tup (by decide) (by decide) rfl,.tup (by decide) (by decide) rfl,.ne (b:=true) (Rds.pair ((numI c4 d).fdiv (dvI c5),(numI c4 d).fmod (dvI c5))) (Rds.pair ((numI c4 d).fdiv (dvI c5),(numI c4 d).fmod (dvI c5))) rfl rfl ((eqv_p _ _).trans (decide_eq_true rfl)) hD4,fun zz=>⟨.tup (by decide) (by decide) rfl,.mul (.inr hdvm),.tup (by decide) (by decide) rfl,.lst (by decide) (by decide) rfl,.mod (by decide),fun zz=>⟨_,_,.chain .int (.cons (.wp (G:=⟨X,D + 1,hoSk,[]⟩) (k:=40) hD4 ⟨.tup (by decide) (by decide) rfl,.mul (.inr hdvm),.mk⟩) (.cons (.wp (G:=⟨X,D + 1,hoSk,[]⟩) (k:=40) hD4 ⟨.mul (.inr hdvm),.mk⟩) .nil)) rfl rfl (by rfl),.mk⟩,.mk⟩,.f ?_ ?_⟩
    · have h1:=chF2 hsd.1 hsd.2
      unfold numI at h1 hfm
      rw [decide_eq_true hfm,h1]; rfl
    · exact ⟨.tup (by decide) (by decide) rfl,.append (m3:=mem8 c0 c1 c2 c3 c4 c5 c7 M (p + 1) (cits++[cc])) (lxS_get 3) (lxS_get 3) (by rw [List.length_map]; exact Nat.le_trans (List.length_take_le' ..) (by rw [ws_len]; lia)) (by
        unfold mem8
        rw [hw,List.map_append]
        exact lxS_set 0 _),.mk (.mk (cits++[cc]) trivial rfl (.rf rfl))⟩
  · have e:=ws_len (n:=cn c0) (c1:=c1) (c2:=c2) (c3:=c3) (c4:=c4) (c5:=c5)
    rw [List.length_range]
    exact h cits
end
end
section
open PySem PySem.W PyProof.Rows PySem.Calls PySem.SeqAt
noncomputable def ptI (T:Tr):List Int:=(ioF T 0).map ptF
noncomputable def ivs (T:Tr):List (Int × Int):=(ioF T 0).map fun t=>(t.2.1,t.2.2)
noncomputable def lodC (T:Tr) (o w:Nat):Bool:=decide (2 * (((ptI T).take (w + 1)).drop o).sum = ((w + 1 - o:Nat):Int) * (((w + 1 - o:Nat):Int) + 1)) == decide (((o:Int),(w:Int))∈ivs T)
noncomputable def secOk (T:Tr):Bool:=(ptI T).all (fun x=>decide (0 < x) && decide (x < 32)) && ((ioF T 0).all fun t=>decide ((t.1 - t.2.1 + 1).natAbs < 32)) && (backF 7 (ptI T) == rowT T) && ((List.range T.sz).all fun o=>(List.range T.sz).all fun w=>!decide (o≤w) || lodC T o w)
  && (checkF (rowT T).dropLast == false) && (checkF ((rowT T).drop 1++(rowT T).take 1) == false)
private theorem sec4:(trs 4).all secOk = true:=by decide +kernel
private theorem sec5:(trs 5).all secOk = true:=by decide +kernel
private theorem sec6:(trs 6).all secOk = true:=by decide +kernel
structure SecOk (T:Tr):Prop where
  pos:∀ x∈ptI T,0 < x∧x < 32
  nat:∀ t∈ioF T 0,(t.1 - t.2.1 + 1).natAbs < 32
  back:backF 7 (ptI T) = rowT T
  lod:∀ o w,o≤w→w < T.sz→lodC T o w = true
  odd1:checkF (rowT T).dropLast = false
  odd2:checkF ((rowT T).drop 1++(rowT T).take 1) = false
private theorem secOf {T:Tr} (h:T.sz = 4∨T.sz = 5∨T.sz = 6):SecOk T:=by
  have hm:=mem_trs T
  have h1:secOk T = true:=by
    rcases h with h | h | h <;> rw [h] at hm
    · exact List.all_eq_true.mp sec4 _ hm
    · exact List.all_eq_true.mp sec5 _ hm
    · exact List.all_eq_true.mp sec6 _ hm
  unfold secOk at h1
  simp only [Bool.and_eq_true,beq_iff_eq,List.all_eq_true,decide_eq_true_eq,Bool.or_eq_true,Bool.not_eq_true',decide_eq_false_iff_not] at h1
  obtain ⟨⟨⟨⟨⟨a,b⟩,c⟩,d⟩,e⟩,f⟩:=h1
  exact ⟨a,b,c,fun o w h1 h2=>(d o (List.mem_range.mpr (Nat.lt_of_le_of_lt h1 h2)) w (List.mem_range.mpr h2)).resolve_left (fun q=>q h1),e,f⟩
private theorem digs_of (n:Nat):∀ ds:List Nat,(∀ d∈ds,d < 2 ^ n)→digsF n ds.length (ofDigs n ds) = ds
  | [],_=>rfl
  | d :: r,h=>by
    have h1:=h d List.mem_cons_self
    have ih:=digs_of n r fun x hx=>h x (List.mem_cons_of_mem _ hx)
    show (d + 2 ^ n * ofDigs n r) % 2 ^ n :: digsF n r.length ((d + 2 ^ n * ofDigs n r) / 2 ^ n) = _
    rw [Nat.add_mul_mod_self_left,Nat.mod_eq_of_lt h1,Nat.add_mul_div_left _ _ (Nat.two_pow_pos n),Nat.div_eq_of_lt h1,Nat.zero_add,ih]
private theorem digs_ge (n:Nat):∀ ds:List Nat,ds ≠ []→(∀ d∈ds,0 < d)→2 ^ (n * (ds.length - 1))≤ofDigs n ds
  | [d],_,h=>by have:=h d List.mem_cons_self; simp [ofDigs]; lia
  | d :: e :: r,_,h=>by
    have ih:=digs_ge n (e :: r) nofun fun x hx=>h x (List.mem_cons_of_mem _ hx)
    show 2 ^ (n * (r.length + 1))≤d + 2 ^ n * ofDigs n (e :: r)
    rw [Nat.mul_succ,Nat.add_comm (n * _),Nat.pow_add]
    exact Nat.le_trans (Nat.mul_le_mul_left _ ih) (Nat.le_add_left _ _)
private theorem cnt_of {n:Nat} (hn:1≤n) {ds:List Nat} (h0:ds ≠ []) (h1:∀ d∈ds,0 < d) (h2:∀ d∈ds,d < 2 ^ n):cntF (ofDigs n ds) n = ds.length:=by
  have hlo:=digs_ge n ds h0 h1
  have hhi:=ofDigs_lt n ds h2
  have hb:=lt_bits (ofDigs n ds)
  have hl:1≤ds.length:=by cases ds with
    | nil=>exact absurd rfl h0
    | cons d r=>exact Nat.succ_pos _
  have b1:n * (ds.length - 1) < Builtin.Int.intBits (ofDigs n ds):=by
    refine Nat.lt_of_not_le fun q=>?_
    exact absurd (Nat.lt_of_lt_of_le hb (Nat.pow_le_pow_right (by decide) q)) (Nat.not_lt.mpr hlo)
  have b2:Builtin.Int.intBits (ofDigs n ds)≤n * ds.length:=intBits_le (by rw [Int.natAbs_natCast]; exact hhi)
  unfold cntF
  obtain ⟨k,hk⟩:∃ k,ds.length = k + 1:=⟨ds.length - 1,by lia⟩
  rw [hk] at b1 b2 ⊢
  rw [Nat.add_sub_cancel] at b1
  rw [Nat.mul_succ] at b2
  generalize Builtin.Int.intBits (ofDigs n ds:Int) = b at b1 b2
  refine Nat.div_eq_of_lt_le ?_ ?_
  · rw [Nat.mul_comm,Nat.mul_succ]; lia
  · rw [Nat.mul_comm,Nat.mul_succ,Nat.mul_succ]; lia
end
section
noncomputable def rdT:Nat→List Nat→Tr × List Nat
  | 0,l=>(.leaf,l)
  | _,[]=>(.leaf,[])
  | n + 1,c :: r=>if c = 40 then (match rdT n r with
    | (a,d :: r2)=>(match rdT n r2 with
      | (b,r3)=>(.node a b,r3))
    | (a,[])=>(a,[])) else (.leaf,c :: r)
noncomputable def nxtR (n k:Nat) (row:List Nat):List (List Nat):=if row.count 40 < n then (if 2 * row.count 40 = k then [row++[40]] else [row++[40],row++[41]]) else [row++[41]]
noncomputable def reach (n:Nat):Nat→List (List Nat)
  | 0=>[[]]
  | k + 1=>(reach n k).flatMap (nxtR n k)
private theorem row_reach (code:Int) (n:Nat):∀ k,rowAt code n k∈reach n k
  | 0=>List.mem_singleton.mpr rfl
  | k + 1=>by
    rw [rowAt_succ]
    refine List.mem_flatMap.mpr ⟨_,row_reach code n k,?_⟩
    unfold rowStep nxtR
    by_cases h:(rowAt code n k).count 40 < n
    · rw [if_pos h]
      by_cases h2:2 * (rowAt code n k).count 40 = k
      · rw [if_pos h2,if_pos ⟨h,.inl h2⟩]; exact List.mem_singleton.mpr rfl
      · rw [if_neg h2]
        split
        · exact List.mem_cons_self
        · exact List.mem_cons_of_mem _ (List.mem_singleton.mpr rfl)
    · rw [if_neg h,if_neg fun q=>h q.1]; exact List.mem_singleton.mpr rfl
noncomputable def rowOk (n:Nat) (r:List Nat):Bool:=decide ((rdT 14 r).1.sz = n) && rowT (rdT 14 r).1 == r
private theorem rows4:((reach 4 8).all (rowOk 4)) = true:=by decide +kernel
private theorem rows5:((reach 5 10).all (rowOk 5)) = true:=by decide +kernel
private theorem rows6:((reach 6 12).all (rowOk 6)) = true:=by decide +kernel
private theorem row_tree (code:Int) {n:Nat} (hn:n = 4∨n = 5∨n = 6):∃ T:Tr,T.sz = n∧rowL code n = rowT T:=by
  have h:=row_reach code n (2 * n)
  have key:rowOk n (rowAt code n (2 * n)) = true:=by
    rcases hn with rfl | rfl | rfl
    · exact List.all_eq_true.mp rows4 _ h
    · exact List.all_eq_true.mp rows5 _ h
    · exact List.all_eq_true.mp rows6 _ h
  have k:=Bool.and_eq_true_iff.mp key
  exact ⟨_,of_decide_eq_true k.1,(eq_of_beq k.2).symm⟩
end
section
open PySem PySem.W PyProof.Rows PySem.Calls PySem.SeqAt
section
variable {X:Amb} {D:Nat} {M cits:Mem} {c0 c1 c2 c3 c4 c5 c6 c7:Nat} {P:RP} {cs:List Nat} {ln:Int} {ws:List Int} {T R:Tr}
noncomputable abbrev mem9 (M:Mem) (cs:List Nat) (ln:Int) (ws:List Int) (cits:Mem):Mem:=lxS M cs ln (.lst (ws.map .int) :: cits)
noncomputable abbrev hoL9 (c0 c1 c2 c3 c4 c5 c6 c7 k:Nat) (T R:Tr):Lc:=bd "pairs" (.lst ((ioF T 0).map t3)) (bd "others" (.lst ((ioF R 0).map t3)) (hoL7 c0 c1 c2 c3 c4 c5 c6 c7 k))
private theorem sz456 {c0 n:Nat} (h:n = cn c0):n = 4∨n = 5∨n = 6:=by have:=cn_le c0; lia
private theorem ho9 (kn:KnM X) (hD:30≤D∧D≤480) (h1:okS cs) (h2:cs.length≤100000) (hw:ws.length = cn c0) (hT:nestF (tnI c0) ws = rowT T) (hTs:T.sz = cn c0) (hR:rowC c0 = rowT R) (hRs:R.sz = cn c0) (h:wpS ⟨X,D + 1,hoSk,[]⟩ 40 40 ((hoB.take 12).drop 10) (hoL9 c0 c1 c2 c3 c4 c5 c6 c7 M.length T R) (mem9 M cs ln ws cits) P) :
    W X (D + 1) hoSk ((hoB.take 12).drop 9) (hoL7 c0 c1 c2 c3 c4 c5 c6 c7 M.length) (mem9 M cs ln ws cits) P:=by
  have hn:=(cn_le c0).2
  have hD4:4≤D + 1:=by exact dE hD.1 rfl
  have LA:=lxS_at (M:=M) (ln:=ln) (cits:=.lst (ws.map .int) :: cits) h1 h2
  have o1:=op_nest (X:=X) (D:=D) (m:=mem9 M cs ln ws cits) kn.toKnB (by lia) (turn:=tnI c0) (i:=M.length + 3) (lxS_get 3) (by lia)
  rw [hT] at o1
  have o2:=op_pairs (X:=X) (D:=D) kn.toKnL (by lia) (sz456 hTs) LA
  have o3:=op_pairs (X:=X) (D:=D) kn.toKnL (by lia) (sz456 hRs) LA
  rw [← hR] at o3
  exact W.tupR (G:=⟨X,D + 1,hoSk,[]⟩) (xs:=["pairs","others"]) hD4 (by rfl) rfl rfl ⟨o1,o2,o3,.mk rfl h⟩
noncomputable abbrev hoL10 (c0 c1 c2 c3 c4 c5 c6 c7 k:Nat) (T R:Tr):Lc:=bd "point" (.lst ((ptI R).map .int)) (hoL9 c0 c1 c2 c3 c4 c5 c6 c7 k T R)
private theorem ho10 (kn:KnM X) (hD:30≤D∧D≤480) (hRs:R.sz = cn c0) {m:Mem} (h:W X (D + 1) hoSk ((hoB.take 12).drop 11) (hoL10 c0 c1 c2 c3 c4 c5 c6 c7 M.length T R) m P):wpS ⟨X,D + 1,hoSk,[]⟩ 40 40 ((hoB.take 12).drop 10) (hoL9 c0 c1 c2 c3 c4 c5 c6 c7 M.length T R) m P:=by
  have hn:=cn_le c0
  have hD4:4≤D + 1:=by exact dE hD.1 rfl
  have K:=secOf (sz456 hRs)
  have hz:=ioF_len R 0
  have hw:5≤wd c6∧wd c6≤64:=by unfold wd; lia
  have hp:(2:Nat) ^ 5≤2 ^ wd c6:=Nat.pow_le_pow_right (by decide) hw.1
  have o1:=op_point (X:=X) (D:=D) (m:=m) kn.toKn (by lia) (ts:=ioF R 0) (by lia) fun t ht=>Nat.lt_trans (K.nat t ht) (by decide)
  have e1:((ioF R 0).map ptF).map AV.int = (((ptI R).map Int.toNat).map dAV):=by
    rw [List.map_map (l:=ptI R)]
    exact List.map_congr_left fun x hx=>congrArg AV.int (Int.toNat_of_nonneg (Int.le_of_lt (K.pos x hx).1)).symm
  have hl:((ptI R).map Int.toNat).length = cn c0:=by rw [List.length_map]; unfold ptI; rw [List.length_map,hz,hRs]
  have d1:∀ d∈(ptI R).map Int.toNat,d < 2 ^ wd c6:=fun d hd=>by
    obtain ⟨x,hx,rfl⟩:=List.mem_map.mp hd
    have:=K.pos x hx; lia
  have d2:∀ d∈(ptI R).map Int.toNat,0 < d:=fun d hd=>by
    obtain ⟨x,hx,rfl⟩:=List.mem_map.mp hd
    have:=K.pos x hx; lia
  have hne:(ptI R).map Int.toNat ≠ []:=fun e=>by rw [e] at hl; exact absurd hl (by show 0 ≠ _; lia)
  have hc:=cnt_of (n:=wd c6) (by lia) hne d2 d1
  have o2:=op_digits2int (X:=X) (D:=D) (m:=m) kn.toKnC (by lia) (n:=wd c6) .f (by lia) (by rw [hl]; exact Nat.le_trans (Nat.mul_le_mul hw.2 hn.2) (by decide)) d1
  have o3:=op_int2digits (X:=X) (D:=D) (m:=m) kn.toKnC (by lia) (a:=ofDigs (wd c6) ((ptI R).map Int.toNat)) (n:=wd c6) (by lia) (by lia) (by rw [hc]; lia) (by rw [hc,hl]; exact Nat.le_trans (Nat.mul_le_mul hw.2 hn.2) (by decide))
  rw [hc,digs_of _ _ d1,← e1] at o3
  rw [← e1] at o2
  exact ⟨o1,o2,o3,h⟩
end
end
section
open PySem PySem.W PyProof.Rows PySem.Calls PySem.SeqAt
noncomputable def strF (ws:List Int) (o w:Nat):List Int:=(ws.take (w + 1)).drop o
noncomputable def inP (o w:Nat) (t:Tri):Bool:=chF t.2.1 [.LtE,.LtE,.LtE,.LtE] [(o:Int),t.1,(w:Int),t.2.2]
structure FirstAt (l:List Int) (x:Int) (j:Nat):Prop where
  at':l[j]? = some x
  ne:∀ i y,i < j→l[i]? = some y→y ≠ x
inductive DueAt (turn:Int) (ws:List Int) (T:Tr) (o w:Nat):Prop
  | mk {x:Int} {j:Nat} {due:Int}:x∈strF ws o w→(∀ y∈strF ws o w,x≤y)→(turn = 0→FirstAt (strF ws o w) x j∧due = (o:Int) + j)→(turn ≠ 0→FirstAt (strF ws o w).reverse x j∧due = (w:Int) - j)→((ioF T 0).filter (inP o w)).map (·.1) = [due]→DueAt turn ws T o w
set_option backward.match.sparseCases false in
noncomputable def body11:List Stmt:=match hoB[11]? with
  | some (Stmt.For _ _ [Stmt.For _ _ b _ _] _ _)=>b
  | _=>[]
section
variable {X:Amb} {D:Nat} {M cits:Mem} {c0 c1 c2 c3 c4 c5 c6 c7:Nat} {P:RP} {cs:List Nat} {ln:Int} {ws:List Int} {T R:Tr}
private theorem slc_str {m:Mem} {av:AV} {l:List Int} (h:LstOf m (l.map .int) av) (hz:l.length≤1000) (o w:Nat):Slc X m (some (o:Int)) (some ((w:Int) + 1)) none av (.lst ((strF l o w).map .int)):=by
  have:=Slc.l (X:=X) (l:=some (o:Int)) (u:=some ((w:Int) + 1)) h (by rw [List.length_map]; exact Nat.le_trans hz (by decide))
  rw [sl_map] at this
  have e:sl (some (o:Int)) (some ((w:Int) + 1)) l = strF l o w:=sl_both l o (w + 1)
  rw [e] at this; exact this
private theorem strF_len {l:List Int} {o w:Nat}:(strF l o w).length≤l.length:=by
  unfold strF; rw [List.length_drop,List.length_take]; lia
private theorem ho11t (kn:KnM X) (hD:30≤D∧D≤480) (hw:ws.length = cn c0) (hRs:R.sz = cn c0) (hTs:T.sz = cn c0) {o w:Nat} (how:o≤w) (hwn:w < cn c0) (H:DueAt (tnI c0) ws T o w) {rest:List Stmt} {P:RP} {J:Lc→Mem→Prop}  (hJ:∀ L,Sub0 (bd "one" (.int o) (hoL10 c0 c1 c2 c3 c4 c5 c6 c7 M.length T R)) L→J L (mem9 M cs ln ws cits)):wpS ⟨X,D + 1,hoSk,[]⟩ 40 40 body11 (bd "two" (.int w) (bd "one" (.int o) (hoL10 c0 c1 c2 c3 c4 c5 c6 c7 M.length T R))) (mem9 M cs ln ws cits) (LoopW ⟨X,D + 1,hoSk,[]⟩ rest P J):=by
  have hn:=cn_le c0
  have hD4:4≤D + 1:=by exact dE hD.1 rfl
  have K:=secOf (sz456 hRs)
  have hz:=ioF_len R 0
  have hzT:=ioF_len T 0
  have lz:(strF ws o w).length≤6:=Nat.le_trans strF_len (by lia)
  have pl:(ptI R).length = cn c0:=by unfold ptI; rw [List.length_map,hz,hRs]
  have pz:(strF (ptI R) o w).length≤6:=Nat.le_trans strF_len (by lia)
  cases H with
  | @mk x j due hx hm h0 h1 hf =>
    refine ⟨slc_str (.m (lxS_get 3)) (by lia) o w,?_⟩
    refine W.tupR (G:=⟨X,D + 1,hoSk,[]⟩) (xs:=["least","size"]) hD4 (by rfl) rfl rfl ⟨.b (kn.bu "min" _ rfl) (.min hx hm),.mk rfl ?_⟩
    refine ⟨.int due,mem9 M cs ln ws cits,fun e=>⟨.indexI (by lia) (h0 (of_decide_eq_true e)).1.at' (h0 (of_decide_eq_true e)).1.ne,isV (congrArg AV.int (h0 (of_decide_eq_true e)).2)⟩,fun e=>?_,?_⟩
    · have h1:=h1 (of_decide_eq_false e)
      have hr:Slc X (mem9 M cs ln ws cits) none none (some (-1)) (.lst ((strF ws o w).map .int)) (.lst ((strF ws o w).reverse.map .int)):=by
        rw [List.map_reverse]; exact .rev (by rw [List.length_map]; lia)
      exact ⟨.neg,hr,.indexI (by rw [List.length_reverse]; lia) h1.1.at' h1.1.ne,isV (congrArg AV.int h1.2)⟩
    have hfl:((ioF T 0).filter (inP o w)).map (fun t=>PyData.int t.1) = [due].map .int:=by rw [← hf,List.map_map]; rfl
    have hps:Slc X (mem9 M cs ln ws cits) (some (o:Int)) (some ((w:Int) + 1)) none (.lst ((ptI R).map .int)) (.lst ((strF (ptI R) o w).map .int)):=slc_str .f (by lia) o w
    have hin:Bin X (D + 1) (compareOp .In) (mem9 M cs ln ws cits) (pA ((o:Int),(w:Int))) (.lst ((ioF R 0).map fun t=>pA (t.2.1,t.2.2))) (.bool (decide (((o:Int),(w:Int))∈ivs R))):=by
      have:=Bin.inPairs (X:=X) (D:=D + 1) (m:=mem9 M cs ln ws cits) (x:=((o:Int),(w:Int))) (ps:=ivs R)
      unfold ivs at this
      rw [List.map_map] at this
      exact this
    have hlod:=K.lod o w how (by lia)
    have esz:(w:Int) + 1 - (o:Int) = ((w + 1 - o:Nat):Int):=by lia
    refine OkE.filter (G:=⟨X,D + 1,hoSk,[]⟩) (xs:=ioF T 0) (f:=t3) (av:=.lst ((ioF T 0).map t3)) (m1:=mem9 M cs ln ws cits) hD4 (by rfl) (fun zz zz=>rfl) .mk .lst (by lia) (inP o w) (fun t=>.int t.1) (fun t ht=>⟨_,.names (xs:=["place","low","high"]) (.cons rfl (.cons rfl (.cons rfl .nil))) rfl,⟨_,_,.chain (.var rfl) (.cons (.var rfl) (.cons (.var rfl) (.cons (.var rfl) (.cons (.var rfl) .nil)))) rfl rfl (by rfl),.mk⟩,fun zz=>.mk⟩) ?_
    refine ⟨.ne (b:=true) (dx:=.list (((ioF T 0).filter (inP o w)).map fun t=>.int t.1)) (dy:=.list ([due].map .int)) (.lst (.map (fun zz=>.int) _)) (.lst (.ints [due])) (by rw [hfl]; exact shaped_ints _) (shaped_ints _) (by rw [hfl]; exact eqv_is.trans (decide_eq_true rfl)) hD4,.f rfl ?_⟩
    refine ⟨hps,.b (kn.bu "sum" _ rfl) .sum,.mul (.inl (by decide)),.mul (.inl (by rw [esz]; lia)),?_⟩
    refine OkE.map (G:=⟨X,D + 1,hoSk,[]⟩) (xs:=ioF R 0) (f:=t3) (av:=.lst ((ioF R 0).map t3)) (m1:=mem9 M cs ln ws cits) hD4 (by rfl) (fun zz zz=>rfl) .mk .lst (by lia) (fun t=>pA (t.2.1,t.2.2)) (fun t ht=>⟨_,.names (xs:=["place","low","high"]) (.cons rfl (.cons rfl (.cons rfl .nil))) rfl,.mk⟩) ?_
    refine ⟨hin,.ne (b:=true) .bool .bool rfl rfl ?_ hD4,.f rfl (hJ _ (.rf rfl))⟩
    unfold lodC at hlod
    rw [esz]
    exact hlod
private theorem ho11 (kn:KnM X) (hD:30≤D∧D≤480) (hw:ws.length = cn c0) (hRs:R.sz = cn c0) (hTs:T.sz = cn c0) (H:∀ o w,o≤w→w < cn c0→DueAt (tnI c0) ws T o w) (h:P .next (hoL10 c0 c1 c2 c3 c4 c5 c6 c7 M.length T R) (mem9 M cs ln ws cits)):W X (D + 1) hoSk ((hoB.take 12).drop 11) (hoL10 c0 c1 c2 c3 c4 c5 c6 c7 M.length T R) (mem9 M cs ln ws cits) P:=by
  have hn:=cn_le c0
  have hD4:4≤D + 1:=by exact dE hD.1 rfl
  refine W.forW (G:=⟨X,D + 1,hoSk,[]⟩) (σ:=Unit) (xs:=List.range (cn c0)) (f:=fun (i:Nat)=>.int i) (av:=.rng 0 (cn c0:Nat)) (m1:=mem9 M cs ln ws cits) hD4 ⟨.t (kn.bu "range" _ rfl) .range,.mk⟩ (.rng' (by lia)) (fun zz zz=>hoL10 c0 c1 c2 c3 c4 c5 c6 c7 M.length T R) (fun zz zz=>mem9 M cs ln ws cits) (fun zz zz=>True) (.mk () trivial rfl (.rf rfl)) (fun o x zz hx zz=>?_) (fun zz zz=>h) (fun zz zz=>rfl)
  have ho:o < cn c0:=by have:=(List.getElem?_eq_some_iff.mp hx).1; rwa [List.length_range] at this
  cases range_at hx
  refine ⟨_,.name rfl,?_⟩
  refine W.forW (G:=⟨X,D + 1,hoSk,[]⟩) (σ:=Unit) (xs:=fromTo (o:Int) (cn c0 - o)) (f:=.int) (av:=.rng (o:Int) (cn c0:Nat)) (m1:=mem9 M cs ln ws cits) hD4 ⟨.t (kn.bu "range" _ rfl) .range2,.mk⟩ (.rngG (by lia) (by lia) (by lia) (by lia)) (fun zz zz=>bd "one" (.int o) (hoL10 c0 c1 c2 c3 c4 c5 c6 c7 M.length T R)) (fun zz zz=>mem9 M cs ln ws cits) (fun zz zz=>True) (.mk () trivial rfl (.rf rfl)) (fun k x zz hx zz=>?_) (fun zz zz=>.mk () trivial rfl (.rf rfl)) (fun zz zz=>rfl)
  have hk:k < cn c0 - o:=by have:=(List.getElem?_eq_some_iff.mp hx).1; rwa [fromTo_len] at this
  rw [fromTo_get hk] at hx
  cases hx
  exact ⟨_,.name rfl,ho11t kn hD hw hRs hTs (o:=o) (w:=o + k) (Nat.le_add_right _ _) (by lia) (H _ _ (Nat.le_add_right _ _) (by lia)) fun L s=>.mk () trivial rfl s⟩
end
end
section
open PySem PySem.W PyProof.Rows PySem.Calls PySem.SeqAt
noncomputable def minL:List Int→Int
  | []=>0
  | [x]=>x
  | x :: y :: r=>min x (minL (y :: r))
private theorem minL_mem:∀ {l:List Int},l ≠ []→minL l∈l
  | [x],_=>List.mem_singleton.mpr rfl
  | x :: y :: r,_=>by
    have ih:=minL_mem (l:=y :: r) nofun
    show min x (minL (y :: r))∈_
    rcases Int.le_total x (minL (y :: r)) with h | h
    · rw [Int.min_eq_left h]; exact List.mem_cons_self
    · rw [Int.min_eq_right h]; exact List.mem_cons_of_mem _ ih
private theorem minL_le:∀ {l:List Int},∀ y∈l,minL l≤y
  | [x],y,h=>by rw [List.mem_singleton.mp h]; exact Int.le_refl _
  | x :: z :: r,y,h=>by
    show min x (minL (z :: r))≤y
    rcases List.mem_cons.mp h with rfl | h
    · exact Int.min_le_left _ _
    · exact Int.le_trans (Int.min_le_right _ _) (minL_le y h)
noncomputable def keyR (turn:Int) (ws:List Int) (p i:Nat):Bool:=decide (minL (strF ws (p + 1) i) < ws.getD p 0 + turn)
noncomputable def keyL (turn:Int) (ws:List Int) (p i:Nat):Bool:=decide (ws.getD p 0 - turn < minL ((ws.take p).drop (i - 2)))
noncomputable def untilF (turn:Int) (ws:List Int) (p:Nat):Nat:=bisGo (fun i=>!(!keyR turn ws p i && true)) 12 (p + 1) ws.length
noncomputable def sinceF (turn:Int) (ws:List Int) (p:Nat):Nat:=bisGo (fun i=>!false && keyL turn ws p i) 12 2 (p + 2)
structure SrchAt (turn:Int) (ws:List Int) (t:Tri) (p:Nat):Prop where
  e:t.1 = (p:Int)
  lt:p < ws.length
  lo:((sinceF turn ws p:Nat):Int) - 2 = t.2.1
  hi:((untilF turn ws p:Nat):Int) - 1 = t.2.2
private theorem Sub0.up {L0 L:Lc} {x:Str} {v:AV} (h:Sub0 L0 L) (hx:L0.lookup x = none):Sub0 L0 ((x,v) :: L):=fun y w e=>(lookup_ne fun q=>by rw [q,hx] at e; cases e).trans (h y w e)
private theorem WF.weak {X:Amb} {D:Nat} {sc:Names} {cq:Value × Str} {sts:List Stmt} {L L':Lc} {m:Mem} {P:RP} (h:WF X D sc cq sts L' m P) (s:Sub0 L' L):WF X D sc cq sts L m P:=fun env own A c l T N Q E k=>h env own A c l (T.on (T.F.weak s)) N Q E k
private theorem slc_nat {X:Amb} {m:Mem} {av:AV} {l:List Int} (h:LstOf m (l.map .int) av) (hz:l.length≤1000) (a b:Nat):Slc X m (some (a:Int)) (some (b:Int)) none av (.lst (((l.take b).drop a).map .int)):=by
  have:=Slc.l (X:=X) (l:=some (a:Int)) (u:=some (b:Int)) h (by rw [List.length_map]; exact Nat.le_trans hz (by decide))
  rw [sl_map,sl_both] at this
  exact this
section
variable {X:Amb} {D:Nat} {M:Mem} {c0 c1 c2 c3 c4 c5 c6 c7:Nat} {P:RP} {cs:List Nat} {ln:Int} {ws:List Int} {T R:Tr}
noncomputable abbrev hoL12 (c0 c1 c2 c3 c4 c5 c6 c7 k:Nat) (T R:Tr) (p:Nat) (lo hi:Int):Lc:=bd "place" (.int p) (bd "low" (.int lo) (bd "high" (.int hi) (hoL10 c0 c1 c2 c3 c4 c5 c6 c7 k T R)))
private theorem ws_at {p:Nat} (h:p < ws.length):(ws.map AV.int)[(p:Int).toNat]? = some (.int (ws.getD p 0)):=by
  rw [Int.toNat_natCast,List.getElem?_map,List.getElem?_eq_getElem h,List.getD_eq_getElem?_getD,List.getElem?_eq_getElem h]; rfl
private theorem ho_until (kn:KnM X) (hD:30≤D) (hw:ws.length = cn c0) {p:Nat} (hp:p < ws.length) {lo hi:Int} {cits:Mem} :
    ∃ e,(match hoB[12]? with
      | some (Stmt.For _ _ (Stmt.Assign _ e _ :: _) _ _)=>some e
      | _=>none) = some e∧PEc X (D + 3) hoSk hoCq e (hoL12 c0 c1 c2 c3 c4 c5 c6 c7 M.length T R p lo hi) (mem9 M cs ln ws cits) (.int (untilF (tnI c0) ws p:Nat)) (sn (mem9 M cs ln ws cits) (.lst ((fromTo 0 (cn c0 + 3)).map .int))):=by
  have hn:=cn_le c0
  have hD4:4≤D + 1:=by lia
  refine ⟨_,rfl,?_⟩
  obtain ⟨o,doc,pm,cd,ct,Pp,t,u,b⟩:=kn.bL
  refine PEc.key (avs:=[.mref (mem9 M cs ln ws cits).length,.bool true,.int ((p + 1:Nat):Int),.int (ws.length:Nat)]) (m1:=sn (mem9 M cs ln ws cits) (.lst ((fromTo 0 (cn c0 + 3)).map .int))) kn.s_holds rfl rfl (fun zz=>rfl) (by rfl) (by rfl) (by decide) ⟨_,.tail _ (.tail _ (.head _)),rfl⟩ (by rfl) b.g b.m b.data (fun zz=>rfl) (.cons' (fun zz=>rfl) (.callT (kn.bu "list" _ rfl) (.cons (fun zz=>rfl) (.callT (kn.bu "range" _ rfl) (.cons (fun zz=>rfl) (.bin (.var rfl) .int Bin.add) .nil) .range (by rfl)) .nil) (.listRG (n:=cn c0 + 3) (by lia) (by decide) (by decide) (by lia)) (by rfl)) (.cons' (fun zz=>rfl) .bool (.cons' (fun zz=>rfl) (.bin (.var rfl) .int Bin.add) (.cons' (fun zz=>rfl) (.var (by rw [hw]; rfl)) .nil)))) fun M' f fo ffd le K=>?_
  have kb:KnB (X.at M'):=kn.toKnB.up le
  have hm3:(sn (mem9 M cs ln ws cits) (.lst ((fromTo 0 (cn c0 + 3)).map .int)))[M.length + 3]? = some (.lst (ws.map .int)):=by rw [lxS_sn]; exact lxS_get 3
  refine op_bisL5 (D:=D + 2) kb (by lia) (N:=ws.length) (lo:=p + 1) (g:=fun i=>(i:Int)) (kb:=keyR (tnI c0) ws p) (by lia) hp (fun i h1 h2=>.mut (sn_get _ _) (Int.natCast_nonneg _) (by lia) (by rw [Int.toNat_natCast,List.getElem?_map,fromTo_get (by lia),Int.zero_add]; rfl)) (fun i h1 h2=>K.fn kb.lim (ps:=["spot"]) (by rfl) (fun fd vs h1 h2 h3 hl=>?_) rfl ?_)
  · obtain ⟨v,rfl⟩:=List.length_eq_one_iff.mp hl
    obtain ⟨name,qual,params,body,scope,gl,cl,df,kw⟩:=fd
    dsimp only at h1 h2 h3
    subst h1; subst h2; subst h3
    rfl
  · have hne:strF ws (p + 1) i ≠ []:=fun e=>by
      have:=congrArg List.length e
      unfold strF at this
      rw [List.length_drop,List.length_take] at this
      have:min (i + 1) ws.length - (p + 1) = 0:=this
      lia
    refine .wp (G:=⟨X.at M',D + 1,_,[]⟩) (k:=40) (by lia) ⟨slc_str (.m hm3) (by lia) (p + 1) i,.b (kb.bu "min" _ rfl) (.min (minL_mem hne) minL_le),.mut hm3 (Int.natCast_nonneg _) (by lia) (ws_at hp),.mk⟩
private theorem ho_since (kn:KnM X) (hD:30≤D) (hw:ws.length = cn c0) {p:Nat} (hp:p < ws.length) {lo hi:Int} {cits:Mem} {u:AV} :
    ∃ e,(match hoB[12]? with
      | some (Stmt.For _ _ (_ :: Stmt.Assign _ e _ :: _) _ _)=>some e
      | _=>none) = some e∧PEc X (D + 3) hoSk hoCq e (bd "until" u (hoL12 c0 c1 c2 c3 c4 c5 c6 c7 M.length T R p lo hi)) (mem9 M cs ln ws cits) (.int (((sinceF (tnI c0) ws p:Nat):Int) - 2)) (sn (mem9 M cs ln ws cits) (.lst ((fromTo (-2) (cn c0 + 2)).map .int))):=by
  have hn:=cn_le c0
  have hD4:4≤D + 1:=by lia
  refine ⟨_,rfl,?_⟩
  obtain ⟨o,doc,pm,cd,ct,Pp,t,u,b⟩:=kn.bR
  refine PEc.bin (PEc.key (avs:=[.mref (mem9 M cs ln ws cits).length,.bool false,.int ((2:Nat):Int),.int ((p + 2:Nat):Int)]) (m1:=sn (mem9 M cs ln ws cits) (.lst ((fromTo (-2) (cn c0 + 2)).map .int))) kn.s_holds rfl rfl (fun zz=>rfl) (by rfl) (by rfl) (by decide) ⟨_,.tail _ (.tail _ (.tail _ (.head _))),rfl⟩ (by rfl) b.g b.m b.data (fun zz=>rfl) (.cons' (fun zz=>rfl) (.callT (kn.bu "list" _ rfl) (.cons (fun zz=>rfl) (.callT (kn.bu "range" _ rfl) (.cons (fun zz=>rfl) (.un .int Un.neg) (.cons (fun zz=>rfl) (.var rfl) .nil)) .range2 (by rfl)) .nil) (.listRG (n:=cn c0 + 2) (by lia) (by decide) (by decide) (by lia)) (by rfl)) (.cons' (fun zz=>rfl) .bool (.cons' (fun zz=>rfl) .int (.cons' (fun zz=>rfl) (.bin (.var rfl) .int Bin.add) .nil)))) fun M' f fo ffd le K=>?_) .int Bin.sub
  have kb:KnB (X.at M'):=kn.toKnB.up le
  have hm3:(sn (mem9 M cs ln ws cits) (.lst ((fromTo (-2) (cn c0 + 2)).map .int)))[M.length + 3]? = some (.lst (ws.map .int)):=by rw [lxS_sn]; exact lxS_get 3
  refine op_bisR5 (D:=D + 2) kb (by lia) (N:=p + 2) (lo:=2) (g:=fun i=>((i - 2:Nat):Int)) (kb:=keyL (tnI c0) ws p) (by lia) (by lia) (fun i h1 h2=>.mut (sn_get _ _) (Int.natCast_nonneg _) (by lia) (by rw [Int.toNat_natCast,List.getElem?_map,fromTo_get (by lia)]; exact congrArg (fun z=>some (AV.int z)) (by lia))) (fun i h1 h2=>K.fn kb.lim (ps:=["spot"]) (by rfl) (fun fd vs h1 h2 h3 hl=>?_) rfl ?_)
  · obtain ⟨v,rfl⟩:=List.length_eq_one_iff.mp hl
    obtain ⟨name,qual,params,body,scope,gl,cl,df,kw⟩:=fd
    dsimp only at h1 h2 h3
    subst h1; subst h2; subst h3
    rfl
  · have hne:(ws.take p).drop (i - 2) ≠ []:=fun e=>by
      have:=congrArg List.length e
      rw [List.length_drop,List.length_take] at this
      have:min p ws.length - (i - 2) = 0:=this
      lia
    exact .wp (G:=⟨X.at M',D + 1,_,[]⟩) (k:=40) (by lia) ⟨slc_nat (.m hm3) (by lia) (i - 2) p,.b (kb.bu "min" _ rfl) (.min (minL_mem hne) minL_le),.mut hm3 (Int.natCast_nonneg _) (by lia) (ws_at hp),.mk⟩
private theorem ho12 (kn:KnM X) (hD:30≤D) (hw:ws.length = cn c0) (H:∀ t∈ioF T 0,∃ p,SrchAt (tnI c0) ws t p) {cits:Mem} (h:∀ cits,WF X (D + 3) hoSk hoCq (hoB.drop 13) (hoL10 c0 c1 c2 c3 c4 c5 c6 c7 M.length T R) (mem9 M cs ln ws cits) P):WF X (D + 3) hoSk hoCq (hoB.drop 12) (hoL10 c0 c1 c2 c3 c4 c5 c6 c7 M.length T R) (mem9 M cs ln ws cits) P:=by
  refine WF.for (α:=Tri) (f:=t3) (xs:=ioF T 0) (m1:=mem9 M cs ln ws cits) (.of (.var rfl) .lst) (fun k L m=>Sub0 (hoL10 c0 c1 c2 c3 c4 c5 c6 c7 M.length T R) L∧∃ c,m = mem9 M cs ln ws c) ⟨fun zz zz e=>e,_,rfl⟩ (fun k t L m hx I=>?_) (fun L m I=>?_) (fun zz zz=>rfl)
  · obtain ⟨sL,c,rfl⟩:=I
    obtain ⟨p,S⟩:=H t (List.mem_of_getElem? hx)
    obtain ⟨e1,h1,w1⟩:=ho_until (M:=M) (c1:=c1) (c2:=c2) (c3:=c3) (c4:=c4) (c5:=c5) (c6:=c6) (c7:=c7) (T:=T) (R:=R) (cs:=cs) (ln:=ln) (cits:=c) kn hD hw S.lt (lo:=t.2.1) (hi:=t.2.2)
    cases h1
    rw [lxS_sn] at w1
    obtain ⟨e2,h2,w2⟩:=ho_since (M:=M) (c1:=c1) (c2:=c2) (c3:=c3) (c4:=c4) (c5:=c5) (c6:=c6) (c7:=c7) (T:=T) (R:=R) (cs:=cs) (ln:=ln) (cits:=c++[.lst ((fromTo 0 (cn c0 + 3)).map .int)]) kn hD hw S.lt (lo:=t.2.1) (hi:=t.2.2) (u:=.int (untilF (tnI c0) ws p:Nat))
    cases h2
    rw [lxS_sn] at w2
    refine .mk (Asg.tup (xs:=["place","low","high"]) (.cons rfl (.cons rfl (.cons rfl .nil))) rfl) ?_
    refine WF.weak (L':=hoL12 c0 c1 c2 c3 c4 c5 c6 c7 M.length T R p t.2.1 t.2.2) (.set w1 (noSwap_c rfl) (by rfl) (.set w2 (noSwap_c rfl) (by rfl) (W.p (wpS_ok (G:=⟨X,D + 3,hoSk,[]⟩) (k:=40) (n:=40) (by lia) ?_)))) ?_
    · refine ⟨.ne (b:=true) (dx:=.list ([((sinceF (tnI c0) ws p:Nat):Int) - 2,((untilF (tnI c0) ws p:Nat):Int) - 1].map .int)) (dy:=.list ([t.2.1,t.2.2].map .int)) (.lst (.ints [_,_])) (.lst (.ints [_,_])) (shaped_ints _) (shaped_ints _) (by rw [eqv_is,S.lo,S.hi]; exact decide_eq_true rfl) (by lia),.f rfl ?_⟩
      exact ⟨.rf rfl,_,rfl⟩
    · exact .cons (by show some (AV.int t.1) = _; rw [S.e]) (.cons rfl (.cons rfl (((sL.up rfl).up rfl).up rfl)))
  · obtain ⟨sL,c,rfl⟩:=I
    exact (h c).weak sL
end
end
section
open PySem PySem.W PyProof.Rows PySem.Calls PySem.SeqAt
section
variable {X:Amb} {D:Nat} {sc:Names} {cq:Value × Str} {L:Lc} {m m1 m2 m3 m4:Mem} {P:RP}
private theorem WSF.or4 {a b c:Expr} {x:Str} {F:Fd} {q:Str} {cl:List (Str × Addr)} {dv:Value} {ad:Addr} {p pos p1 p2 p3:Pos} {es:List Expr} {avs:List AV} {R:AV→Mem→Prop} {body:List Stmt} (ha:PT X D sc a L m false m1) (hb:PT X D sc b L m1 false m2) (hc:PT X D sc c L m2 false m3) (ho:CallP X D (opF ad) m4 avs R) (hg:Glo X.B x (.ref ad)) (hF:FnAt X.B F q cl dv ad) (hes:PA X D sc es L m3 avs m4) (hx:sc.lookup x = some .globalImplicit)
    (hR:∀ r m',R r m'→r = .bool true∧P .next L m'):WSF X D sc cq (.If (.BoolOp .Or [a,b,c,.UnaryOp .Not (.Call (.Name x p) es [] pos) p1] p2) body [] p3) L m P:=fun env own A c l T N Q E k =>
  wpAny_If (isTrue_or (ha.go T fun d1 l1 F1=>isTrue_or (hb.go (T.on F1) fun d2 l2 F2=>isTrue_or (hc.go (T.on F2) fun d3 l3 F3=>isTrue_or (isTrue_not (wpAny_isTrue_value (CallP.go ho hg hF hes hx (T.on F3) (N.s (((l1.tr l2).tr l3).s l)) fun v d4 r m' hr l4 F4 rv=>by
    obtain ⟨rfl,hp⟩:=hR r m' hr
    rw [rv.i_bool]
    have F5:FS X env sc own (tk d4 d4.s.toks) m' L:=F4
    exact wpAny_truthy_bool (isTrue_or_nil (wpAny_execs_nil (k _ d4 .next _ _ ⟨(((l1.tr l2).tr l3).s l).tr l4,F4,.next,hp⟩)))) (by rfl)))))))
end
section
variable {X:Amb} {D:Nat} {M:Mem} {c0 c1 c2 c3 c4 c5 c6 c7:Nat} {P:RP} {cs:List Nat} {ln:Int} {ws:List Int} {T R:Tr}
noncomputable abbrev hoL13 (c0 c1 c2 c3 c4 c5 c6 c7 k:Nat) (T R:Tr):Lc:=bd "odd" (.lst [.bool true,.bool true]) (hoL10 c0 c1 c2 c3 c4 c5 c6 c7 k T R)
private theorem ho13 (kn:KnM X) (hD:30≤D∧D≤480) (hR:rowC c0 = rowT R) (hRs:R.sz = cn c0) {m:Mem} (h:WF X (D + 1) hoSk hoCq (hoB.drop 14) (hoL13 c0 c1 c2 c3 c4 c5 c6 c7 M.length T R) m P):WF X (D + 1) hoSk hoCq (hoB.drop 13) (hoL10 c0 c1 c2 c3 c4 c5 c6 c7 M.length T R) m P:=by
  have hn:=cn_le c0
  have hD4:4≤D + 1:=by exact dE hD.1 rfl
  have K:=secOf (sz456 hRs)
  have rl:=rowT_len R
  have ro:okS (rowT R):=fun c hc=>by
    rcases enc_par R c (by rw [← rowT_snoc]; exact List.mem_append_left _ hc) with h | h <;> (rw [h]; decide)
  refine WF.app (pre:=(hoB.drop 13).take 1) (rest:=hoB.drop 14) ?_
  rw [← hR] at rl ro
  have k1:=K.odd1
  have k2:=K.odd2
  rw [← hR] at k1 k2
  refine W.mapA (G:=⟨X,D + 1,hoSk,[]⟩) (xs:=[sl none (some (-1)) (rowC c0),sl (some 1) none (rowC c0)++sl none (some 1) (rowC c0)]) (f:=.str) (av:=.tup [.str (sl none (some (-1)) (rowC c0)),.str (sl (some 1) none (rowC c0)++sl none (some 1) (rowC c0))]) (m1:=m) (b:=true) hD4 (by rfl) (fun zz zz=>rfl) ⟨.neg,.str (by lia),.str (by lia),.str (by lia),.addS (by have:=sl_len (l:=some 1) (u:=none) (rowC c0); have:=sl_len (l:=none) (u:=some 1) (rowC c0); lia),.mk⟩ (.tup' rfl) (by show 2≤2 ^ 23; decide) (fun x=>.bool (checkF x == false)) (fun x hx=>?_) (by rfl) rfl ?_
  · have hx2:x.length≤1000∧okS x:=by
      rcases List.mem_cons.mp hx with rfl | hx
      · exact ⟨Nat.le_trans (sl_len _) (by lia),fun c hc=>ro c (sl_mem hc)⟩
      · rw [List.mem_singleton.mp hx]
        refine ⟨?_,okS_app (fun c hc=>ro c (sl_mem hc)) fun c hc=>ro c (sl_mem hc)⟩
        have:=sl_len (l:=some 1) (u:=none) (rowC c0); have:=sl_len (l:=none) (u:=some 1) (rowC c0)
        rw [List.length_append]; lia
    exact ⟨_,.name rfl,⟨op_check kn.toKn (by lia) hx2.1 hx2.2,.isB,.mk⟩⟩
  · have e1:sl none (some (-1)) (rowC c0) = (rowC c0).dropLast:=sl_dropLast _
    have e2:sl (some 1) none (rowC c0)++sl none (some 1) (rowC c0) = (rowC c0).drop 1++(rowC c0).take 1:=congr (congrArg _ (sl_drop _ 1)) (sl_take _ 1)
    show WF X (D + 1) hoSk hoCq (hoB.drop 14) (bd "odd" (.lst [.bool (checkF (sl none (some (-1)) (rowC c0)) == false),.bool (checkF (sl (some 1) none (rowC c0)++sl none (some 1) (rowC c0)) == false)]) (hoL10 c0 c1 c2 c3 c4 c5 c6 c7 M.length T R)) m P
    rw [e1,e2,k1,k2]
    exact h
end
end
section
open PySem PySem.W PyProof.Rows PySem.Calls PySem.SeqAt
private theorem shapedZ (i:Int):shaped (.list [pyS [122],pyS [],pyS [],.int i]) = true:=by
  show (PyData.canLay0 (.list _) && _) = true
  simp [PyData.canLay0,PyData.canLayAll0,PyData.strOk,PyData.depth,PyData.depthAll,pyS]
section
variable {X:Amb} {D:Nat} {M:Mem} {c0 c1 c2 c3 c4 c5 c6 c7:Nat} {P:RP} {cs:List Nat} {ln:Int} {ws:List Int} {T R:Tr}
private theorem ho14 (kn:KnM X) (hD:30≤D∧D≤480) (hw:ws.length = cn c0) (hR:rowC c0 = rowT R) (hRs:R.sz = cn c0) {cits:Mem} (h:∀ C,WF X (D + 1) hoSk hoCq (hoB.drop 15) (hoL13 c0 c1 c2 c3 c4 c5 c6 c7 M.length T R) (lxS M cs ln C) P):WF X (D + 1) hoSk hoCq (hoB.drop 14) (hoL13 c0 c1 c2 c3 c4 c5 c6 c7 M.length T R) (mem9 M cs ln ws cits) P:=by
  have hn:=cn_le c0
  have hD4:4≤D + 1:=by exact dE hD.1 rfl
  have K:=secOf (sz456 hRs)
  have hz:=ioF_len R 0
  have pl:(ptI R).length = cn c0:=by unfold ptI; rw [List.length_map,hz,hRs]
  have rl:=rowT_len R
  have ro:okS (rowT R):=fun c hc=>by
    rcases enc_par R c (by rw [← rowT_snoc]; exact List.mem_append_left _ hc) with h | h <;> (rw [h]; decide)
  have o1:=op_point (X:=X) (D:=D) (m:=mem9 M cs ln ws cits) kn.toKn (by lia) (ts:=ioF R 0) (by lia) fun t ht=>Nat.lt_trans (K.nat t ht) (by decide)
  have o2:=op_back (X:=X) kn.toKn 7 (D:=D) (by lia) (pt:=ptI R) (by lia) (by lia) (m:=mem9 M cs ln ws cits)
  rw [K.back,← hR] at o2
  rw [← hR] at rl ro
  have o3:=op_refused (X:=X) (D:=D) (m:=mem9 M cs ln ws cits) (i:=M.length + 3) (ns:=ws) kn (by lia) (by lia) (lxS_get 3)
  obtain ⟨o,doc,pm,ct,hf⟩:=kn.f_refused.f
  refine .seq (WSF.or4 (m1:=mem9 M cs ln ws cits) (m2:=mem9 M cs ln ws cits) (m3:=mem9 M cs ln ws cits) ?_ ?_ ?_ o3 kn.f_refused.g ⟨o,doc,pm,_,ct,hf⟩ (.cons (fun zz=>rfl) (.var rfl) .nil) (by rfl) fun r m' q=>⟨q.1,?_⟩)
  · exact .wp (G:=⟨X,D + 1,hoSk,[]⟩) (k:=40) hD4 ⟨.ne (b:=true) (dx:=.list [.bool true,.bool true]) (dy:=.list [.bool true,.bool true]) (.lst (.cons .bool (.cons .bool .nil))) (.lst (.cons .bool (.cons .bool .nil))) rfl rfl (by simp [PyData.eqv,PyData.eqvAll]) hD4,.mk⟩
  · exact .wp (G:=⟨X,D + 1,hoSk,[]⟩) (k:=40) hD4 ⟨o1,.ne (b:=true) (.lst (.ints _)) (.lst (.ints _)) (shaped_ints _) (shaped_ints _) (eqv_is.trans (decide_eq_true rfl)) hD4,.mk⟩
  · exact .wp (G:=⟨X,D + 1,hoSk,[]⟩) (k:=40) hD4 ⟨o2,.ne (b:=true) .str .str (shaped_str ro) (shaped_str ro) (eqv_s.trans (decide_eq_true rfl)) hD4,.mk⟩
  · have e:m' = lxS M cs ln (.lst (ws.map .int) :: cits++[.lst (toldAV.take 3)]++[.lst (ws.map .int)]):=by
      rw [q.2]
      unfold refM
      rw [lxS_sn,lxS_sn]
    rw [e]
    exact h _
private theorem ho15 (kn:KnM X) (hD:30≤D∧D≤480) (h1:okS cs) (h2:cs.length≤100000) {b:Bool} (ht:tokF cs = ([122],[],b)) {C:Mem} {f:List Nat} (hf:fl8 c0 c1 c2 c3 c7 = f) (hln:ln + (cs.count 10:Nat) = 1 + (f.count 10:Nat)) (h:∀ L m,P (.ret (.bool true)) L m):W X (D + 1) hoSk (hoB.drop 15) (hoL13 c0 c1 c2 c3 c4 c5 c6 c7 M.length T R) (lxS M cs ln C) P:=by
  have hD4:4≤D + 1:=by exact dE hD.1 rfl
  obtain ⟨mN,cl,lx⟩:=kn.cls
  obtain ⟨x1,t1⟩:=lxS_tok (X:=X) (D:=D) (M:=M) (cits:=C) (ln:=ln) kn.toKnL (by lia) h1 h2
  rw [ht,hln] at t1
  have hz:(1:Int) + (f.count 10:Nat) - ((([]:List Nat).count 10:Nat):Int) = 1 + (f.count 10:Nat):=Int.sub_zero _
  have hz2:(1:Int) + (f.count 10:Nat) + ((([]:List Nat).count 10:Nat):Int) - ((([]:List Nat).count 10:Nat):Int) = 1 + (f.count 10:Nat):=by rw [Int.add_sub_cancel]
  have e0:tokF [] = ([],[],true):=rfl
  obtain ⟨x2,t2⟩:=lxS_tok (X:=X) (D:=D) (M:=M) (cs:=[]) (cits:=C++[x1]) (ln:=1 + (f.count 10:Nat)) kn.toKnL (by lia) okS_nil (by decide)
  obtain ⟨x3,t3⟩:=lxS_tok (X:=X) (D:=D) (M:=M) (cs:=[]) (cits:=C++[x1]++[x2]) (ln:=1 + (f.count 10:Nat)) kn.toKnL (by lia) okS_nil (by decide)
  rw [e0] at t2 t3
  dsimp only at t1 t2 t3
  rw [hz] at t1
  rw [hz2] at t2 t3
  have hns:=lxS_get (M:=M) (cs:=[]) (ln:=1 + (f.count 10:Nat)) (cits:=C++[x1]++[x2]++[x3]) 1
  subst hf
  refine wpS_ok (G:=⟨X,D + 1,hoSk,[]⟩) (k:=40) (n:=40) hD4 ⟨t1,t2,t3,.mk (.attr cl lx.lineno lo_lineno (.var rfl) hns rfl trivial fun zz=>rfl) ⟨.count,.eq (b:=true) (dx:=.list [pyS [122],pyS [],pyS [],.int (1 + ((fl8 c0 c1 c2 c3 c7).count 10:Nat))]) (dy:=.list [pyS [122],pyS [],pyS [],.int (1 + ((fl8 c0 c1 c2 c3 c7).count 10:Nat))]) (.lst (.cons .str (.cons .str (.cons .str (.cons .int .nil))))) (.lst (.cons .str (.cons .str (.cons .str (.cons .int .nil))))) (shapedZ _) (shapedZ _) (by simp [PyData.eqv,PyData.eqvAll,pyS]) hD4,h _ _⟩⟩
end
end
section
open PySem PySem.W PyProof.Rows PySem.Calls PySem.SeqAt
structure LawOk (c0 c1 c2 c3 c4 c5:Nat) (T R:Tr):Prop where
  row:nestF (tnI c0) (wsF (cn c0) c1 c2 c3 c4 c5) = rowT T
  sz:T.sz = cn c0
  row2:rowC c0 = rowT R
  sz2:R.sz = cn c0
  due:∀ o w,o≤w→w < cn c0→DueAt (tnI c0) (wsF (cn c0) c1 c2 c3 c4 c5) T o w
  srch:∀ t∈ioF T 0,∃ p,SrchAt (tnI c0) (wsF (cn c0) c1 c2 c3 c4 c5) t p
section
variable {X:Amb} {D:Nat} {m:Mem} {c0 c1 c2 c3 c4 c5 c6 c7:Nat} {T R:Tr}
private theorem fl8_len:(fl8 c0 c1 c2 c3 c7).length≤2 ^ 23:=by
  have:=parts_len (c1:=c1) (c2:=c2) (c3:=c3) (c7:=c7) (cn_le c0).2
  unfold fl8 fileF
  rw [List.length_append,List.length_flatten]
  show _ + 1≤_
  lia
private theorem ho_body (kn:KnM X) (hD:40≤D∧D≤470) (H:LawOk c0 c1 c2 c3 c4 c5 T R):WF X (D + 3) hoSc hoCq hoB (bd "cells" (.lst (cellsL c0 c1 c2 c3 c4 c5 c6 c7)) []) m (Ret fun r zz=>r = .bool true):=by
  have hn:=cn_le c0
  have hwl:=ws_len (n:=cn c0) (c1:=c1) (c2:=c2) (c3:=c3) (c4:=c4) (c5:=c5)
  refine WF.app (pre:=hoB.take 5) (rest:=hoB.drop 5) (ho0 (by lia) (ho1 (by lia) (ho2 kn.toKn (by lia) (ho3 kn.toKn (by lia) (ho4 (D:=D + 2) kn.toKn (by lia) ?_)))))
  refine ho56 kn (by lia) (t:=fl8 c0 c1 c2 c3 c7) fl8_len rfl fun M' le=>?_
  have kn':=kn.over le
  have ro:=rest_ok (c1:=c1) (c2:=c2) (c3:=c3) (c7:=c7) hn.2 (Nat.le_refl (cn c0))
  refine WF.app (pre:=(hoB.take 12).drop 7) (rest:=hoB.drop 12) (ho7 kn' (by lia) (ho8 (D:=D + 2) kn' (by lia) fun cits=>?_))
  have et:(wsF (cn c0) c1 c2 c3 c4 c5).take (cn c0) = wsF (cn c0) c1 c2 c3 c4 c5:=List.take_of_length_le (by rw [hwl]; exact Nat.le_refl _)
  have em:mem8 c0 c1 c2 c3 c4 c5 c7 m (cn c0) cits = mem9 m (restF (fl8 c0 c1 c2 c3 c7) (cn c0)) (1 + ((fl8 c0 c1 c2 c3 c7).count 10:Nat) - ((restF (fl8 c0 c1 c2 c3 c7) (cn c0)).count 10:Nat)) (wsF (cn c0) c1 c2 c3 c4 c5) cits:=by
    unfold mem8 mem9; rw [et]
  rw [em]
  obtain ⟨b,hb⟩:=rest_end (c7:=c7) (W:=wdsL (cn c0) c1 c2 c3) (n:=cn c0) wds_13
  refine ho9 (D:=D + 2) kn' (by lia) ro.1 ro.2 hwl H.row H.sz H.row2 H.sz2 (ho10 (D:=D + 2) kn' (by lia) H.sz2 ?_)
  refine ho11 (D:=D + 2) kn' (by lia) hwl H.sz2 H.sz H.due ?_
  refine ho12 (D:=D) kn' (by lia) hwl H.srch fun cits=>?_
  refine ho13 (D:=D + 2) kn' (by lia) H.row2 H.sz2 (ho14 (D:=D + 2) kn' (by lia) hwl H.row2 H.sz2 fun C=>W.p ?_)
  exact ho15 (D:=D + 2) kn' (by lia) ro.1 ro.2 hb rfl (by lia) fun L m=>rfl
private theorem op_holds (kn:KnM X) (hD:43≤D∧D≤470) (H:LawOk c0 c1 c2 c3 c4 c5 T R):CallP X (D + 1) (opF 194) m [.lst (cellsL c0 c1 c2 c3 c4 c5 c6 c7)] fun r zz=>r = .bool true:=by
  obtain ⟨D,rfl⟩:∃ d,D = d + 3:=⟨D - 3,by lia⟩
  obtain ⟨o,doc,pm,ct,h⟩:=kn.f_holds.f
  exact h.callP (ps:=["cells"]) kn.lim (fnOk (by rfl)) (fun zz zz zz zz zz=>rfl) rfl (ho_body kn (by lia) H)
end
end
section
open PySem PySem.W PyProof.Rows PySem.Calls PySem.SeqAt
private theorem pick_map {α β:Type} (f:α→β) (lo hi st:Option Int) (xs:List α):pick lo hi st (xs.map f) = (pick lo hi st xs).map f:=by
  unfold pick
  rw [List.length_map,List.map_filterMap]
  exact congrArg (fun z=>List.filterMap z _) (funext fun i=>List.getElem?_map ..)
private theorem pick8 {α:Type} (k:Nat) (xs:List α) (hn:xs.length≤60):(pick (some (k:Int)) none (some 8) xs).length≤8:=by
  refine Nat.le_trans (List.length_filterMap_le _ _) ?_
  unfold sliceBounds sliceRange
  rw [List.length_map,List.length_range]
  simp only [Option.getD_some]
  split
  · split <;> split <;> lia
  · rename_i h; exact absurd (by decide) h
private theorem sl60 {α:Type} (xs:List α):(sl none (some 60) xs).length≤60:=by
  exact Nat.le_trans (Nat.le_of_eq (congrArg List.length (sl_take xs 60))) (List.length_take_le 60 xs)
noncomputable def addL (ns:List Int) (k:Nat):List Int:=pick (some (k:Int)) none (some 8) (sl none (some 60) ns)
noncomputable def addN (ns:List Int) (k:Nat):Nat:=((addL ns k).map fun n=>(n.fmod 1000003).toNat).sum
private theorem addL_len (ns:List Int) (k:Nat):(addL ns k).length≤8:=pick8 k _ (sl60 ns)
private theorem addN_sum (ns:List Int) (k:Nat):((addL ns k).map fun n=>n.fmod 1000003).sum = (addN ns k:Nat):=by
  unfold addN
  generalize addL ns k = L
  induction L with
  | nil=>rfl
  | cons n L ih =>
    have:=Int.fmod_nonneg_of_pos n (show (0:Int) < 1000003 by decide)
    rw [List.map_cons,List.sum_cons,List.map_cons,List.sum_cons,ih]
    (clear this; lia)
noncomputable def base8:List Nat:=[685,102446,21,67,10,4,6,391686]
private theorem base_at {k:Nat} (h:k < 8):(base8.map fun (b:Nat)=>AV.int b)[k]? = some (.int (base8.getD k 0:Nat)):=by
  have h:k < base8.length:=h
  rw [List.getElem?_map,List.getD_eq_getElem?_getD,List.getElem?_eq_getElem h]; rfl
section
variable {X:Amb} {D:Nat} {m:Mem} {ns:List Int}
private theorem FnAt.callP {F:Fd} {a:Addr} {ps:List Str} {avs:List AV} {R:AV→Mem→Prop} (h:FnAt X.B F F.name [] .none a) (lim:NoLim X.B) (ok:FnOk ps F.scope) (hbind:∀ doc pm cd ct,BindN (fnXD F F.name [] .none doc pm cd ct) ps [] []) (hl:avs.length = ps.length) (hb:∀ cq,WF X D F.scope.names cq F.body (ps.zip avs) m (Ret R)):CallP X (D + 1) (opF a) m avs R:=by
  obtain ⟨o,doc,pm,cd,ct,h⟩:=h
  exact h.callP lim ok hbind hl (hb _)
private theorem law_body (kn:KnM X) (hD4:4≤D) {cq:Value × Str} (hn:ns.length≤63) (oh:CallP X D (opF 194) m [.lst ((List.range 8).map fun k=>.int (base8.getD k 0 + addN ns k:Nat))] fun r zz=>r = .bool true):WF X D (fdAt prog1 27).scope.names cq (fdAt prog1 27).body ((["script"]:List Str).zip [.lst (ns.map .int)]) m (Ret fun r zz=>r = .bool true):=by
  obtain ⟨o1,doc1,pm1,ct1,h1⟩:=kn.f_holds.f
  rw [← List.take_append_drop 1 (fdAt prog1 27).body]
  refine WF.app (wpS_ok (G:=⟨X,D,(fdAt prog1 27).scope.names,[]⟩) (n:=40) (k:=40) hD4 ?_)
  have ev:OkE ⟨X,D,(fdAt prog1 27).scope.names,[]⟩ (match (fdAt prog1 27).body[1]? with
      | some (Stmt.Return (some (PySem.Expr.Call _ (e :: _) _ _)) _)=>e
      | _=>.Constant .none 0 default) (bd "cells" (.lst (base8.map fun (b:Nat)=>AV.int b)) (bd "script" (.lst (ns.map .int)) [])) m (IsV (.lst ((List.range 8).map fun k=>.int (base8.getD k 0 + addN ns k:Nat))) m):=by
    refine OkE.map (G:=⟨X,D,(fdAt prog1 27).scope.names,[]⟩) (xs:=List.range 8) (f:=fun (i:Nat)=>.int i) (av:=.rng 0 ((8:Nat):Int)) (m1:=m) hD4 (by rfl) (fun zz zz=>rfl) ⟨.t (kn.bu "range" _ rfl) .range,.mk⟩ (.rng' (by decide)) (by decide) (fun k=>.int (base8.getD k 0 + addN ns k:Nat)) (fun k hk=>⟨_,.name rfl,?_⟩) .mk
    have hk:k < 8:=List.mem_range.mp hk
    have e1:pick (some (k:Int)) none (some 8) (sl none (some 60) (ns.map AV.int)) = (addL ns k).map .int:=by rw [sl_map,pick_map]; rfl
    have hl:=sl60 (ns.map AV.int)
    have hl2:=addL_len ns k
    have es:Call X D (opB "sum") m [.lst ((addL ns k).map fun n=>.int (n.fmod 1000003))] (.int (addN ns k:Nat)) m:=by
      have:=Call.sum (X:=X) (D:=D) (m:=m) (ns:=(addL ns k).map fun n=>n.fmod 1000003)
      rw [addN_sum,List.map_map] at this; exact this
    refine ⟨.lst (Int.natCast_nonneg _) (by lia) (base_at hk),?_⟩
    refine OkE.map (G:=⟨X,D,relN _ _,_⟩) (xs:=addL ns k) (f:=.int) (av:=.lst (pick (some (k:Int)) none (some 8) (sl none (some 60) (ns.map AV.int)))) (m1:=m) hD4 (by rfl) (fun zz zz=>rfl) ⟨.lst (by rw [List.length_map]; lia),.pL (by lia) (by decide),.mk⟩ (.lst' e1) (by lia) (fun n=>.int (n.fmod 1000003)) (fun n hn=>⟨_,.name rfl,.mod (by decide),.mk⟩) ⟨.b (kn.bu "sum" _ rfl) es,.mk⟩
  obtain ⟨v,m',he,hv⟩:=ev
  cases hv
  refine WF.seq fun env own A c l T N Q E k=>wpAny_Return_some (CallP.go oh kn.f_holds.g ⟨o1,doc1,pm1,_,ct1,h1⟩ (.cons (fun zz=>rfl) he .nil) (by rfl) T N fun v d r m' hr l F rv=>k _ d (.ret r) [] m' ⟨l,F.S,.ret rv,hr⟩)
private theorem op_law (kn:KnM X) (hf:FnG X (fdAt prog1 27) 199) (hD:65≤D∧D≤460) (hn:ns.length≤63) (H:∀ c0 c1 c2 c3 c4 c5,∃ T R,LawOk c0 c1 c2 c3 c4 c5 T R):CallP X (D + 1) (opF 199) m [.lst (ns.map .int)] fun r zz=>r = .bool true:=by
  have hD4:4≤D:=by lia
  obtain ⟨T,R,HL⟩:=H (685 + addN ns 0) (102446 + addN ns 1) (21 + addN ns 2) (67 + addN ns 3) (10 + addN ns 4) (4 + addN ns 5)
  have oh:CallP X D (opF 194) m [.lst ((List.range 8).map fun k=>.int (base8.getD k 0 + addN ns k:Nat))] fun r zz=>r = .bool true:=by
    obtain ⟨D,rfl⟩:∃ d,D = d + 1:=⟨D - 1,by lia⟩
    have:=op_holds (X:=X) (D:=D) (m:=m) (c0:=685 + addN ns 0) (c1:=102446 + addN ns 1) (c2:=21 + addN ns 2) (c3:=67 + addN ns 3) (c4:=10 + addN ns 4) (c5:=4 + addN ns 5) (c6:=6 + addN ns 6) (c7:=391686 + addN ns 7) kn (by lia) HL
    exact this
  have q:=fun cq=>law_body (cq:=cq) kn hD4 hn oh
  have ok:FnOk ["script"] (fdAt prog1 27).scope:=fnOk (by rfl)
  have hbd:∀ doc pm cd ct,BindN (fnXD (fdAt prog1 27) (fdAt prog1 27).name [] .none doc pm cd ct) ["script"] [] []:=fun zz zz zz zz zz=>rfl
  clear HL
  generalize fdAt prog1 27 = F at hf q ok hbd
  exact hf.f.callP (F:=F) (ps:=["script"]) (R:=fun r zz=>r = .bool true) kn.lim ok hbd rfl q
end
end
section
private theorem halfB {lo hi n:Nat} (h:lo < hi) (hn:hi - lo < 2 ^ (n + 1)):lo≤(lo + hi) / 2∧(lo + hi) / 2 < hi∧(lo + hi) / 2 - lo < 2 ^ n∧hi - ((lo + hi) / 2 + 1) < 2 ^ n:=by
  rw [Nat.pow_succ] at hn
  lia
private theorem bisGo_find (p:Nat→Bool) (c:Nat):∀ n lo hi,hi - lo < 2 ^ n→lo≤c→c≤hi→(∀ i,lo≤i→i < hi→p i = decide (c≤i))→bisGo p n lo hi = c
  | 0,lo,hi,h,h1,h2,_=>Nat.le_antisymm h1 (Nat.le_trans h2 (Nat.le_of_sub_eq_zero (Nat.lt_one_iff.mp h)))
  | n + 1,lo,hi,h,h1,h2,h3=>by
    unfold bisGo
    by_cases hlt:lo < hi
    · obtain ⟨q1,q2,q3,q4⟩:=halfB hlt h
      rw [if_pos hlt,h3 _ q1 q2]
      by_cases hc:c≤(lo + hi) / 2
      · rw [if_pos (decide_eq_true hc)]
        exact bisGo_find p c n _ _ q3 h1 hc fun i a b=>h3 i a (Nat.lt_trans b q2)
      · rw [if_neg fun e=>hc (of_decide_eq_true e)]
        exact bisGo_find p c n _ _ q4 (Nat.not_le.mp hc) h2 fun i a b=>h3 i (Nat.le_trans q1 (Nat.le_of_succ_le a)) b
    · rw [if_neg hlt]; exact Nat.le_antisymm h1 (Nat.le_trans h2 (Nat.not_lt.mp hlt))
private theorem mono_cut (p:Nat→Bool):∀ n,(∀ i j,i≤j→j < n→p i = true→p j = true)→∃ c,c≤n∧∀ i,i < n→p i = decide (c≤i)
  | 0,_=>⟨0,Nat.le_refl _,fun i h=>absurd h (Nat.not_lt_zero i)⟩
  | n + 1,h=>by
    obtain ⟨c,h1,h2⟩:=mono_cut p n fun i j a b=>h i j a (Nat.lt_succ_of_lt b)
    by_cases hc:c < n
    · refine ⟨c,Nat.le_succ_of_le h1,fun i hi=>?_⟩
      rcases Nat.lt_succ_iff_lt_or_eq.mp hi with q | rfl
      · exact h2 i q
      · rw [decide_eq_true h1]
        exact h c i h1 hi (by rw [h2 c hc,decide_eq_true (Nat.le_refl c)])
    · have e:c = n:=Nat.le_antisymm h1 (Nat.not_lt.mp hc)
      subst e
      cases hp:p c with
      | true=>exact ⟨c,Nat.le_succ _,fun i hi=>by
          rcases Nat.lt_succ_iff_lt_or_eq.mp hi with q | rfl
          · exact h2 i q
          · rw [hp,decide_eq_true (Nat.le_refl _)]⟩
      | false=>exact ⟨c + 1,Nat.le_refl _,fun i hi=>by
          rcases Nat.lt_succ_iff_lt_or_eq.mp hi with q | rfl
          · rw [h2 i q,decide_eq_false (by lia),decide_eq_false (by lia)]
          · rw [hp,decide_eq_false (by lia)]⟩
section
variable {f:Nat→Int} {t:Int}
noncomputable def Heap (f:Nat→Int) (t:Int):Tr→Nat→Prop
  | .leaf,_=>True
  | .node l r,a=>Heap f t l a∧Heap f t r (a + l.sz + 1)∧(∀ i,a≤i→i < a + l.sz→f (a + l.sz) - t < f i)∧∀ i,a + l.sz < i→i < a + l.sz + 1 + r.sz→f (a + l.sz) + t≤f i
noncomputable def spT:List Tr→Tr
  | []=>.leaf
  | l :: ls=>.node l (spT ls)
noncomputable def shW (f:Nat→Int):List Tr→Nat→List Int
  | [],_=>[]
  | l :: ls,a=>f (a + l.sz) :: shW f ls (a + l.sz + 1)
private theorem row_spT:∀ ls:List Tr,rowT (spT ls) = joinF (ls.map rowT)
  | []=>rfl
  | l :: ls=>by
    have ih:=row_spT ls
    rw [joinF_eq] at ih ⊢
    rw [List.map_cons,List.foldr_cons,← ih]
    show rowT (.node l (spT ls)) = _
    rw [rowT_node]
    unfold joinS
    simp
private theorem sz_push:∀ (ls:List Tr) (c:Nat),(spT (ls.take c++[spT (ls.drop c)])).sz = (spT ls).sz + 1
  | ls,0=>rfl
  | [],_ + 1=>rfl
  | l :: ls,c + 1=>by
    have ih:=sz_push ls c
    show l.sz + (spT (ls.take c++[spT (ls.drop c)])).sz + 1 = l.sz + (spT ls).sz + 1 + 1
    rw [ih]; lia
private theorem sh_len:∀ (ls:List Tr) (a:Nat),(shW f ls a).length = ls.length
  | [],_=>rfl
  | l :: ls,a=>congrArg (· + 1) (sh_len ls _)
private theorem sh_push:∀ (ls:List Tr) (c a:Nat),shW f (ls.take c++[spT (ls.drop c)]) a = (shW f ls a).take c++[f (a + (spT ls).sz)]
  | ls,0,a=>rfl
  | [],_ + 1,a=>rfl
  | l :: ls,c + 1,a=>by
    have ih:=sh_push ls c (a + l.sz + 1)
    show f (a + l.sz) :: shW f (ls.take c++[spT (ls.drop c)]) (a + l.sz + 1) = f (a + l.sz) :: ((shW f ls (a + l.sz + 1)).take c++[f (a + (l.sz + (spT ls).sz + 1))])
    rw [ih,show a + l.sz + 1 + (spT ls).sz = a + (l.sz + (spT ls).sz + 1) by lia]
private theorem sh_mem:∀ (ls:List Tr) (a:Nat),∀ x∈shW f ls a,∃ i,a≤i∧i < a + (spT ls).sz∧x = f i
  | l :: ls,a,x,h=>by
    have hs:(spT (l :: ls)).sz = l.sz + (spT ls).sz + 1:=rfl
    rcases List.mem_cons.mp h with rfl | h
    · exact ⟨a + l.sz,Nat.le_add_right _ _,by lia,rfl⟩
    · obtain ⟨i,h1,h2,h3⟩:=sh_mem ls _ x h
      exact ⟨i,by lia,by lia,h3⟩
private theorem sh_mono (ht:0≤t):∀ (ls:List Tr) (a:Nat),Heap f t (spT ls) a→∀ i j,i≤j→j < ls.length→(shW f ls a).getD i 0≤(shW f ls a).getD j 0
  | l :: ls,a,H,i,j,hij,hj=>by
    obtain ⟨_,h2,_,h4⟩:=H
    cases i with
    | zero =>
      cases j with
      | zero=>exact Int.le_refl _
      | succ j =>
        have hj':j < ls.length:=Nat.lt_of_succ_lt_succ hj
        have hm:(shW f ls (a + l.sz + 1)).getD j 0∈shW f ls (a + l.sz + 1):=by
          rw [List.getD_eq_getElem?_getD,List.getElem?_eq_getElem (by rw [sh_len]; exact hj')]; exact List.getElem_mem _
        obtain ⟨k,k1,k2,k3⟩:=sh_mem ls _ _ hm
        have:=h4 k (by lia) (by lia)
        show f (a + l.sz)≤(shW f ls (a + l.sz + 1)).getD j 0
        rw [k3]; lia
    | succ i =>
      cases j with
      | zero=>exact absurd hij (Nat.not_succ_le_zero i)
      | succ j=>exact sh_mono ht ls _ h2 i j (Nat.le_of_succ_le_succ hij) (Nat.lt_of_succ_lt_succ hj)
private theorem push_heap (ht:0≤t∧t≤1):∀ (ls:List Tr) (c a e:Nat),Heap f t (spT ls) a→e = a + (spT ls).sz→(∀ i,i < c→i < ls.length→(shW f ls a).getD i 0 + t≤f e)→(∀ i,c≤i→i < ls.length→f e < (shW f ls a).getD i 0 + t)→Heap f t (spT (ls.take c++[spT (ls.drop c)])) a
  | [],0,a,e,_,_,_,_=>⟨trivial,trivial,fun i h1 h2=>absurd h2 (Nat.not_lt.mpr h1),fun i h1 h2=>by have h2:i < a + 0 + 1 + 0:=h2; have h1:a + 0 < i:=h1; lia⟩
  | l :: ls,0,a,e,H,he,_,h2=>by
    obtain ⟨g1,g2,g3,g4⟩:=id H
    have h0:=h2 0 (Nat.le_refl _) (Nat.succ_pos _)
    have h0:f e < f (a + l.sz) + t:=h0
    have hs:(spT (l :: ls)).sz = l.sz + (spT ls).sz + 1:=rfl
    refine ⟨H,trivial,fun i q1 q2=>?_,fun i q1 q2=>?_⟩
    · have q2:i < a + (spT (l :: ls)).sz:=q2
      show f (a + (spT (l :: ls)).sz) - t < f i
      rw [← he]
      rcases Nat.lt_trichotomy i (a + l.sz) with q | q | q
      · have:=g3 i q1 q; lia
      · subst q; lia
      · have:=g4 i q (by lia); lia
    · have q2:i < a + (spT (l :: ls)).sz + 1 + 0:=q2
      have q1:a + (spT (l :: ls)).sz < i:=q1
      lia
  | [],_ + 1,a,e,_,_,_,_=>⟨trivial,trivial,fun i h1 h2=>absurd h2 (Nat.not_lt.mpr h1),fun i h1 h2=>by have h2:i < a + 0 + 1 + 0:=h2; have h1:a + 0 < i:=h1; lia⟩
  | l :: ls,c + 1,a,e,H,he,h1,h2=>by
    obtain ⟨g1,g2,g3,g4⟩:=H
    have hs:(spT (l :: ls)).sz = l.sz + (spT ls).sz + 1:=rfl
    have he':e = a + l.sz + 1 + (spT ls).sz:=by lia
    have ih:=push_heap ht ls c (a + l.sz + 1) e g2 he' (fun i q1 q2=>h1 (i + 1) (Nat.succ_lt_succ q1) (Nat.succ_lt_succ q2)) fun i q1 q2=>h2 (i + 1) (Nat.succ_le_succ q1) (Nat.succ_lt_succ q2)
    have h0:f (a + l.sz) + t≤f e:=h1 0 (Nat.succ_pos _) (Nat.succ_pos _)
    refine ⟨g1,ih,g3,fun i q1 q2=>?_⟩
    have q2:i < a + l.sz + 1 + (spT (ls.take c++[spT (ls.drop c)])).sz:=q2
    rw [sz_push] at q2
    rcases Nat.lt_or_ge i e with q | q
    · exact g4 i q1 (by lia)
    · have:i = e:=by lia
      subst this; exact h0
end
end
section
section
variable {f:Nat→Int} {t:Int}
structure NestI (turn:Int) (ws:List Int) (k:Nat) (Ls:List Tr):Prop where
  s:nestAt turn ws k = (shW (fun i=>ws.getD i 0) Ls 0,Ls.map rowT)
  h:Heap (fun i=>ws.getD i 0) turn (spT Ls) 0
  z:(spT Ls).sz = k
private theorem nest_inv {turn:Int} (ht:turn = 0∨turn = 1) {ws:List Int} (hn:ws.length≤6):∀ k,k≤ws.length→∃ Ls,NestI turn ws k Ls
  | 0,_=>⟨[],rfl,trivial,rfl⟩
  | k + 1,hk=>by
    obtain ⟨Ls,I⟩:=nest_inv ht hn k (Nat.le_of_succ_le hk)
    have hw:ws[k]? = some (ws.getD k 0):=by rw [List.getD_eq_getElem?_getD,List.getElem?_eq_getElem hk]; rfl
    have hl:=sh_len (f:=fun i=>ws.getD i 0) Ls 0
    have hb:=(nestB (turn:=turn) (ws:=ws) k (Nat.le_of_succ_le hk)).a
    rw [I.s] at hb
    have hb:(shW (fun i=>ws.getD i 0) Ls 0).length≤k:=hb
    have ht0:0≤turn∧turn≤1:=by lia
    have mono:=sh_mono ht0.1 Ls 0 I.h
    obtain ⟨c,hc1,hc2⟩:=mono_cut (fun i=>decide (ws.getD k 0 < (shW (fun i=>ws.getD i 0) Ls 0).getD i 0 + turn)) Ls.length fun i j hij hj e=>by
      have:=of_decide_eq_true e
      have:=mono i j hij hj
      exact decide_eq_true (by lia)
    have hcut:cutN turn (shW (fun i=>ws.getD i 0) Ls 0) (ws.getD k 0) = c:=by
      unfold cutN
      rcases ht with rfl | rfl
      · rw [if_pos rfl]
        refine bisGo_find _ c 12 0 _ (by lia) (Nat.zero_le _) (by lia) fun i zz hi=>?_
        have:=hc2 i (by lia)
        rw [Int.add_zero] at this
        exact this
      · rw [if_neg (by decide)]
        refine bisGo_find _ c 12 0 _ (by lia) (Nat.zero_le _) (by lia) fun i zz hi=>?_
        have:=hc2 i (by lia)
        rw [← this,Bool.eq_iff_iff]
        simp
        lia
    refine ⟨Ls.take c++[spT (Ls.drop c)],?_,?_,by rw [sz_push,I.z]⟩
    · rw [nestAt_succ hw,I.s]
      unfold nestS
      dsimp only
      rw [hcut,sl_take,sl_take,sl_drop,sh_push,I.z,Nat.zero_add,List.map_append,List.map_take,List.map_cons,List.map_nil,row_spT,List.map_drop]
    · refine push_heap ht0 Ls c 0 k I.h (by rw [I.z,Nat.zero_add]) (fun i h1 h2=>?_) fun i h1 h2=>?_
      · have:=of_decide_eq_false ((hc2 i h2).trans (decide_eq_false (by lia)))
        lia
      · exact of_decide_eq_true ((hc2 i h2).trans (decide_eq_true h1))
structure NodeOk (f:Nat→Int) (t:Int) (a e:Nat) (x:Tri) (p lo hi:Nat):Prop where
  x:x = ((p:Int),(lo:Int),(hi:Int))
  al:a≤lo
  lp:lo≤p
  ph:p≤hi
  he:hi < e
  l:∀ i,lo≤i→i < p→f p - t < f i
  r:∀ i,p < i→i≤hi→f p + t≤f i
  bl:lo = a∨f (lo - 1) + t≤f p
  br:hi + 1 = e∨f (hi + 1) < f p + t
private theorem node_root {l r:Tr} {a:Nat} (H:Heap f t (.node l r) a):NodeOk f t a (a + (Tr.node l r).sz) (triOf l r a) (a + l.sz) a (a + l.sz + r.sz) :=
  ⟨rfl,Nat.le_refl _,Nat.le_add_right _ _,Nat.le_add_right _ _,by show _ < a + (l.sz + r.sz + 1); lia,fun i h1 h2=>H.2.2.1 i h1 h2,fun i h1 h2=>H.2.2.2 i h1 (by lia),.inl rfl,.inl (by show _ = a + (l.sz + r.sz + 1); lia)⟩
private theorem node_left {l r:Tr} {a:Nat} (H:Heap f t (.node l r) a) {x:Tri} {p lo hi:Nat} (N:NodeOk f t a (a + l.sz) x p lo hi):NodeOk f t a (a + (Tr.node l r).sz) x p lo hi:=by
  have h1:=N.al; have h2:=N.lp; have h3:=N.ph; have h4:=N.he
  refine { N with he:=by show _ < a + (l.sz + r.sz + 1); lia,br:=N.br.elim (fun e=>.inr ?_) .inr }
  rw [e]
  have:=H.2.2.1 p (by lia) (by lia)
  lia
private theorem node_right {l r:Tr} {a:Nat} (H:Heap f t (.node l r) a) {x:Tri} {p lo hi:Nat} (N:NodeOk f t (a + l.sz + 1) (a + l.sz + 1 + r.sz) x p lo hi):NodeOk f t a (a + (Tr.node l r).sz) x p lo hi:=by
  have h1:=N.al; have h2:=N.lp; have h3:=N.ph; have h4:=N.he
  have e:a + (Tr.node l r).sz = a + l.sz + 1 + r.sz:=by show a + (l.sz + r.sz + 1) = _; lia
  rw [e]
  refine { N with al:=by lia,bl:=N.bl.elim (fun q=>.inr ?_) .inr }
  rw [q,Nat.add_sub_cancel]
  exact H.2.2.2 p (by lia) (by lia)
private theorem nodes_ok:∀ (T:Tr) (a:Nat),Heap f t T a→∀ x∈ioF T a,∃ p lo hi,NodeOk f t a (a + T.sz) x p lo hi
  | .node l r,a,H,x,hx=>by
    rcases List.mem_append.mp hx with hx | hx
    · obtain ⟨p,lo,hi,N⟩:=nodes_ok l a H.1 x hx
      exact ⟨p,lo,hi,node_left H N⟩
    · rcases List.mem_cons.mp hx with rfl | hx
      · exact ⟨_,_,_,node_root H⟩
      · obtain ⟨p,lo,hi,N⟩:=nodes_ok r _ H.2.1 x hx
        exact ⟨p,lo,hi,node_right H N⟩
private theorem inP_is {o w p lo hi:Nat}:inP o w ((p:Int),(lo:Int),(hi:Int)) = decide (lo≤o∧o≤p∧p≤w∧w≤hi):=by
  show ((some (decide ((lo:Int)≤o)) == some true) && ((some (decide ((o:Int)≤p)) == some true) && ((some (decide ((p:Int)≤w)) == some true) && ((some (decide ((w:Int)≤hi)) == some true) && true)))) = _
  have key:∀ b:Bool,(some b == some true) = b:=fun b=>by cases b <;> rfl
  rw [key,key,key,key,Bool.and_true,Bool.eq_iff_iff]
  simp only [Bool.and_eq_true,decide_eq_true_eq]
  lia
private theorem no_in {o w:Nat} {T:Tr} {a:Nat} (H:Heap f t T a) (h:∀ p lo hi,a≤lo→lo≤p→p≤hi→hi < a + T.sz→¬ (lo≤o∧o≤p∧p≤w∧w≤hi)):(ioF T a).filter (inP o w) = [] :=
  List.filter_eq_nil_iff.mpr fun x hx=>by
    obtain ⟨p,lo,hi,N⟩:=nodes_ok T a H x hx
    rw [N.x,inP_is,decide_eq_false (h p lo hi N.al N.lp N.ph N.he)]
    exact Bool.false_ne_true
private theorem due_ok:∀ (T:Tr) (a:Nat),Heap f t T a→∀ o w,a≤o→o≤w→w < a + T.sz→∃ x p lo hi,(ioF T a).filter (inP o w) = [x]∧NodeOk f t a (a + T.sz) x p lo hi∧lo≤o∧o≤p∧p≤w∧w≤hi
  | .leaf,a,_,o,w,h1,h2,h3=>absurd (Nat.le_trans h1 h2) (Nat.not_le.mpr h3)
  | .node l r,a,H,o,w,h1,h2,h3=>by
    have h3:w < a + (l.sz + r.sz + 1):=h3
    have e:(ioF (.node l r) a).filter (inP o w) = (ioF l a).filter (inP o w)++((triOf l r a :: ioF r (a + l.sz + 1)).filter (inP o w)):=List.filter_append ..
    have er:inP o w (triOf l r a) = decide (a≤o∧o≤a + l.sz∧a + l.sz≤w∧w≤a + l.sz + r.sz):=inP_is
    rcases Nat.lt_or_ge w (a + l.sz) with q | q
    · obtain ⟨x,p,lo,hi,g1,g2,g3⟩:=due_ok l a H.1 o w h1 h2 q
      refine ⟨x,p,lo,hi,?_,node_left H g2,g3⟩
      rw [e,g1,List.filter_cons_of_neg (by rw [er,decide_eq_false (by lia)]; exact Bool.false_ne_true),no_in H.2.1 (by intros; lia)]; rfl
    · rcases Nat.lt_or_ge (a + l.sz) o with q2 | q2
      · obtain ⟨x,p,lo,hi,g1,g2,g3⟩:=due_ok r _ H.2.1 o w q2 h2 (by lia)
        refine ⟨x,p,lo,hi,?_,node_right H g2,g3⟩
        rw [e,List.filter_cons_of_neg (by rw [er,decide_eq_false (by lia)]; exact Bool.false_ne_true),no_in H.1 (by intros; lia),g1]; rfl
      · refine ⟨_,_,_,_,?_,node_root H,h1,q2,q,by lia⟩
        rw [e,List.filter_cons_of_pos (by rw [er]; exact decide_eq_true (by lia)),no_in H.1 (by intros; lia),no_in H.2.1 (by intros; lia)]; rfl
end
end
section
private theorem str_len {ws:List Int} {o w:Nat} (hw:w < ws.length):(strF ws o w).length = w + 1 - o:=by
  unfold strF; rw [List.length_drop,List.length_take,Nat.min_eq_left hw]
private theorem str_get {ws:List Int} {o w i:Nat} (hw:w < ws.length) (hi:o + i≤w):(strF ws o w)[i]? = some (ws.getD (o + i) 0):=by
  unfold strF
  rw [List.getElem?_drop,List.getElem?_take,if_pos (by lia),List.getD_eq_getElem?_getD,List.getElem?_eq_getElem (show o + i < ws.length by lia)]; rfl
private theorem str_mem {ws:List Int} {o w:Nat} (hw:w < ws.length) {y:Int} (h:y∈strF ws o w):∃ i,o≤i∧i≤w∧y = ws.getD i 0:=by
  obtain ⟨i,hi,e⟩:=List.getElem_of_mem h
  have hl:=str_len (o:=o) hw
  have:=str_get (o:=o) (i:=i) hw (by lia)
  rw [List.getElem?_eq_getElem hi,e] at this
  exact ⟨o + i,by lia,by lia,Option.some.inj this⟩
private theorem str_in {ws:List Int} {o w i:Nat} (hw:w < ws.length) (h1:o≤i) (h2:i≤w):ws.getD i 0∈strF ws o w:=by
  have:=str_get (o:=o) (i:=i - o) hw (by lia)
  rw [show o + (i - o) = i by lia] at this
  exact List.mem_of_getElem? this
private theorem due_at {turn:Int} (ht:turn = 0∨turn = 1) {ws:List Int} {T:Tr} (H:Heap (fun i=>ws.getD i 0) turn T 0) (hz:T.sz = ws.length) {o w:Nat} (how:o≤w) (hw:w < ws.length):DueAt turn ws T o w:=by
  obtain ⟨x,p,lo,hi,g1,N,h1,h2,h3,h4⟩:=due_ok T 0 H o w (Nat.zero_le _) how (by lia)
  have hl:=str_len (o:=o) hw
  have L:∀ i,o≤i→i < p→ws.getD p 0 - turn < ws.getD i 0:=fun i a b=>N.l i (by lia) b
  have R:∀ i,p < i→i≤w→ws.getD p 0 + turn≤ws.getD i 0:=fun i a b=>N.r i a (by lia)
  refine .mk (x:=ws.getD p 0) (j:=if turn = 0 then p - o else w - p) (due:=(p:Int)) (str_in hw h2 h3) (fun y hy=>?_) (fun e=>⟨⟨?_,fun i y hi hy=>?_⟩,?_⟩) (fun e=>⟨⟨?_,fun i y hi hy=>?_⟩,?_⟩) ?_
  · obtain ⟨i,a,b,rfl⟩:=str_mem hw hy
    rcases Nat.lt_trichotomy i p with q | q | q
    · have:=L i a q; lia
    · subst q; exact Int.le_refl _
    · have:=R i q b; lia
  · rw [if_pos e,str_get hw (by lia),show o + (p - o) = p by lia]
  · rw [if_pos e] at hi
    rw [str_get hw (by lia)] at hy
    have:=L (o + i) (by lia) (by lia)
    rw [← Option.some.inj hy]; lia
  · rw [if_pos e]; lia
  · rw [if_neg e,List.getElem?_reverse (by lia),hl,str_get hw (by lia),show o + (w + 1 - o - 1 - (w - p)) = p by lia]
  · rw [if_neg e] at hi
    rw [List.getElem?_reverse (by lia),hl,str_get hw (by lia)] at hy
    have:=R (o + (w + 1 - o - 1 - i)) (by lia) (by lia)
    rw [← Option.some.inj hy]; lia
  · rw [if_neg e]; lia
  · rw [g1,N.x]; rfl
private theorem minL_lt {l:List Int} {x y:Int} (h:y∈l) (hy:y < x):minL l < x:=Int.lt_of_le_of_lt (minL_le y h) hy
private theorem lt_minL {l:List Int} {x:Int} (h0:l ≠ []) (h:∀ y∈l,x < y):x < minL l:=h _ (minL_mem h0)
private theorem srch_at {turn:Int} (ht:turn = 0∨turn = 1) {ws:List Int} (hn:ws.length≤6) {T:Tr} (H:Heap (fun i=>ws.getD i 0) turn T 0) (hz:T.sz = ws.length) {x:Tri} (hx:x∈ioF T 0):∃ p,SrchAt turn ws x p:=by
  obtain ⟨p,lo,hi,N⟩:=nodes_ok T 0 H x hx
  have h2:=N.lp; have h3:=N.ph; have h4:=N.he
  rw [hz,Nat.zero_add] at h4
  have eu:untilF turn ws p = hi + 1:=by
    unfold untilF
    refine bisGo_find _ (hi + 1) 12 _ _ (by lia) (by lia) (by lia) fun i a b=>?_
    rw [Bool.and_true,Bool.not_not]
    unfold keyR
    refine decide_eq_decide.mpr ⟨fun q=>?_,fun q=>?_⟩
    · refine Nat.lt_of_not_le fun c=>?_
      have hne:strF ws (p + 1) i ≠ []:=fun e=>by have:=str_len (o:=p + 1) b; rw [e] at this; have:0 = _:=this; lia
      obtain ⟨k,k1,k2,k3⟩:=str_mem b (minL_mem hne)
      have:=N.r k (by lia) (by lia)
      rw [k3] at q
      lia
    · have hb:=N.br.elim (fun e=>by rw [hz,Nat.zero_add] at e; lia) id
      exact minL_lt (str_in b (by lia) q) hb
  have es:sinceF turn ws p = lo + 2:=by
    unfold sinceF
    refine bisGo_find _ (lo + 2) 12 _ _ (by lia) (by lia) (by lia) fun i a b=>?_
    rw [Bool.not_false,Bool.true_and]
    unfold keyL
    have hp:p - 1 < ws.length:=by lia
    have ed:i - 2 < p→(ws.take p).drop (i - 2) = strF ws (i - 2) (p - 1):=fun zz=>by unfold strF; rw [show p - 1 + 1 = p by lia]
    have hip:i - 2 < p:=by lia
    rw [ed hip]
    refine decide_eq_decide.mpr ⟨fun q=>?_,fun q=>?_⟩
    · refine Nat.le_of_not_lt fun c=>?_
      have hl:lo ≠ 0:=by lia
      have hb:=N.bl.resolve_left hl
      have:=minL_le _ (str_in (o:=i - 2) (i:=lo - 1) hp (by lia) (by lia))
      lia
    · have hne:strF ws (i - 2) (p - 1) ≠ []:=fun e=>by have:=str_len (o:=i - 2) hp; rw [e] at this; have:0 = _:=this; lia
      exact lt_minL hne fun y hy=>by
        obtain ⟨k,k1,k2,rfl⟩:=str_mem hp hy
        exact N.l k (by lia) (by lia)
  refine ⟨p,by rw [N.x],by lia,?_,?_⟩
  · rw [es,N.x]; show ((lo + 2:Nat):Int) - 2 = (lo:Int); lia
  · rw [eu,N.x]; show ((hi + 1:Nat):Int) - 1 = (hi:Int); lia
private theorem law_ok (c0 c1 c2 c3 c4 c5:Nat):∃ T R,LawOk c0 c1 c2 c3 c4 c5 T R:=by
  have hn:=cn_le c0
  have hl:=ws_len (n:=cn c0) (c1:=c1) (c2:=c2) (c3:=c3) (c4:=c4) (c5:=c5)
  have ht:tnI c0 = 0∨tnI c0 = 1:=by unfold tnI; lia
  obtain ⟨Ls,I⟩:=nest_inv ht (ws:=wsF (cn c0) c1 c2 c3 c4 c5) (by lia) _ (Nat.le_refl _)
  obtain ⟨R,r1,r2⟩:=row_tree ((c0 / 3:Nat):Int) (sz456 (n:=cn c0) rfl)
  have hz:=I.z
  refine ⟨spT Ls,R,?_,by rw [hz,hl],r2,r1,fun o w a b=>due_at ht I.h hz a (by lia),fun t h=>srch_at ht (by lia) I.h hz h⟩
  unfold nestF
  rw [I.s,row_spT]
end
section
open PySem PySem.W PyProof.Rows
set_option maxHeartbeats 8000000
noncomputable def keepL:List Nat:=[4,5,6,7,8,9,10,12,13,14,16,18,19,20,21,22,23,24,25,26,27]
noncomputable def viewP:Program:={ PySem.Challenge.pw_wb0073_02 with main:={ PySem.Challenge.pw_wb0073_02.main with body:=keepL.filterMap fun i=>PySem.Challenge.pw_wb0073_02.main.body[i]? } }
noncomputable def looseL:List Str:=[Str.ofString "bisect_right",Str.ofString "bisect_left"]
noncomputable def lawRow:OpenRow:=PySem.Challenge.rw_wb0073_02.row
private theorem said2:PySem.Challenge.rw_wb0073_02.wellSaid = true:=by decide +kernel
private theorem lawSome:(defOf viewP (Str.ofString "law")).isSome = true:=by kernel_rfl
noncomputable def lawD:DefRec:=((defOf viewP (Str.ofString "law")).get lawSome).1
private theorem test_hdef:defOf viewP lawRow.name = some (lawD,[]):=by kernel_rfl
private theorem test_hp:lawRow.prog.theDef lawRow.name = some (lawD.params,lawD.body,lawD.scope):=by kernel_rfl
private theorem head (H:Hook) (left:LeftO lawRow.prog viewP looseL (fun s=>xlAt viewP [] s && recOk lawRow.toRowW.records s) H.obs H.val 2490) (call:WalkO viewP looseL (XL viewP []) H.says lawRow.toRowW lawD [] fun f vs=>PySem.call f vs):PySem.Challenge.rw_wb0073_02.Holds :=
  holds_law said2 fun k1=>PySem.W.holds_open (q:=viewP) (loose:=looseL) (Xt:=fun s=>xlAt viewP [] s && recOk lawRow.toRowW.records s) (XP:=XL viewP []) (Yf:=H.obs) (Ya:=H.val) (YP:=H.says) (N:=2490) left (Hook.of H) (Hook.keeps H)
    (fun s e=>xl_of s (Bool.and_eq_true_iff.mp e).1) XL.keeps test_hdef test_hp (by kernel_rfl) (fun s e=>recFacts_of (Bool.and_eq_true_iff.mp e).2) (by kernel_rfl) k1 (by decide +kernel) ⟨rfl,rfl,rfl,rfl,rfl,by decide +kernel⟩ (by w_witness2) call
end
section
open PySem PySem.W PyProof.Rows
set_option maxHeartbeats 8000000
noncomputable def fnO (F:Fd) (q:Str) (m:String) (t:Nat) (c:Addr) (dv kv:Value):Obj:={ cls:=.type "function",data:=.func (fnX F.name q F.params F.body F.scope [] dv kv .none (.str m t) none (.ref c) .none) }
noncomputable def codeO (vs:List Value):Obj:={ cls:=.type "code",data:=.fields vs.toArray }
noncomputable def en (P:Params) (k:String) (t:Nat) (v:Value):DictEntry:={ hash:=PyData.keyHash P (Str.ofString k),key:=.str k t,val:=v }
noncomputable def dictO (es:List DictEntry) (n:Nat):Obj:={ cls:=.type "dict",data:=.dict es.toArray n }
noncomputable def clsO:Obj:=excClassObj "_netrclex" "_netrclex" 133 132 [.type "object"] [.type "object"] true [] [] false none none none none (some (.str "_netrclex" 335)) (some (.str "_netrclex" 343)) (some (.bool true)) "object.__new__"
noncomputable def KF:Params→Frag:=fun P =>
  [(2, { cls := .none, data := .dict #[] }),
   (3, dictO [en P "__name__" 165 (.str "law_wb0073_02" 393), en P "__doc__" 166 (.none), en P "__package__" 167 (.none), en P "__loader__" 168 (.builtin "__main__.__loader__#opaque"), en P "__spec__" 169 (.none), en P "__annotations__" 170 (.ref 6), en P "__builtins__" 171 (.ref 4), en P "__file__" 173 (.str "/claim/cut.py" 172), en P "__cached__" 174 (.none), en P "bisect_right" 202 (.ref 23), en P "bisect_left" 216 (.ref 32), en P "_DIV_LIMIT" 220 (.int 4000 219), en P "_div2n1n" 237 (.ref 39), en P "_div3n2n" 251 (.ref 46), en P "_int2digits" 262 (.ref 53), en P "_digits2int" 273 (.ref 60), en P "_divmod_pos" 288 (.ref 67), en P "int_divmod" 298 (.ref 74), en P "_iter_escaped_chars" 310 (.ref 81), en P "_strip_quoted_realnames" 322 (.ref 88), en P "_check_parenthesis" 332 (.ref 95), en P "_netrclex" 392 (.ref 133), en P "_law_row" 405 (.ref 144), en P "_law_written" 411 (.ref 149), en P "_law_joined" 420 (.ref 156), en P "_law_nest" 432 (.ref 163), en P "_law_pairs" 447 (.ref 170), en P "_law_back" 457 (.ref 177), en P "_law_point" 463 (.ref 182), en P "_law_refused" 475 (.ref 189), en P "_law_holds" 481 (.ref 194), en P "law" 487 (.ref 199)] 32),
   (15,tpo [.int 0 189,.none]),
   (16,dictO [en P "key" 190 (.none)] 1),
   (22,codeO [.str "bisect_right" 191,.str "bisect_right" 192,.str "/claim/cut.py" 193,.int 2 0,.int 4 0,.int 0 0,.int 1 0,.int 3 0,.ref 17,.bool true,.int 181 0,.ref 18,.none,.ref 19,.ref 20,.ref 21,.int 200 0,.int 2 0,.str "/claim/cut.py" 201]),
   (23,fnO (fdAt prog1 1) "bisect_right" "cpy313.bisect" 187 22 (.ref 15) (.ref 16)),
   (24,tpo [.int 0 203,.none]),
   (25,dictO [en P "key" 204 (.none)] 1),
   (31,codeO [.str "bisect_left" 205,.str "bisect_left" 206,.str "/claim/cut.py" 207,.int 22 0,.int 4 0,.int 0 0,.int 1 0,.int 3 0,.ref 26,.bool true,.int 181 0,.ref 27,.none,.ref 28,.ref 29,.ref 30,.int 214 0,.int 22 0,.str "/claim/cut.py" 215]),
   (32,fnO (fdAt prog1 2) "bisect_left" "cpy313.bisect" 187 31 (.ref 24) (.ref 25)),
   (38,codeO [.str "_div2n1n" 221,.str "_div2n1n" 222,.str "/claim/cut.py" 223,.int 44 0,.int 3 0,.int 0 0,.int 0 0,.int 3 0,.ref 33,.bool true,.int 181 0,.ref 34,.none,.ref 35,.ref 36,.ref 37,.int 235 0,.int 44 0,.str "/claim/cut.py" 236]),
   (39,fnO (fdAt prog1 5) "_div2n1n" "cpy313._pylong" 217 38 (.none) (.none)),
   (45,codeO [.str "_div3n2n" 238,.str "_div3n2n" 239,.str "/claim/cut.py" 240,.int 60 0,.int 6 0,.int 0 0,.int 0 0,.int 3 0,.ref 40,.bool true,.int 181 0,.ref 41,.none,.ref 42,.ref 43,.ref 44,.int 249 0,.int 60 0,.str "/claim/cut.py" 250]),
   (46,fnO (fdAt prog1 6) "_div3n2n" "cpy313._pylong" 217 45 (.none) (.none)),
   (52,codeO [.str "_int2digits" 252,.str "_int2digits" 253,.str "/claim/cut.py" 254,.int 70 0,.int 2 0,.int 0 0,.int 0 0,.int 3 0,.ref 47,.bool true,.int 181 0,.ref 48,.none,.ref 49,.ref 50,.ref 51,.int 260 0,.int 70 0,.str "/claim/cut.py" 261]),
   (53,fnO (fdAt prog1 7) "_int2digits" "cpy313._pylong" 217 52 (.none) (.none)),
   (59,codeO [.str "_digits2int" 263,.str "_digits2int" 264,.str "/claim/cut.py" 265,.int 86 0,.int 2 0,.int 0 0,.int 0 0,.int 3 0,.ref 54,.bool true,.int 181 0,.ref 55,.none,.ref 56,.ref 57,.ref 58,.int 271 0,.int 86 0,.str "/claim/cut.py" 272]),
   (60,fnO (fdAt prog1 8) "_digits2int" "cpy313._pylong" 217 59 (.none) (.none)),
   (66,codeO [.str "_divmod_pos" 274,.str "_divmod_pos" 275,.str "/claim/cut.py" 276,.int 95 0,.int 2 0,.int 0 0,.int 0 0,.int 3 0,.ref 61,.bool true,.int 181 0,.ref 62,.none,.ref 63,.ref 64,.ref 65,.int 286 0,.int 95 0,.str "/claim/cut.py" 287]),
   (67,fnO (fdAt prog1 9) "_divmod_pos" "cpy313._pylong" 217 66 (.none) (.none)),
   (73,codeO [.str "int_divmod" 289,.str "int_divmod" 290,.str "/claim/cut.py" 291,.int 106 0,.int 2 0,.int 0 0,.int 0 0,.int 3 0,.ref 68,.bool true,.int 181 0,.ref 69,.none,.ref 70,.ref 71,.ref 72,.int 296 0,.int 106 0,.str "/claim/cut.py" 297]),
   (74,fnO (fdAt prog1 10) "int_divmod" "cpy313._pylong" 217 73 (.none) (.none)),
   (80,codeO [.str "_iter_escaped_chars" 301,.str "_iter_escaped_chars" 302,.str "/claim/cut.py" 303,.int 118 0,.int 1 0,.int 0 0,.int 0 0,.int 35 0,.ref 75,.bool true,.int 181 0,.ref 76,.none,.ref 77,.ref 78,.ref 79,.int 308 0,.int 118 0,.str "/claim/cut.py" 309]),
   (81,fnO (fdAt prog1 12) "_iter_escaped_chars" "cpy313.email.utils" 299 80 (.none) (.none)),
   (87,codeO [.str "_strip_quoted_realnames" 311,.str "_strip_quoted_realnames" 312,.str "/claim/cut.py" 313,.int 131 0,.int 1 0,.int 0 0,.int 0 0,.int 3 0,.ref 82,.bool true,.int 181 0,.ref 83,.none,.ref 84,.ref 85,.ref 86,.int 320 0,.int 131 0,.str "/claim/cut.py" 321]),
   (88,fnO (fdAt prog1 13) "_strip_quoted_realnames" "cpy313.email.utils" 299 87 (.none) (.none)),
   (94,codeO [.str "_check_parenthesis" 323,.str "_check_parenthesis" 324,.str "/claim/cut.py" 325,.int 149 0,.int 1 0,.int 0 0,.int 0 0,.int 3 0,.ref 89,.bool true,.int 181 0,.ref 90,.none,.ref 91,.ref 92,.ref 93,.int 330 0,.int 149 0,.str "/claim/cut.py" 331]),
   (95,fnO (fdAt prog1 14) "_check_parenthesis" "cpy313.email.utils" 299 94 (.none) (.none)),
   (108,codeO [.str "__init__" 347,.str "_netrclex.__init__" 348,.str "/claim/cut.py" 349,.int 163 0,.int 2 0,.int 0 0,.int 0 0,.int 3 0,.ref 103,.bool true,.int 181 0,.ref 104,.none,.ref 105,.ref 106,.ref 107,.int 352 0,.int 163 0,.str "/claim/cut.py" 353]),
   (109,fnO (fdAt clsBody 0) "_netrclex.__init__" "cpy313.netrc" 333 108 (.none) (.none)),
   (115,codeO [.str "_read_char" 355,.str "_netrclex._read_char" 356,.str "/claim/cut.py" 357,.int 169 0,.int 1 0,.int 0 0,.int 0 0,.int 3 0,.ref 110,.bool true,.int 181 0,.ref 111,.none,.ref 112,.ref 113,.ref 114,.int 360 0,.int 169 0,.str "/claim/cut.py" 361]),
   (116,fnO (fdAt clsBody 1) "_netrclex._read_char" "cpy313.netrc" 333 115 (.none) (.none)),
   (122,codeO [.str "get_token" 363,.str "_netrclex.get_token" 364,.str "/claim/cut.py" 365,.int 175 0,.int 1 0,.int 0 0,.int 0 0,.int 3 0,.ref 117,.bool true,.int 181 0,.ref 118,.none,.ref 119,.ref 120,.ref 121,.int 370 0,.int 175 0,.str "/claim/cut.py" 371]),
   (123,fnO (fdAt clsBody 2) "_netrclex.get_token" "cpy313.netrc" 333 122 (.none) (.none)),
   (129,codeO [.str "push_token" 373,.str "_netrclex.push_token" 374,.str "/claim/cut.py" 375,.int 202 0,.int 2 0,.int 0 0,.int 0 0,.int 3 0,.ref 124,.bool true,.int 181 0,.ref 125,.none,.ref 126,.ref 127,.ref 128,.int 378 0,.int 202 0,.str "/claim/cut.py" 379]),
   (130,fnO (fdAt clsBody 3) "_netrclex.push_token" "cpy313.netrc" 333 129 (.none) (.none)),
   (132,dictO [en P "__module__" 342 (.str "cpy313.netrc" 333),en P "__firstlineno__" 346 (.int 161 345),en P "__init__" 354 (.ref 109),en P "_read_char" 362 (.ref 116),en P "get_token" 372 (.ref 123),en P "push_token" 380 (.ref 130),en P "__static_attributes__" 385 (.ref 131),en P "__dict__" 387 (.ref 134),en P "__weakref__" 389 (.ref 135),en P "__doc__" 390 (.none)] 4),
   (133,clsO),
   (143,codeO [.str "_law_row" 395,.str "_law_row" 396,.str "/claim/cut.py" 397,.int 205 0,.int 2 0,.int 0 0,.int 0 0,.int 3 0,.ref 138,.bool true,.int 181 0,.ref 139,.none,.ref 140,.ref 141,.ref 142,.int 403 0,.int 205 0,.str "/claim/cut.py" 404]),
   (144,fnO (fdAt prog1 18) "_law_row" "law_wb0073_02" 393 143 (.none) (.none)),
   (148,codeO [.str "_law_written" 406,.str "_law_written" 407,.str "/claim/cut.py" 408,.int 211 0,.int 2 0,.int 0 0,.int 0 0,.int 3 0,.ref 145,.bool true,.int 181 0,.ref 146,.none,.none,.none,.ref 147,.int 409 0,.int 211 0,.str "/claim/cut.py" 410]),
   (149,fnO (fdAt prog1 19) "_law_written" "law_wb0073_02" 393 148 (.none) (.none)),
   (155,codeO [.str "_law_joined" 412,.str "_law_joined" 413,.str "/claim/cut.py" 414,.int 217 0,.int 1 0,.int 0 0,.int 0 0,.int 3 0,.ref 150,.bool true,.int 181 0,.ref 151,.none,.ref 152,.ref 153,.ref 154,.int 418 0,.int 217 0,.str "/claim/cut.py" 419]),
   (156,fnO (fdAt prog1 20) "_law_joined" "law_wb0073_02" 393 155 (.none) (.none)),
   (162,codeO [.str "_law_nest" 421,.str "_law_nest" 422,.str "/claim/cut.py" 423,.int 222 0,.int 2 0,.int 0 0,.int 0 0,.int 3 0,.ref 157,.bool true,.int 181 0,.ref 158,.none,.ref 159,.ref 160,.ref 161,.int 430 0,.int 222 0,.str "/claim/cut.py" 431]),
   (163,fnO (fdAt prog1 21) "_law_nest" "law_wb0073_02" 393 162 (.none) (.none)),
   (169,codeO [.str "_law_pairs" 433,.str "_law_pairs" 434,.str "/claim/cut.py" 435,.int 228 0,.int 2 0,.int 0 0,.int 0 0,.int 3 0,.ref 164,.bool true,.int 181 0,.ref 165,.none,.ref 166,.ref 167,.ref 168,.int 445 0,.int 228 0,.str "/claim/cut.py" 446]),
   (170,fnO (fdAt prog1 22) "_law_pairs" "law_wb0073_02" 393 169 (.none) (.none)),
   (176,codeO [.str "_law_back" 448,.str "_law_back" 449,.str "/claim/cut.py" 450,.int 242 0,.int 1 0,.int 0 0,.int 0 0,.int 3 0,.ref 171,.bool true,.int 181 0,.ref 172,.none,.ref 173,.ref 174,.ref 175,.int 455 0,.int 242 0,.str "/claim/cut.py" 456]),
   (177,fnO (fdAt prog1 23) "_law_back" "law_wb0073_02" 393 176 (.none) (.none)),
   (181,codeO [.str "_law_point" 458,.str "_law_point" 459,.str "/claim/cut.py" 460,.int 248 0,.int 1 0,.int 0 0,.int 0 0,.int 3 0,.ref 178,.bool true,.int 181 0,.ref 179,.none,.none,.none,.ref 180,.int 461 0,.int 248 0,.str "/claim/cut.py" 462]),
   (182,fnO (fdAt prog1 24) "_law_point" "law_wb0073_02" 393 181 (.none) (.none)),
   (188,codeO [.str "_law_refused" 464,.str "_law_refused" 465,.str "/claim/cut.py" 466,.int 250 0,.int 1 0,.int 0 0,.int 0 0,.int 3 0,.ref 183,.bool true,.int 181 0,.ref 184,.none,.ref 185,.ref 186,.ref 187,.int 473 0,.int 250 0,.str "/claim/cut.py" 474]),
   (189,fnO (fdAt prog1 25) "_law_refused" "law_wb0073_02" 393 188 (.none) (.none)),
   (193,codeO [.str "_law_holds" 476,.str "_law_holds" 477,.str "/claim/cut.py" 478,.int 263 0,.int 1 0,.int 0 0,.int 0 0,.int 3 0,.ref 190,.bool true,.int 181 0,.ref 191,.none,.none,.none,.ref 192,.int 479 0,.int 263 0,.str "/claim/cut.py" 480]),
   (194,fnO (fdAt prog1 26) "_law_holds" "law_wb0073_02" 393 193 (.none) (.none)),
   (198,codeO [.str "law" 482,.str "law" 483,.str "/claim/cut.py" 484,.int 301 0,.int 1 0,.int 0 0,.int 0 0,.int 3 0,.ref 195,.bool true,.int 181 0,.ref 196,.none,.none,.none,.ref 197,.int 485 0,.int 301 0,.str "/claim/cut.py" 486]),
   (199,fnO (fdAt prog1 27) "law" "law_wb0073_02" 393 198 (.none) (.none)),
   (48,tabObj #[]),
   (55,tabObj #[]),
   (184,tabObj #[]),
   (191,tabObj #[])]
noncomputable def KA:List Addr:=[2,3,15,16,22,23,24,25,31,32,38,39,45,46,52,53,59,60,66,67,73,74,80,81,87,88,94,95,108,109,115,116,122,123,129,130,132,133,143,144,148,149,155,156,162,163,169,170,176,177,181,182,188,189,193,194,198,199,48,55,184,191]
private theorem KA_is (P:Params):KA = (KF P).map (·.1):=by rfl
private theorem hook_keeps {w:World} {h h':PySem.Heap} (Y:(KF w.params).In h∧(h.get? sysModules).any (fun o=>o.cls == .type "dict") = true) (k:∀ b o,h.get? b = some o→h'.get? b = some o):(KF w.params).In h'∧(h'.get? sysModules).any (fun o=>o.cls == .type "dict") = true :=
  ⟨fun a o e=>k a o (Y.1 a o e),by
    have h2:=Y.2
    cases e:h.get? sysModules with
    | none=>rw [e] at h2; cases h2
    | some o=>rw [e] at h2; rw [k _ _ e]; exact h2⟩
noncomputable def hookL:Hook where
  α:=List (Option Obj) × Bool
  obs:=fun s=>(KA.map s.heap.get?,(s.heap.get? sysModules).any fun o=>o.cls == .type "dict")
  val:=fun w=>((KF w.params).map fun p=>some p.2,true)
  says:=fun w h=>(KF w.params).In h∧(h.get? sysModules).any (fun o=>o.cls == .type "dict") = true
  of:=fun w s e=>⟨(InK.of KA_is:∀ w s,_) w s (congrArg Prod.fst e),congrArg Prod.snd e⟩
  keeps:=fun zz zz zz Y k=>hook_keeps Y k
private theorem leftL:LeftO lawRow.prog viewP looseL (fun s=>xlAt viewP [] s && recOk lawRow.toRowW.records s) hookL.obs hookL.val 2490:=by
  intro w
  kernel_rfl
end
section
open PySem PySem.W PyProof.Rows
set_option maxHeartbeats 8000000
noncomputable def tabsL:List (Addr × Site):=[(48,siteI),(55,siteD),(184,siteRef),(191,siteHolds)]
noncomputable def stillB (a:Addr):Bool:=(tabsL.lookup a).isNone && a != sysModules
noncomputable def heapC (h:PySem.Heap) (a:Addr):Option Cel:=(h.get? a).map fun o=>if a = sysModules then .pin o else .frz o
noncomputable def baseM (h:PySem.Heap) (L:Addr):Map:=⟨fun a=>if a = L then none else (tabsL.lookup a).elim (heapC h a) fun st=>some (.tab st),fun zz=>none⟩
noncomputable def es3 (P:Params):Array DictEntry:=match (KF P).lookup 3 with
  | some { data:=.dict es _,.. }=>es
  | _=>#[]
structure Known (P:Params) (h:PySem.Heap) (L:Addr) (mb:Str→Option Value):Prop where
  y:(KF P).In h
  sys:(h.get? sysModules).any (fun o=>o.cls == .type "dict") = true
  b:h.Ns builtinsNs mb
  bi:∀ x:Str,x ≠ "__name__"→mb x = bootBuiltins x
  bm:∃ ob,h.get? 4 = some ob∧ob.cls = .type "module"∧ob.dict = some builtinsNs∧ob.data = .plain
  l:∃ vs,h.get? L = some (lo vs 0)
private theorem KF_cls (P:Params):((KF P).all fun p=>match p.2.cls with
  | .type n=>n != "list"
  | _=>true) = true:=by kernel_rfl
private theorem KF_mem {α:Type} {a:Nat} {o:α}:∀ {K:List (Nat × α)},K.lookup a = some o→(a,o)∈K
  | [],h=>by cases h
  | (b,p) :: r,h=>by
    rw [List.lookup_cons] at h
    cases hb:a == b with
    | true=>rw [hb] at h; cases h; rw [eq_of_beq hb]; exact List.mem_cons_self
    | false=>rw [hb] at h; exact List.mem_cons_of_mem _ (KF_mem h)
private theorem base_still {h:PySem.Heap} {L a:Addr} {o:Obj} (e:h.get? a = some o) (hl:a ≠ L) (ht:stillB a = true):(baseM h L).h a = some (.frz o):=by
  obtain ⟨h1,h2⟩:=Bool.and_eq_true_iff.mp ht
  show (if a = L then none else (tabsL.lookup a).elim (heapC h a) fun st=>some (.tab st)) = _
  rw [if_neg hl,Option.isNone_iff_eq_none.mp h1]
  show (h.get? a).map _ = _
  rw [e]
  exact congrArg some (if_neg (bne_iff_ne.mp h2))
private theorem allCons {α:Type} {Q:α→Prop} {a:α} {l:List α} (h:Q a) (t:∀ p∈l,Q p):∀ p∈a :: l,Q p:=fun p hp=>(List.mem_cons.mp hp).elim (fun e=>e ▸ h) (t p)
section
variable {P:Params} {h:PySem.Heap} {L:Addr} {mb:Str→Option Value} (k:Known P h L mb)
include k
private theorem Known.ne {a:Addr} {o:Obj} (e:h.get? a = some o) (hc:o.cls ≠ .type "list"):a ≠ L:=fun q=>by
  obtain ⟨vs,hl⟩:=k.l
  rw [q,hl] at e; cases e; exact hc rfl
private theorem Known.neK {a:Addr} {o:Obj} (e:(KF P).lookup a = some o):a ≠ L:=k.ne (k.y a o e) fun q=>by
  have h2:=List.all_eq_true.mp (KF_cls P) _ (KF_mem e)
  dsimp only at h2
  rw [q] at h2
  exact absurd h2 (by decide)
private theorem Known.at {a:Addr} {o:Obj} (e:(KF P).lookup a = some o) (ht:stillB a = true):(baseM h L).h a = some (.frz o):=base_still (k.y a o e) (k.neK e) ht
omit k in
private theorem keysOk {es:Array DictEntry} (h1:(es.all fun e=>match e.key with
    | .str _ _=>true
    | _=>false) = true):StrKeys es:=fun e he=>by
  have h2:=Array.all_eq_true'.mp h1 e he
  generalize hk:e.key = v at h2
  cases v with
  | str n t=>exact ⟨n,t,rfl⟩
  | _=>cases h2
private theorem Known.glob:NsM (baseM h L) mainGlobals fun x=>nsFind (es3 P) x:=.mk (k.at (a:=3) (by rfl) (by rfl)) rfl (keysOk (by kernel_rfl)) (fun zz=>rfl)
private theorem Known.bNs:NsM (baseM h L) builtinsNs mb:=by
  obtain ⟨o,es,ep,h1,h2,h3,h4⟩:=k.b
  exact .mk (base_still h1 (fun q=>by obtain ⟨vs,hl⟩:=k.l; rw [q,hl] at h1; cases h1; cases h2) (by rfl)) h2 h3 h4
noncomputable def ambL (w:World) (h:PySem.Heap) (L:Addr) (os:OsState):Amb:={ prog:=lawRow.prog,w:=w,B:=baseM h L,os:=os }
variable {w:World} {os:OsState}
private theorem Known.blt {x:Str} {v:Value} (hx:x ≠ "__name__") (h1:nsFind (es3 P) x = none) (h2:bootBuiltins x = some v):Glo (baseM h L) x v:=.bu k.glob h1 k.bNs ((k.bi x hx).trans h2)
private theorem Known.code {c:Addr} {vs:List Value} {q:Str} {t:Nat} (e:(KF P).lookup c = some (codeO vs)) (hc:stillB c = true) (hv:vs[1]? = some (.str q t)):CodeRecM (baseM h L) (.ref c) q :=
  .mk (k.at e hc) rfl ((List.getElem?_toArray ..).trans hv)
private theorem Known.ob {F:Fd} {q:Str} {m:String} {t u:Nat} {a c:Addr} {vs:List Value} (e:(KF P).lookup a = some (fnO F q m t c .none .none)) (ha:stillB a = true) (ec:(KF P).lookup c = some (codeO vs)) (hc:stillB c = true) (hv:vs[1]? = some (.str q u)):FnObj (baseM h L) F q [] .none a (fnO F q m t c .none .none) .none (.str m t) (.ref c) .none :=
  ⟨k.at e ha,rfl,rfl,k.code ec hc hv⟩
private theorem Known.fn {F:Fd} {m:String} {t u:Nat} {a c:Addr} {vs:List Value} (e:(KF P).lookup a = some (fnO F F.name m t c .none .none)) (ha:stillB a = true) (hg:nsFind (es3 P) F.name = some (.ref a)) (ec:(KF P).lookup c = some (codeO vs)) (hc:stillB c = true) (hv:vs[1]? = some (.str F.name u)):FnG (ambL w h L os) F a :=
  ⟨.main k.glob hg,_,_,_,_,_,k.ob e ha ec hc hv⟩
private theorem Known.fnC {F:Fd} {m:String} {t u:Nat} {a c:Addr} {vs:List Value} (e:(KF P).lookup a = some (fnO F F.name m t c .none .none)) (ha:stillB a = true) (hg:nsFind (es3 P) F.name = some (.ref a)) (ec:(KF P).lookup c = some (codeO vs)) (hc:stillB c = true) (hv:vs[1]? = some (.str F.name u)):FnC (ambL w h L os) F a c :=
  ⟨.main k.glob hg,_,_,_,_,k.ob e ha ec hc hv⟩
private theorem Known.meth {F:Fd} {q:Str} {m:String} {t u:Nat} {a c:Addr} {vs:List Value} (e:(KF P).lookup a = some (fnO F q m t c .none .none)) (ha:stillB a = true) (ec:(KF P).lookup c = some (codeO vs)) (hc:stillB c = true) (hv:vs[1]? = some (.str q u)):FnAt (ambL w h L os).B F q [] .none a :=
  ⟨_,_,_,_,_,k.ob e ha ec hc hv⟩
private theorem Known.kn:Kn (ambL w h L os) where
  lim:=⟨fun zz=>none,.mk (k.at (a:=2) (by rfl) (by rfl)) rfl (fun e he=>absurd he (by simp)) (fun zz=>rfl),rfl⟩
  sys:=by
    have h2:=k.sys
    cases e:h.get? sysModules with
    | none=>rw [e] at h2; cases h2
    | some o =>
      rw [e] at h2
      have hc:o.cls = .type "dict":=eq_of_beq h2
      refine ⟨o,?_⟩
      show (if sysModules = L then none else heapC h sysModules) = _
      rw [if_neg (k.ne e fun q=>absurd (hc.symm.trans q) (by decide))]
      show (h.get? sysModules).map _ = _
      rw [e]; rfl
  bu:=fun x v e=>by
    have key:∀ p∈builtins1,Glo (baseM h L) p.1 p.2:=allCons (k.blt (by decide) (by rfl) (by rfl)) (allCons (k.blt (by decide) (by rfl) (by rfl)) (allCons (k.blt (by decide) (by rfl) (by rfl)) (allCons (k.blt (by decide) (by rfl) (by rfl)) (allCons (k.blt (by decide) (by rfl) (by rfl)) (allCons (k.blt (by decide) (by rfl) (by rfl)) (allCons (k.blt (by decide) (by rfl) (by rfl)) (allCons (k.blt (by decide) (by rfl) (by rfl)) (allCons (k.blt (by decide) (by rfl) (by rfl)) (allCons (k.blt (by decide) (by rfl) (by rfl)) (allCons (k.blt (by decide) (by rfl) (by rfl)) (allCons (k.blt (by decide) (by rfl) (by rfl)) (allCons (k.blt (by decide) (by rfl) (by rfl)) (fun zz h=>(List.not_mem_nil h).elim)))))))))))))
    exact key _ (mem_of_lookup_some e)
  fn:=fun n a e=>by
    have key:∀ p∈defs1,FnG (ambL w h L os) (fdAt prog1 p.1) p.2:=by
      unfold defs1
      repeat (refine allCons (k.fn (by rfl) (by rfl) (by rfl) (by rfl) (by rfl) (by rfl)) ?_)
      exact fun zz h=>(List.not_mem_nil h).elim
    exact key _ (KF_mem e)
end
end
section
open PySem PySem.W PyProof.Rows
set_option maxHeartbeats 8000000
private theorem lookup_take {a:Addr} {o:Obj}:∀ (n:Nat) {l:Frag},(l.take n).lookup a = some o→l.lookup a = some o
  | 0,_,h=>by cases h
  | _ + 1,[],h=>by cases h
  | n + 1,(b,p) :: r,h=>by
    rw [List.take_succ_cons,List.lookup_cons] at h
    rw [List.lookup_cons]
    cases hb:a == b with
    | true=>rw [hb] at h; exact h
    | false=>rw [hb] at h; exact lookup_take n h
private theorem KF_fix (P:Params):(((KF P).take 58).all fun p=>stillB p.1) = true:=by kernel_rfl
section
variable {P:Params} {h:PySem.Heap} {L:Addr} {mb:Str→Option Value} (k:Known P h L mb) {w:World} {os:OsState}
include k
private theorem Known.frag {h':PySem.Heap} (hk:∀ b o,(baseM h L).h b = some (.frz o)→h'.get? b = some o):Frag.In ((KF P).take 58) h':=fun a o e =>
  hk a o (k.at (lookup_take 58 e) (List.all_eq_true.mp (KF_fix P) _ (KF_mem e)))
private theorem Known.tab {t:Addr} {st:Site} (e:(KF P).lookup t = some (tabObj #[])) (ht:tabsL.lookup t = some st):(baseM h L).h t = some (.tab st):=by
  show (if t = L then none else (tabsL.lookup t).elim (heapC h t) fun st=>some (.tab st)) = _
  rw [if_neg (k.neK e),ht]; rfl
private theorem Known.makes {st:Site} {vs:List Value} {file:Str} {tf tg tt:Nat} {flags text:Int} {inF:Bool} (e:(KF P).lookup st.t = some (tabObj #[])) (hm:tabsL.lookup st.t = some st) (ec:(KF P).lookup st.c = some (codeO vs)) (hc:stillB st.c = true)
    (v11:vs[11]? = some (.ref st.t)) (v18:vs[18]? = some (.str file tf)) (v7:vs[7]? = some (.int flags tg)) (v9:vs[9]? = some (.bool inF)) (v10:vs[10]? = some (.int text tt)) (hne:st.c ≠ st.t):Mine.Makes (ambL w h L os) st:=by
  obtain ⟨ob,h1,h2,h3,h4⟩:=k.bm
  exact ⟨_,4,ob,{
    t:=k.tab e hm
    hd:=fun h' hk=>by
      have g:∀ (i:Nat) (x:Value),vs[i]? = some x→vs.toArray.getD i .none = x:=fun i x hx=>by
        rw [Array.getD_eq_getD_getElem?,List.getElem?_toArray,hx]; rfl
      exact ⟨_,_,file,tf,flags,tg,inF,text,tt,hk _ _ (k.at ec hc),rfl,rfl,by rw [List.getElem?_toArray]; exact v11,g _ _ v11,g _ _ v18,g _ _ v7,g _ _ v9,g _ _ v10,hne⟩
    gl:=k.glob
    b:=by rfl
    n1:=by decide
    n2:=by decide
    bm:=base_still h1 (k.ne h1 fun q=>absurd (h2.symm.trans q) (by decide)) (by rfl)
    cls:=h2
    dict:=h3
    data:=h4 }⟩
noncomputable def es132 (P:Params):Array DictEntry:=match (KF P).lookup 132 with
  | some { data:=.dict es _,.. }=>es
  | _=>#[]
private theorem Known.knM:KnM (ambL w h L os) where
  toKn:=k.kn
  ci:=k.fnC (by rfl) (by rfl) (by rfl) (by rfl) (by rfl) (by rfl)
  mi:=k.makes (by rfl) (by rfl) (by rfl) (by rfl) (by rfl) (by rfl) (by rfl) (by rfl) (by rfl) (by decide)
  cd:=k.fnC (by rfl) (by rfl) (by rfl) (by rfl) (by rfl) (by rfl)
  md:=k.makes (by rfl) (by rfl) (by rfl) (by rfl) (by rfl) (by rfl) (by rfl) (by rfl) (by rfl) (by decide)
  dl:=⟨.int 4000 219,.main k.glob (by rfl),fun M l=>.int _ _⟩
  bR:=⟨_,_,_,_,_,P,_,_,⟨.main k.glob (by rfl),k.at (a:=23) (by rfl) (by rfl),rfl,k.code (c:=22) (by rfl) (by rfl) (by rfl),k.at (a:=15) (by rfl) (by rfl),k.at (a:=16) (by rfl) (by rfl)⟩⟩
  bL:=⟨_,_,_,_,_,P,_,_,⟨.main k.glob (by rfl),k.at (a:=32) (by rfl) (by rfl),rfl,k.code (c:=31) (by rfl) (by rfl) (by rfl),k.at (a:=24) (by rfl) (by rfl),k.at (a:=25) (by rfl) (by rfl)⟩⟩
  cls:=⟨fun x=>nsFind (es132 P) x,⟨⟨_,_,_,_,_,_,_,_,_,_,_,_,_,_,_⟩,k.at (a:=133) (by rfl) (by rfl),.mk (k.at (a:=132) (by rfl) (by rfl)) rfl (keysOk (by kernel_rfl)) (fun zz=>rfl),by rfl,by rfl,by rfl⟩,⟨by rfl,by rfl,by rfl,by rfl,by rfl,by rfl,by rfl,by rfl⟩⟩
  gcls:=.main k.glob (by rfl)
  mi':=k.meth (by rfl) (by rfl) (by rfl) (by rfl) (by rfl)
  mr:=k.meth (by rfl) (by rfl) (by rfl) (by rfl) (by rfl)
  mg:=k.meth (by rfl) (by rfl) (by rfl) (by rfl) (by rfl)
  mp:=k.meth (by rfl) (by rfl) (by rfl) (by rfl) (by rfl)
  mkc:=⟨fun h' hk=>makes_of (k.frag hk) (by kernel_rfl),fun h' hk=>looks_findIn (k.frag hk) (by kernel_rfl),fun h' hk self=>bind_fn (k.frag hk) self (by kernel_rfl)⟩
  f_refused:=k.fnC (by rfl) (by rfl) (by rfl) (by rfl) (by rfl) (by rfl)
  f_holds:=k.fnC (by rfl) (by rfl) (by rfl) (by rfl) (by rfl) (by rfl)
  s_refused:=k.makes (by rfl) (by rfl) (by rfl) (by rfl) (by rfl) (by rfl) (by rfl) (by rfl) (by rfl) (by decide)
  s_holds:=k.makes (by rfl) (by rfl) (by rfl) (by rfl) (by rfl) (by rfl) (by rfl) (by rfl) (by rfl) (by decide)
private theorem Known.law:FnG (ambL w h L os) (fdAt prog1 27) 199:=k.fn (by rfl) (by rfl) (by rfl) (by rfl) (by rfl) (by rfl)
end
end
section
open PySem PySem.W PyProof.Rows
set_option maxHeartbeats 400000
private theorem reps_ints {M:Map}:∀ {vs:List Value} {ns:List Int},IntsAre vs ns→Reps M (ns.map .int) vs
  | _,_,.nil=>.nil
  | _,_,.cons n t r=>.cons (.int n t) (reps_ints r)
private theorem known_of {w:World} {s₀ s₁:Shared} {mg mb:Str→Option Value} {L:Addr} {vs:List Value} (G:Ground viewP looseL lawRow.records (XL viewP []) w s₀ mg mb s₁.heap) (Y:hookL.says w s₁.heap) (hl:s₁.heap.get? L = some (lo vs 0)) :
    Known w.params s₁.heap L mb∧mg = fun x=>nsFind (es3 w.params) x:=by
  obtain ⟨y,ys⟩:=Y
  have hm:mg = fun x=>nsFind (es3 w.params) x:=by
    obtain ⟨o,es,ep,h1,h2,_,h4⟩:=G.T.g
    have h5:=y 3 _ (by rfl)
    have h6:=Option.some.inj (h1.symm.trans h5)
    subst h6
    have h2:Data.dict (es3 w.params) 32 = .dict es ep:=h2
    cases h2
    funext x
    exact (h4 x).symm
  refine ⟨⟨y,ys,G.T.b,G.T.builtins,?_,⟨vs,hl⟩⟩,hm⟩
  obtain ⟨bm,ob,h1,_,h3,h4,h5,h6⟩:=G.T.bmain
  rw [hm] at h1
  have:bm = 4:=by
    have e:nsFind (es3 w.params) "__builtins__" = some (.ref 4):=by rfl
    rw [show (fun x=>nsFind (es3 w.params) x) "__builtins__" = nsFind (es3 w.params) "__builtins__" from rfl,e] at h1
    cases h1; rfl
  subst this
  exact ⟨ob,h3,h4,h5,h6⟩
noncomputable def startM (h:PySem.Heap) (L:Addr) (vs:List Value):Map:=(baseM h L).set L (.frz (lo vs 0))
inductive BaseAt (h:PySem.Heap) (L a:Addr):Cel→Prop
  | tab {st}:a ≠ L→tabsL.lookup a = some st→BaseAt h L a (.tab st)
  | frz {o}:a ≠ L→tabsL.lookup a = none→h.get? a = some o→BaseAt h L a (.frz o)
  | pin {o}:a ≠ L→tabsL.lookup a = none→h.get? a = some o→BaseAt h L a (.pin o)
private theorem base_at' {h:PySem.Heap} {L a:Addr} {x:Cel} (e:(baseM h L).h a = some x):BaseAt h L a x:=by
  have e:(if a = L then none else (tabsL.lookup a).elim (heapC h a) fun st=>some (.tab st)) = some x:=e
  by_cases hl:a = L
  · rw [if_pos hl] at e; cases e
  · rw [if_neg hl] at e
    cases ht:tabsL.lookup a with
    | some st=>rw [ht] at e; cases e; exact .tab hl ht
    | none =>
      rw [ht] at e
      obtain ⟨o,h1,h2⟩:=Option.map_eq_some_iff.mp e
      by_cases hs:a = sysModules
      · rw [if_pos hs] at h2; subst h2; exact .pin hl ht h1
      · rw [if_neg hs] at h2; subst h2; exact .frz hl ht h1
private theorem tab_all {P:Params}:∀ p∈tabsL,(KF P).lookup p.1 = some (tabObj #[])∧p.2.t = p.1∧∃ vs,(KF P).lookup p.2.c = some (codeO vs)∧vs[11]? = some (.ref p.1) :=
  allCons ⟨by rfl,by rfl,_,by rfl,by rfl⟩ (allCons ⟨by rfl,by rfl,_,by rfl,by rfl⟩ (allCons ⟨by rfl,by rfl,_,by rfl,by rfl⟩ (allCons ⟨by rfl,by rfl,_,by rfl,by rfl⟩ nofun)))
private theorem sep_start {P:Params} {w:World} {s₁:Shared} {L:Addr} {vs:List Value} {mb:Str→Option Value} (k:Known P s₁.heap L mb) (hl:s₁.heap.get? L = some (lo vs 0)) (hg:s₁.gens = #[]):Sep (ambL w s₁.heap L s₁.os) s₁ (startM s₁.heap L vs) []:=by
  have hn:(baseM s₁.heap L).h L = none:=if_pos rfl
  have nomu:∀ a j,(startM s₁.heap L vs).h a ≠ some (.mu j):=fun a j e=>by
    by_cases h:a = L
    · rw [h] at e; rw [show (startM s₁.heap L vs).h L = _ from Map.set_at _ _ _] at e; cases e
    · cases base_at' ((Map.set_ne _ _ h).symm.trans e)
  exact {
    c:=fun a x e=>by
      by_cases h:a = L
      · subst h
        rw [show (startM s₁.heap a vs).h a = _ from Map.set_at _ _ _] at e
        cases e; exact .frz hl
      · cases base_at' ((Map.set_ne _ _ h).symm.trans e) with
        | frz _ _ g=>exact .frz g
        | pin _ _ g=>exact .pin g
        | @tab st _ g =>
          obtain ⟨h1,_⟩:=tab_all (P:=P) _ (KF_mem g)
          exact .tab (ps:=#[]) ⟨k.y a _ h1,trivial,fun pq zz cv h=>by cases h⟩
    i:=fun a b j e=>absurd e (nomu a j)
    g:=fun i x e=>by cases e
    x:=Map.le_set _ hn
    os:=rfl
    bare:=AllBare.of_eq hg }
private theorem old_end {P:Params} {w:World} {s₁ s':Shared} {L:Addr} {vs:List Value} {mb:Str→Option Value} {M':Map} {mem':Mem} (k:Known P s₁.heap L mb) (hl:s₁.heap.get? L = some (lo vs 0)) (l:(startM s₁.heap L vs).le M') (S:Sep (ambL w s₁.heap L s₁.os) s' M' mem'):OldK s₁.heap s'.heap:=by
  have all:∀ b o,s₁.heap.get? b = some o→asItWas s₁.heap s'.heap b o∧∃ o',s'.heap.get? b = some o':=fun b o ho=>by
    by_cases hb:b = L
    · subst hb
      rw [hl] at ho; cases ho
      have:=S.frz (l.h b (.frz (lo vs 0)) (Map.set_at _ _ _))
      exact ⟨.inl this,_,this⟩
    · cases ht:tabsL.lookup b with
      | some st =>
        obtain ⟨h1,h2,vs',h3,h4⟩:=tab_all (P:=P) _ (KF_mem ht)
        have h5:=k.y b _ h1
        rw [ho] at h5; cases h5
        cases S.c _ _ (S.x.h _ _ (k.tab h1 ht)) with
        | @tab _ ps g=>exact ⟨.inr (.inl ⟨⟨st.c,_,_,k.y st.c _ h3,rfl,rfl,by rw [List.getElem?_toArray]; exact h4⟩,rfl,#[],ps,rfl,by rw [g.g]; simp⟩),_,g.g⟩
      | none =>
        have e:(baseM s₁.heap L).h b = heapC s₁.heap b:=(if_neg hb).trans (by rw [ht]; rfl)
        unfold heapC at e
        rw [ho] at e
        have:s'.heap.get? b = some o:=by
          by_cases hs:b = sysModules
          · exact S.pin (S.x.h b (.pin o) (e.trans (congrArg some (if_pos hs))))
          · exact S.frz (S.x.h b (.frz o) (e.trans (congrArg some (if_neg hs))))
        exact ⟨.inl this,_,this⟩
  exact ⟨fun b o ho=>(all b o ho).1,fun b o ho=>(all b o ho).2⟩
private theorem post_ok (a:List WData):lawRow.claim.post a (.bool true) a = true:=by
  refine postW_of (r:=lawRow.toRowW) (X:=true) (by kernel_rfl) ?_ rfl
  show WTm.value _ (WTm.res.eq (WTm.lit (.bool true))) _ = _
  first | (simp [WTm.value]; done) | (simp [WTm.value,W.same]; done)
set_option tactic.hygienic true in
private theorem walk:WalkO viewP looseL (XL viewP []) hookL.says lawRow.toRowW lawD [] fun f vs=>PySem.call f vs:=by
  intro w s₀ s₁ mg mb G Y fa o pm cd doc dV kV ho hd hcd hD hmg hg args vals as hpre hlay hrd hwl hlo
  wrow_args hpre hlay hrd hwl hlo
  rename_i ns _ _ _ _ _ _ _ L vs _ hL _ hw _ hI _ hlen _
  have hl:s₁.heap.get? L = some (lo vs 0):=by
    obtain ⟨o1,e1,e2,n1,e3⟩:=hL
    cases hw with
    | list e4 _ =>
      rw [e1] at e4; cases e4
      rw [e1]
      cases e3; rfl
  obtain ⟨k,hm⟩:=known_of G Y hl
  have hfa:fa = 199:=by
    rw [hm] at hmg
    have e:nsFind (es3 w.params) lawD.name = some (.ref 199):=by kernel_rfl
    rw [show (fun x=>nsFind (es3 w.params) x) lawD.name = nsFind (es3 w.params) lawD.name from rfl,e] at hmg
    cases hmg; rfl
  subst hfa
  refine op_law (D:=65) (X:=ambL w s₁.heap L s₁.os) (m:=[]) (ns:=ns) k.knM k.law (by decide) (by omega) law_ok callerA ⟨s₁,startM s₁.heap L vs⟩ [.ref L] [] rfl (fun e he=>(List.not_mem_nil he).elim) ⟨rfl,by decide,by decide⟩ (sep_start k hl hg) (.one (.lstOf (Map.set_at _ _ _) (reps_ints hI))) _ _ fun v d r m' hr g=>?_
  subst hr
  have:=g.r.i_bool
  subst this
  have le:(startM s₁.heap L vs).le d.M:=⟨fun a x e=>g.l.h a x List.not_mem_nil (fun e he=>(List.not_mem_nil he).elim) e,g.l.g⟩
  exact ⟨.inl ⟨_,.bool true,[],rfl,fun cls=>by rfl,.bool true,post_ok _,fun zz=>⟨List.nodup_nil,fun a h=>by cases h⟩⟩,old_end k hl le g.h,g.h.os,g.h.bare⟩
theorem final:PySem.Challenge.rw_wb0073_02.Holds:=head hookL leftL walk
end
end Mine
theorem PySem.Challenge.cw_wb0073_02_holds : PySem.Challenge.rw_wb0073_02.Holds :=
  Mine.final
