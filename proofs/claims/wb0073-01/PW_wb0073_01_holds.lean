import PyProof.Rows.All
import Wide.All
import OpenK.AllK
import Wide.FinOn
import PyProof.StrBlockL
import PyProof.SliceMore
import PyProof.CompFree
import PyProof.DictCompW
import PyProof.InstStoreFacts
import OpenK.KMake
import PyProof.Draws
import PyProof.EnumMake
import Lean
import PySem.Challenge.RW_wb0073_01
set_option Elab.async false
set_option maxRecDepth 100000
set_option autoImplicit false
set_option linter.all false
set_option genInjectivity false
set_option genSizeOf false
set_option bootstrap.genMatcherCode false
set_option tactic.hygienic false
namespace Mine
section
open PySem PySem.W PyProof.Rows PySem.Calls
private theorem dA {a b n : Nat} (h : a ≤ n) (e : Nat.ble b a = true) : b ≤ n := Nat.le_trans (Nat.le_of_ble_eq_true e) h
private theorem dB {a b n : Nat} (h : n ≤ a) (e : Nat.ble a b = true) : n ≤ b := Nat.le_trans h (Nat.le_of_ble_eq_true e)
private theorem dC {a b n k : Nat} (h : a ≤ n + k) (e : Nat.ble (b + k) a = true) : b ≤ n := Nat.le_of_add_le_add_right (Nat.le_trans (Nat.le_of_ble_eq_true e) h)
private theorem dD {a b n k : Nat} (h : n + k ≤ a) (e : Nat.ble a (b + k) = true) : n ≤ b := Nat.le_of_add_le_add_right (Nat.le_trans h (Nat.le_of_ble_eq_true e))
private theorem dE {a b n k : Nat} (h : a ≤ n) (e : Nat.ble b (a + k) = true) : b ≤ n + k := Nat.le_trans (Nat.le_of_ble_eq_true e) (Nat.add_le_add_right h k)
private theorem dF {a b n k : Nat} (h : n ≤ a) (e : Nat.ble (a + k) b = true) : n + k ≤ b := Nat.le_trans (Nat.add_le_add_right h k) (Nat.le_of_ble_eq_true e)
noncomputable abbrev lo (vs : List Value) (n : Nat := 0) : Obj := { cls := .type "list", data := .seq vs.toArray n }
noncomputable abbrev tpo (vs : List Value) (n : Nat := 0) : Obj := { cls := .type "tuple", data := .seq vs.toArray n }
structure Site where
  c : Addr
  t : Addr
  at' : List (Pos × Str)
inductive Cel where
  | frz (o : Obj) | pin (o : Obj) | mu (i : Nat) | tab (st : Site)
private theorem Cel.fnp {o : Obj} : ∀ p, Cel.frz o ≠ .pin p := fun zz h => by cases h
private theorem Cel.mnp {i : Nat} : ∀ p, Cel.mu i ≠ .pin p := fun zz h => by cases h
structure Map where
  h : Addr → Option Cel
  g : Nat → Option GenState
structure Map.le (M N : Map) : Prop where
  h : ∀ a x, M.h a = some x → N.h a = some x
  g : ∀ i x, M.g i = some x → N.g i = some x
private theorem Map.le.rf (M : Map) : M.le M := ⟨fun zz zz e => e, fun zz zz e => e⟩
private theorem Map.le.tr {M N O : Map} (x : M.le N) (y : N.le O) : M.le O := ⟨fun a o e => y.h a o (x.h a o e), fun a o e => y.g a o (x.g a o e)⟩
noncomputable def Map.ob (M : Map) (a : Addr) (o : Obj) : Prop := M.h a = some (.frz o) ∨ M.h a = some (.pin o)
private theorem Map.ob.up {M N : Map} {a : Addr} {o : Obj} (h : M.ob a o) (l : M.le N) : N.ob a o := h.imp (l.h _ _) (l.h _ _)
noncomputable def Map.lef (M N : Map) : Prop := ∀ a o, M.h a = some (.frz o) → N.h a = some (.frz o)
noncomputable def Map.le0 (M N : Map) : Prop := ∀ a x, M.h a = some x → (∀ o, x ≠ .pin o) → N.h a = some x
private theorem Map.le0.f {M N : Map} (l : M.le0 N) : M.lef N := fun a o e => l a _ e Cel.fnp
private theorem Map.le.l0 {M N : Map} (l : M.le N) : M.le0 N := fun a x e zz => l.h a x e
noncomputable def Map.set (M : Map) (a : Addr) (x : Cel) : Map := ⟨fun b => if b = a then some x else M.h b, M.g⟩
private theorem Map.set_at (M : Map) (a : Addr) (x : Cel) : (M.set a x).h a = some x := if_pos rfl
private theorem Map.set_ne (M : Map) {a b : Addr} (x : Cel) (h : b ≠ a) : (M.set a x).h b = M.h b := if_neg h
private theorem Map.le_set {M : Map} {a : Addr} (x : Cel) (h : M.h a = none) : M.le (M.set a x) := ⟨fun b y e => by
  rw [Map.set_ne _ _ fun q => by rw [q, h] at e; cases e]; exact e, fun zz zz e => e⟩
structure Amb where
  prog : Program
  w : World
  B : Map
  os : OsState
structure LamS where
  body : Expr
  params : Arguments
  scope : Scope
inductive AV where
  | none | bool (b : Bool) | int (i : Int) | str (l : List Nat) | tup (xs : List AV) | lst (xs : List AV)
  | dct (ks : List (Int × Int)) | rng (a b : Int) | mref (i : Nat) | inst (C : Addr) (i : Nat) | strm (L : LamS) (i : Nat) | ext (v : Value)
inductive AObj where
  | lst (xs : List AV) | ns (l : List (Str × AV)) | dead | cit (m : Option (Addr × Addr × Nat))
noncomputable abbrev Mem := List AObj
class inductive IntVals : List (Int × Value) → List (Int × Int) → Prop
  | nil : IntVals [] []
  | cons {k v t r q} : IntVals r q → IntVals ((k, .int v t) :: r) ((k, v) :: q)
structure IntDict' (o : Obj) (ks : List (Int × Int)) (es : Array DictEntry) (ep : Nat) (kvs : List (Int × Value)) : Prop where
  ex : o.ExactDict
  data : o.data = .dict es ep
  k : ∀ prog w, PySem.KeysOf (intKind prog w) es
  p : ∀ prog w, PySem.Pairs (intKind prog w) es.toList kvs
  nd : (kvs.map (·.1)).Nodup
  v : IntVals kvs ks
noncomputable def IntDict (o : Obj) (ks : List (Int × Int)) : Prop := ∃ es ep kvs, IntDict' o ks es ep kvs
noncomputable abbrev rngObj (a b c : Int) (t u v : Tok) : Obj := { cls := .type "range", dict := none, data := .fields #[.int a t, .int b u, .int c v], slots := #[] }
inductive CodeRecM (M : Map) : Value → Str → Prop
  | mk {c o vs q t} : M.h c = some (.frz o) → o.data = .fields vs → vs[1]? = some (.str q t) → CodeRecM M (.ref c) q
private theorem CodeRecM.up {M N : Map} {cd : Value} {q : Str} (h : CodeRecM M cd q) (l : M.lef N) : CodeRecM N cd q := by
  cases h with
  | mk a b c => exact .mk (l _ _ a) b c
structure LamAt' (M : Map) (L : LamS) (r : Addr) (x : Str) (c : Addr) (o : Obj) (fd : FuncData) : Prop where
  m : M.h r = some (.frz o)
  cls : o.cls = .type "function"
  data : o.data = .func fd
  body : fd.body = .expr L.body
  params : fd.params = L.params
  scope : fd.scope = L.scope
  gl : fd.globals = mainGlobals
  bu : fd.builtins = builtinsNs
  clo : fd.closure = [(x, c)]
  df : fd.defaults = .none
  kd : fd.kwdefaults = .none
  code : CodeRecM M fd.code fd.qualname
noncomputable def LamAt (M : Map) (L : LamS) (r : Addr) (x : Str) (c : Addr) : Prop := ∃ o fd, LamAt' M L r x c o fd
structure StrmAt' (M : Map) (L : LamS) (f l : Addr) (o : Obj) (fd : FuncData) (d : Addr) (od : Obj) (es : Array DictEntry) (ep : Nat) (r : Addr) (o2 : Obj) (fd2 : FuncData) (c : Addr) (oc : Obj) : Prop where
  m : M.h f = some (.frz o)
  cls : o.cls = .type "function"
  data : o.data = .func fd
  dict : o.dict = some d
  md : M.h d = some (.frz od)
  dd : od.data = .dict es ep
  keys : StrKeys es
  find : ∀ n, nsFind es n = if n = ("read" : Str) then some (.ref r) else none
  lam : LamAt' M L r "left" c o2 fd2
  mc : M.h c = some (.frz oc)
  cd : oc.data = .cell (some (.ref l))
noncomputable def StrmAt (M : Map) (L : LamS) (f l : Addr) : Prop := ∃ o fd d od es ep r o2 fd2 c oc, StrmAt' M L f l o fd d od es ep r o2 fd2 c oc
private theorem LamAt'.up {M N : Map} {L r x c o fd} (h : LamAt' M L r x c o fd) (l : M.lef N) : LamAt' N L r x c o fd := { h with m := l _ _ h.m, code := h.code.up l }
private theorem StrmAt.up {M N : Map} {L f l} (h : StrmAt M L f l) (q : M.lef N) : StrmAt N L f l := by
  obtain ⟨o, fd, d, od, es, ep, r, o2, fd2, c, oc, h⟩ := h
  exact ⟨o, fd, d, od, es, ep, r, o2, fd2, c, oc, { h with m := q _ _ h.m, md := q _ _ h.md, mc := q _ _ h.mc, lam := h.lam.up q }⟩
class inductive Rep (M : Map) : AV → Value → Prop
  | none : Rep M .none .none
  | bool (b : Bool) : Rep M (.bool b) (.bool b)
  | int (i : Int) (t : Tok) : Rep M (.int i) (.int i t)
  | str (l : List Nat) (t : Tok) : Rep M (.str l) (.str ⟨l.toArray⟩ t)
  | tup {a : Addr} {xs : List AV} {vs : List Value} {n : Nat} : M.h a = some (.frz (tpo vs n)) → vs.length = xs.length → (∀ (i : Nat) x v, xs[i]? = some x → vs[i]? = some v → Rep M x v) → Rep M (.tup xs) (.ref a)
  | lst {a : Addr} {xs : List AV} {vs : List Value} {n : Nat} : M.h a = some (.frz (lo vs n)) → vs.length = xs.length → (∀ (i : Nat) x v, xs[i]? = some x → vs[i]? = some v → Rep M x v) → Rep M (.lst xs) (.ref a)
  | dct {a : Addr} {ks o} : M.h a = some (.frz o) → IntDict o ks → Rep M (.dct ks) (.ref a)
  | rng {a : Addr} {x y t u v} : M.h a = some (.frz (rngObj x y 1 t u v)) → Rep M (.rng x y) (.ref a)
  | mref {i : Nat} {a : Addr} : M.h a = some (.mu i) → Rep M (.mref i) (.ref a)
  | inst {C : Addr} {i : Nat} {a d : Addr} {o} : M.h a = some (.frz o) → o.cls = .ref C → (∀ c, o.data ≠ .cls c) → o.dict = some d → M.h d = some (.mu i) → Rep M (.inst C i) (.ref a)
  | strm {L : LamS} {i : Nat} {f l : Addr} : StrmAt M L f l → M.h l = some (.mu i) → Rep M (.strm L i) (.ref f)
  | ext (v) : Rep M (.ext v) v
private theorem Rep.up0 {M N : Map} (l : M.le0 N) {x v} (r : Rep M x v) : Rep N x v := by
  induction r with
  | none => exact .none
  | bool b => exact .bool b
  | int i t => exact .int i t
  | str l t => exact .str l t
  | tup h1 h2 _ ih => exact .tup (l _ _ h1 Cel.fnp) h2 ih
  | lst h1 h2 _ ih => exact .lst (l _ _ h1 Cel.fnp) h2 ih
  | dct h1 h2 => exact .dct (l _ _ h1 Cel.fnp) h2
  | rng h => exact .rng (l _ _ h Cel.fnp)
  | mref h => exact .mref (l _ _ h Cel.mnp)
  | inst h1 h2 h3 h4 h5 => exact .inst (l _ _ h1 Cel.fnp) h2 h3 h4 (l _ _ h5 Cel.mnp)
  | strm h1 h2 => exact .strm (h1.up l.f) (l _ _ h2 Cel.mnp)
  | ext v => exact .ext v
private theorem Rep.up {M N : Map} {x v} (r : Rep M x v) (l : M.le N) : Rep N x v := r.up0 l.l0
structure Reps (M : Map) (xs : List AV) (vs : List Value) : Prop where
  len : vs.length = xs.length
  at' : ∀ (i : Nat) x v, xs[i]? = some x → vs[i]? = some v → Rep M x v
section
variable {M : Map} {v : Value}
inductive IsTup (M : Map) (xs : List AV) : Value → Prop
  | mk {a vs n} : M.h a = some (.frz (tpo vs n)) → Reps M xs vs → IsTup M xs (.ref a)
inductive IsLst (M : Map) (xs : List AV) : Value → Prop
  | mk {a vs n} : M.h a = some (.frz (lo vs n)) → Reps M xs vs → IsLst M xs (.ref a)
inductive IsMut (M : Map) (i : Nat) : Value → Prop
  | mk {a} : M.h a = some (.mu i) → IsMut M i (.ref a)
inductive IsDct (M : Map) (ks : List (Int × Int)) : Value → Prop
  | mk {a o} : M.h a = some (.frz o) → IntDict o ks → IsDct M ks (.ref a)
inductive IsRng (M : Map) (x y : Int) : Value → Prop
  | mk {a t u v} : M.h a = some (.frz (rngObj x y 1 t u v)) → IsRng M x y (.ref a)
inductive IsInst (M : Map) (C : Addr) (i : Nat) : Value → Prop
  | mk {a d o} : M.h a = some (.frz o) → o.cls = .ref C → (∀ c, o.data ≠ .cls c) → o.dict = some d → M.h d = some (.mu i) → IsInst M C i (.ref a)
inductive IsStrm (M : Map) (L : LamS) (i : Nat) : Value → Prop
  | mk {f l} : StrmAt M L f l → M.h l = some (.mu i) → IsStrm M L i (.ref f)
noncomputable def RepI (M : Map) : AV → Value → Prop
  | .none, v => v = .none
  | .bool b, v => v = .bool b
  | .int i, v => ∃ t, v = .int i t
  | .str l, v => ∃ t, v = .str ⟨l.toArray⟩ t
  | .tup xs, v => IsTup M xs v
  | .lst xs, v => IsLst M xs v
  | .dct ks, v => IsDct M ks v
  | .rng x y, v => IsRng M x y v
  | .mref i, v => IsMut M i v
  | .inst C i, v => IsInst M C i v
  | .strm L i, v => IsStrm M L i v
  | .ext w, v => v = w
private theorem Rep.inv {x : AV} (r : Rep M x v) : RepI M x v := by
  cases r with
  | none => exact rfl
  | bool b => exact rfl
  | int i t => exact ⟨_, rfl⟩
  | str l t => exact ⟨_, rfl⟩
  | tup a b c => exact .mk a ⟨b, c⟩
  | lst a b c => exact .mk a ⟨b, c⟩
  | dct a b => exact .mk a b
  | rng a => exact .mk a
  | mref a => exact .mk a
  | inst a b c d e => exact .mk a b c d e
  | strm a b => exact .mk a b
  | ext w => exact rfl
private theorem Rep.i_none (r : Rep M .none v) : v = .none := r.inv
private theorem Rep.i_bool {b : Bool} (r : Rep M (.bool b) v) : v = .bool b := r.inv
private theorem Rep.i_int {i : Int} (r : Rep M (.int i) v) : ∃ t, v = .int i t := r.inv
private theorem Rep.i_str {l : List Nat} (r : Rep M (.str l) v) : ∃ t, v = .str ⟨l.toArray⟩ t := r.inv
private theorem Rep.i_tup {xs : List AV} (r : Rep M (.tup xs) v) : IsTup M xs v := r.inv
private theorem Rep.i_lst {xs : List AV} (r : Rep M (.lst xs) v) : IsLst M xs v := r.inv
private theorem Rep.i_mref {i : Nat} (r : Rep M (.mref i) v) : IsMut M i v := r.inv
private theorem Rep.i_dct {ks} (r : Rep M (.dct ks) v) : IsDct M ks v := r.inv
private theorem Rep.i_rng {x y} (r : Rep M (.rng x y) v) : IsRng M x y v := r.inv
private theorem Rep.i_inst {C i} (r : Rep M (.inst C i) v) : IsInst M C i v := r.inv
private theorem Rep.i_strm {L i} (r : Rep M (.strm L i) v) : IsStrm M L i v := r.inv
private theorem Rep.i_ext {w : Value} (r : Rep M (.ext w) v) : v = w := r.inv
private theorem Rep.tupOf {xs : List AV} {a : Addr} {vs : List Value} {n : Nat} (h : M.h a = some (.frz (tpo vs n))) (r : Reps M xs vs) : Rep M (.tup xs) (.ref a) := .tup h r.len r.at'
private theorem Rep.lstOf {xs : List AV} {a : Addr} {vs : List Value} {n : Nat} (h : M.h a = some (.frz (lo vs n))) (r : Reps M xs vs) : Rep M (.lst xs) (.ref a) := .lst h r.len r.at'
end
section
variable {M N : Map}
private theorem Reps.up {xs : List AV} {vs : List Value} (r : Reps M xs vs) (l : M.le N) : Reps N xs vs := ⟨r.len, fun i x v h1 h2 => (r.at' i x v h1 h2).up l⟩
private theorem Reps.nil : Reps M [] [] := ⟨rfl, fun zz zz zz h => by cases h⟩
private theorem Reps.cons {x : AV} {v : Value} {xs : List AV} {vs : List Value} (r : Rep M x v) (rs : Reps M xs vs) : Reps M (x :: xs) (v :: vs) := ⟨congrArg (· + 1) rs.len, fun i => by
  cases i with
  | zero => intro x v h1 h2; cases h1; cases h2; exact r
  | succ i => exact rs.at' i⟩
inductive Reps.Cons (M : Map) (x : AV) (xs : List AV) : List Value → Prop
  | mk {v vs} : Rep M x v → Reps M xs vs → Reps.Cons M x xs (v :: vs)
private theorem Reps.i_cons {x : AV} {xs : List AV} {vs : List Value} (r : Reps M (x :: xs) vs) : Reps.Cons M x xs vs := by
  cases vs with
  | nil => exact absurd r.len nofun
  | cons v vs => exact .mk (r.at' 0 x v rfl rfl) ⟨Nat.succ.inj r.len, fun i => r.at' (i + 1)⟩
private theorem Reps.i_nil {vs : List Value} (r : Reps M [] vs) : vs = [] := List.eq_nil_of_length_eq_zero r.len
private theorem Reps.one {x : AV} {v : Value} (r : Rep M x v) : Reps M [x] [v] := .cons r .nil
private theorem Reps.get {xs : List AV} {vs : List Value} (r : Reps M xs vs) {i : Nat} {x : AV} (h : xs[i]? = some x) : ∃ v, vs[i]? = some v ∧ Rep M x v :=
  have hi : i < vs.length := r.len ▸ (List.getElem?_eq_some_iff.mp h).1
  ⟨_, List.getElem?_eq_getElem hi, r.at' i x _ h (List.getElem?_eq_getElem hi)⟩
private theorem Reps.get' {xs : List AV} {vs : List Value} (r : Reps M xs vs) {i : Nat} {v : Value} (h : vs[i]? = some v) : ∃ x, xs[i]? = some x ∧ Rep M x v :=
  have hi : i < xs.length := r.len ▸ (List.getElem?_eq_some_iff.mp h).1
  ⟨_, List.getElem?_eq_getElem hi, r.at' i _ v (List.getElem?_eq_getElem hi) h⟩
private theorem Reps.app {xs ys : List AV} {vs ws : List Value} (r : Reps M xs vs) (q : Reps M ys ws) : Reps M (xs ++ ys) (vs ++ ws) := by
  induction xs generalizing vs with
  | nil => rw [r.i_nil]; exact q
  | cons x xs ih =>
    cases r.i_cons with
    | mk r1 rs => exact .cons r1 (ih rs)
end
structure TabOk' (M : Map) (h : Heap) (a : Addr) (st : Site) (ps : Array Value) : Prop where
  g : h.get? a = some (tabObj ps)
  ok : TriplesOk ps.toList
  r : ∀ pq ∈ st.at', ∀ cv, codeAmong pq.1 ps.toList = some cv → CodeRecM M cv pq.2
noncomputable def NsV (M : Map) (l : List (Str × AV)) (m : Str → Option Value) : Prop := ∀ x, (∃ av v, l.lookup x = some av ∧ m x = some v ∧ Rep M av v) ∨ (l.lookup x = none ∧ m x = none)
private theorem NsV.up {M N : Map} {l : List (Str × AV)} {m : Str → Option Value} (h : NsV M l m) (q : M.le0 N) : NsV N l m := fun x => (h x).imp (fun ⟨av, v, h1, h2, h3⟩ => ⟨av, v, h1, h2, h3.up0 q⟩) id
inductive MemAt (M : Map) (h : Heap) (a : Addr) : AObj → Prop
  | lst {xs vs n} : h.get? a = some (lo vs n) → Reps M xs vs → MemAt M h a (.lst xs)
  | ns {l m} : h.Ns1 a m → NsV M l m → MemAt M h a (.ns l)
  | cit0 {b z} : h.get? a = some { cls := .type "callable_iterator", data := .fields #[b, z, .bool true] } → MemAt M h a (.cit none)
  | cit {f C i b x t} : h.get? a = some { cls := .type "callable_iterator", data := .fields #[.ref b, .str ⟨#[]⟩ t, .bool false] } → M.h b = some (.frz { cls := .type "method", data := .fields #[.ref f, .ref x] }) → Rep M (.inst C i) (.ref x) → MemAt M h a (.cit (some (f, C, i)))
inductive CellAt (M : Map) (mem : Mem) (h : Heap) (a : Addr) : Cel → Prop
  | frz {o} : h.get? a = some o → CellAt M mem h a (.frz o)
  | pin {o} : h.get? a = some o → CellAt M mem h a (.pin o)
  | mu {i ao} : mem[i]? = some ao → MemAt M h a ao → CellAt M mem h a (.mu i)
  | tab {st ps} : TabOk' M h a st ps → CellAt M mem h a (.tab st)
private theorem Reps.up0 {M N : Map} {xs : List AV} {vs : List Value} (r : Reps M xs vs) (l : M.le0 N) : Reps N xs vs := ⟨r.len, fun i x v h1 h2 => (r.at' i x v h1 h2).up0 l⟩
section
variable {M N : Map} {mem mem' : Mem} {h h' : Heap} {a : Addr}
private theorem MemAt.go {ao : AObj} (x : MemAt M h a ao) (q : M.le0 N) (hh : ∀ o, h.get? a = some o → h'.get? a = some o) : MemAt N h' a ao := by
  cases x with
  | lst g r => exact .lst (hh _ g) (r.up0 q)
  | ns g r => exact .ns (g.at hh) (r.up q)
  | cit0 g => exact .cit0 (hh _ g)
  | cit g m r => exact .cit (hh _ g) (q _ _ m Cel.fnp) (r.up0 q)
private theorem CellAt.go {x : Cel} (c : CellAt M mem h a x) (q : M.le0 N) (hh : ∀ o, h.get? a = some o → h'.get? a = some o) (hm : ∀ j, x = .mu j → mem'[j]? = mem[j]?) : CellAt N mem' h' a x := by
  cases c with
  | frz g => exact .frz (hh _ g)
  | pin g => exact .pin (hh _ g)
  | mu e g => exact .mu ((hm _ rfl).trans e) (g.go q hh)
  | tab g => exact .tab ⟨hh _ g.g, g.ok, fun pq h1 cv h2 => (g.r pq h1 cv h2).up q.f⟩
private theorem MemAt.get {ao : AObj} (x : MemAt M h a ao) : ∃ o, h.get? a = some o := by
  cases x with
  | lst g _ => exact ⟨_, g⟩
  | ns g _ => obtain ⟨o, _, _, e, _⟩ := g; exact ⟨o, e⟩
  | cit0 g => exact ⟨_, g⟩
  | cit g _ _ => exact ⟨_, g⟩
private theorem CellAt.get {x : Cel} (c : CellAt M mem h a x) : ∃ o, h.get? a = some o := by
  cases c with
  | frz g => exact ⟨_, g⟩
  | pin g => exact ⟨_, g⟩
  | mu _ g => exact g.get
  | tab g => exact ⟨_, g.g⟩
end
structure Sep (X : Amb) (s : Shared) (M : Map) (mem : Mem) : Prop where
  c : ∀ a x, M.h a = some x → CellAt M mem s.heap a x
  i : ∀ a b j, M.h a = some (.mu j) → M.h b = some (.mu j) → a = b
  g : ∀ i x, M.g i = some x → s.gens[i]? = some x
  x : X.B.le M
  os : s.os = X.os
  bare : AllBare s.gens
section
variable {X : Amb} {s : Shared} {M : Map} {mem : Mem}
private theorem Sep.frz (S : Sep X s M mem) {a : Addr} {o : Obj} (h : M.h a = some (.frz o)) : s.heap.get? a = some o := by
  cases S.c a _ h with
  | frz g => exact g
private theorem Sep.pin (S : Sep X s M mem) {a : Addr} {o : Obj} (h : M.h a = some (.pin o)) : s.heap.get? a = some o := by
  cases S.c a _ h with
  | pin g => exact g
private theorem Sep.ob (S : Sep X s M mem) {a : Addr} {o : Obj} (h : M.ob a o) : s.heap.get? a = some o := h.elim S.frz S.pin
inductive Held (M : Map) (h : Heap) (mem : Mem) (a : Addr) (i : Nat) : Prop
  | mk {ao} : mem[i]? = some ao → MemAt M h a ao → Held M h mem a i
private theorem Sep.mu (S : Sep X s M mem) {a : Addr} {i : Nat} {ao : AObj} (h : M.h a = some (.mu i)) (e : mem[i]? = some ao) : MemAt M s.heap a ao := by
  cases S.c a _ h with
  | mu q g => rw [q] at e; cases e; exact g
private theorem Sep.lt (S : Sep X s M mem) {a : Addr} {i : Nat} (h : M.h a = some (.mu i)) : i < mem.length := by
  cases S.c a _ h with
  | mu q g => exact (List.getElem?_eq_some_iff.mp q).1
private theorem Sep.fresh (S : Sep X s M mem) {a : Addr} (h : s.heap.get? a = none) : M.h a = none := by
  cases e : M.h a with
  | none => rfl
  | some x => obtain ⟨o, q⟩ := (S.c a x e).get; rw [h] at q; cases q
private theorem Sep.top (S : Sep X s M mem) : M.h s.heap.objs.size = none := S.fresh (by
  cases e : s.heap.get? s.heap.objs.size with
  | none => rfl
  | some o => exact absurd (Heap.lt_size e) (Nat.lt_irrefl _))
private theorem Sep.keep (S : Sep X s M mem) {h' : Heap} {tk : Nat} (hk : ∀ b o, M.h b ≠ none → s.heap.get? b = some o → h'.get? b = some o) : Sep X { s with heap := h', toks := tk } M mem :=
  { S with c := fun a x e => (S.c a x e).go (Map.le.rf M).l0 (fun o => hk a o (by rw [e]; exact nofun)) fun zz zz => rfl }
private theorem Sep.tok (S : Sep X s M mem) (tk : Nat) : Sep X { s with toks := tk } M mem := S.keep (h' := s.heap) fun zz zz zz e => e
private theorem Sep.put (S : Sep X s M mem) {a : Addr} {x : Cel} {h' : Heap} {tk : Nat} {mem' : Mem} (hl : ∀ y, M.h a = some y → (∀ o, y ≠ .pin o) → y = x) (hb : ∀ y, X.B.h a = some y → y = x) (hh : ∀ b o, b ≠ a → s.heap.get? b = some o → h'.get? b = some o)
    (hm : ∀ b j, b ≠ a → M.h b = some (.mu j) → mem'[j]? = mem[j]?) (hu : ∀ j, x = .mu j → ∀ b, M.h b = some (.mu j) → b = a) (hx : CellAt (M.set a x) mem' h' a x) : Sep X { s with heap := h', toks := tk } (M.set a x) mem' :=
  have l0 : M.le0 (M.set a x) := fun b y e n => by
    by_cases hb : b = a
    · subst hb; rw [Map.set_at, hl y e n]
    · rw [Map.set_ne _ _ hb]; exact e
  { S with
    c := fun b y e => by
      by_cases hb : b = a
      · subst hb; rw [Map.set_at] at e; cases e; exact hx
      · rw [Map.set_ne _ _ hb] at e
        exact (S.c b y e).go l0 (fun o => hh b o hb) fun j q => hm b j hb (q ▸ e)
    i := fun b d j e1 e2 => by
      by_cases h1 : b = a
      · subst h1
        by_cases h2 : d = b
        · exact h2.symm
        · rw [Map.set_at] at e1; rw [Map.set_ne _ _ h2] at e2; cases e1; exact (hu j rfl d e2).symm
      · rw [Map.set_ne _ _ h1] at e1
        by_cases h2 : d = a
        · subst h2; rw [Map.set_at] at e2; cases e2; exact hu j rfl b e1
        · rw [Map.set_ne _ _ h2] at e2; exact S.i b d j e1 e2
    x := ⟨fun b y e => by
      by_cases h1 : b = a
      · subst h1; rw [Map.set_at, hb y e]
      · rw [Map.set_ne _ _ h1]; exact S.x.h b y e, S.x.g⟩ }
private theorem Sep.putNew (S : Sep X s M mem) {a : Addr} {x : Cel} {h' : Heap} {tk : Nat} {mem' : Mem} (ha : M.h a = none) (hh : ∀ b o, b ≠ a → s.heap.get? b = some o → h'.get? b = some o)
    (hm : ∀ b j, b ≠ a → M.h b = some (.mu j) → mem'[j]? = mem[j]?) (hu : ∀ j, x = .mu j → ∀ b, M.h b = some (.mu j) → b = a) (hx : CellAt (M.set a x) mem' h' a x) : Sep X { s with heap := h', toks := tk } (M.set a x) mem' :=
  S.put (fun y e => by rw [ha] at e; cases e) (fun y e => by have := S.x.h a y e; rw [ha] at this; cases this) hh hm hu hx
private theorem push_ne {h : Heap} {o : Obj} {b : Addr} {q : Obj} (e : h.get? b = some q) : (h.push o).get? b = some q := Heap.get?_push_of_some _ e
private theorem Sep.new (S : Sep X s M mem) (o : Obj) (hf : o.isFreed = false) (tk : Nat) : Sep X { s with heap := s.heap.push o, toks := tk } (M.set s.heap.objs.size (.frz o)) mem :=
  S.putNew S.top (fun zz zz zz => push_ne) (fun zz zz zz zz => rfl) nofun (.frz (Heap.get?_push_size _ hf))
private theorem Sep.newPin (S : Sep X s M mem) (o : Obj) (hf : o.isFreed = false) (tk : Nat) : Sep X { s with heap := s.heap.push o, toks := tk } (M.set s.heap.objs.size (.pin o)) mem :=
  S.putNew S.top (fun zz zz zz => push_ne) (fun zz zz zz zz => rfl) nofun (.pin (Heap.get?_push_size _ hf))
private theorem get_app {α : Type} (b t : List α) (k : Nat) : (b ++ t)[b.length + k]? = t[k]? := by rw [List.getElem?_append_right (Nat.le_add_right _ _), Nat.add_sub_cancel_left]
private theorem get_app0 {α : Type} (b t : List α) : (b ++ t)[b.length]? = t[0]? := get_app b t 0
private theorem set_app {α : Type} (b t : List α) (k : Nat) (x : α) : (b ++ t).set (b.length + k) x = b ++ t.set k x := by rw [List.set_append_right _ _ (Nat.le_add_right _ _), Nat.add_sub_cancel_left]
private theorem set_app0 {α : Type} (b t : List α) (x : α) : (b ++ t).set b.length x = b ++ t.set 0 x := set_app b t 0 x
private theorem Sep.newMut (S : Sep X s M mem) (o : Obj) {ao : AObj} (tk : Nat) (hx : MemAt (M.set s.heap.objs.size (.mu mem.length)) (s.heap.push o) s.heap.objs.size ao) :
    Sep X { s with heap := s.heap.push o, toks := tk } (M.set s.heap.objs.size (.mu mem.length)) (mem ++ [ao]) :=
  S.putNew S.top (fun zz zz zz => push_ne) (fun b j zz e => List.getElem?_append_left (S.lt e)) (fun j q b e => by cases q; exact absurd (S.lt e) (Nat.lt_irrefl _)) (.mu (get_app0 _ _) hx)
private theorem Map.set_self {M : Map} {a : Addr} {x : Cel} (h : M.h a = some x) : M.set a x = M := by
  have : (M.set a x).h = M.h := funext fun b => by
    by_cases e : b = a
    · rw [e, Map.set_at, h]
    · exact Map.set_ne _ _ e
  show Map.mk (M.set a x).h M.g = Map.mk M.h M.g
  rw [this]
private theorem Sep.setMut (S : Sep X s M mem) {a : Addr} {i : Nat} {ao : AObj} {h' : Heap} {tk : Nat} (ha : M.h a = some (.mu i)) (hh : ∀ b o, b ≠ a → s.heap.get? b = some o → h'.get? b = some o) (hx : MemAt M h' a ao) : Sep X { s with heap := h', toks := tk } M (mem.set i ao) := by
  have := S.put (x := .mu i) (h' := h') (tk := tk) (mem' := mem.set i ao) (fun y e zz => by rw [ha] at e; cases e; rfl) (fun y e => by have := S.x.h a y e; rw [ha] at this; cases this; rfl) hh
    (fun b j hb e => List.getElem?_set_ne fun q => hb (by subst q; exact S.i _ _ _ e ha)) (fun j q b e => by cases q; exact S.i _ _ _ e ha) (.mu (List.getElem?_set_self (S.lt ha)) (by rw [Map.set_self ha]; exact hx))
  rw [Map.set_self ha] at this; exact this
end
end
section
open PySem PySem.W PyProof.Rows PySem.Calls
noncomputable abbrev Lc := List (Str × AV)
noncomputable abbrev Names := List (Str × NameKind)
noncomputable abbrev Is (L : Lc) (x : Str) (a : AV) : Prop := L.lookup x = some a
inductive VarAt (env : Env) (M : Map) (x : Str) (v : Value) : Prop
  | loc {o es ep} : env.kindOf x = some .local → M.h env.locals = some (.pin o) → o.data = .dict es ep → StrKeys es → nsFind es x = some v → VarAt env M x v
  | cel {c o} : env.kindOf x = some .cell ∨ env.kindOf x = some .free → env.cells.lookup x = some c → M.ob c o → o.data = .cell (some v) → VarAt env M x v
noncomputable def NmR (a b : Names) : Prop := ∀ x, a.lookup x = b.lookup x ∨ (a.lookup x = some .cell ∧ b.lookup x = some .free)
private theorem NmR.rf (a : Names) : NmR a a := fun zz => .inl rfl
private theorem NmR.of {a b : Names} (h : a = b) : NmR a b := fun zz => .inl (h ▸ rfl)
private theorem NmR.no {a b : Names} (h : NmR a b) {x : Str} (q : b.lookup x = none) : a.lookup x = none := (h x).elim (fun e => e.trans q) fun e => by rw [q] at e; cases e.2
private theorem NmR.at {a b : Names} (h : NmR a b) {x : Str} {k : NameKind} (q : b.lookup x = some k) (n : k ≠ .free) : a.lookup x = some k := (h x).elim (fun e => e.trans q) fun e => by rw [q] at e; cases e.2; exact absurd rfl n
private theorem NmR.back {a b : Names} (h : NmR a b) {x : Str} {k : NameKind} (q : a.lookup x = some k) (n : k ≠ .cell) : b.lookup x = some k := (h x).elim (fun e => e.symm.trans q) fun e => by rw [q] at e; cases e.1; exact absurd rfl n
structure EnvOk (env : Env) (sc : Names) (M : Map) (L : Lc) : Prop where
  names : NmR env.scope.names sc
  kind : env.scope.kind = .function
  gl : env.globals = mainGlobals
  bu : env.builtins = builtinsNs
  dbg : sc.lookup ("__debug__" : Str) = none
  cld : sc.lookup ("__classdict__" : Str) = none
  cel : ∀ x c, env.cells.lookup x = some c → ∃ o, M.ob c o
  var : ∀ x av, L.lookup x = some av → ∃ v, Rep M av v ∧ VarAt env M x v
private theorem VarAt.up {env : Env} {M N : Map} {x : Str} {v : Value} (h : VarAt env M x v) (l : M.le N) : VarAt env N x v := by
  cases h with
  | loc a b c d e => exact .loc a (l.h _ _ b) c d e
  | cel a b c d => exact .cel a b (c.up l) d
private theorem EnvOk.up {env : Env} {sc : Names} {M N : Map} {L : Lc} (n : EnvOk env sc M L) (l : M.le N) : EnvOk env sc N L :=
  { n with cel := fun x c h => (n.cel x c h).imp fun zz q => q.up l, var := fun x av h => (n.var x av h).imp fun zz q => ⟨q.1.up l, q.2.up l⟩ }
noncomputable def Room (A : Around) (d : Nat) : Prop := A.handled = none ∧ A.depth + d < recursionLimit ∧ A.units + 16 * d + 16 < cLine
private theorem Room.le {A : Around} {d e : Nat} (h : Room A d) (he : e ≤ d) : Room A e := ⟨h.1, by have := h.2.1; lia, by have := h.2.2; lia⟩
structure Cf where
  s : Shared
  M : Map
noncomputable abbrev Hp (X : Amb) (c : Cf) (mem : Mem) : Prop := Sep X c.s c.M mem
structure At (X : Amb) (D : Nat) (sc : Names) (env : Env) (A : Around) (c : Cf) (L : Lc) (mem : Mem) : Prop where
  R : Room A D
  N : EnvOk env sc c.M L
  S : Hp X c mem
structure Got (X : Amb) (c : Cf) (mem : Mem) (av : AV) (v : Value) (d : Cf) : Prop where
  l : c.M.le d.M
  h : Hp X d mem
  r : Rep d.M av v
structure Gots (X : Amb) (c : Cf) (mem : Mem) (av : List AV) (v : List Value) (d : Cf) : Prop where
  l : c.M.le d.M
  h : Hp X d mem
  r : Reps d.M av v
structure Gt (X : Amb) (c : Cf) (mem : Mem) (d : Cf) : Prop where
  l : c.M.le d.M
  h : Hp X d mem
private theorem At.up {X : Amb} {D : Nat} {sc : Names} {env : Env} {A : Around} {c d : Cf} {L : Lc} {m m' : Mem} (T : At X D sc env A c L m) (l : c.M.le d.M) (h : Hp X d m') : At X D sc env A d L m' := ⟨T.R, T.N.up l, h⟩
private theorem Got.fr {X : Amb} {c d e : Cf} {m : Mem} {av : AV} {v : Value} (g : Got X d m av v e) (l : c.M.le d.M) : Got X c m av v e := ⟨l.tr g.l, g.h, g.r⟩
noncomputable abbrev tk (c : Cf) (n : Nat) : Cf := ⟨{ c.s with toks := n }, c.M⟩
private theorem Got.tok {X : Amb} {c : Cf} {m : Mem} {av : AV} {v : Value} (h : Hp X c m) (r : Rep c.M av v) (n : Nat) : Got X c m av v (tk c n) := ⟨Map.le.rf _, h.tok n, r⟩
private theorem Got.now {X : Amb} {c : Cf} {m : Mem} {av : AV} {v : Value} (h : Hp X c m) (r : Rep c.M av v) : Got X c m av v c := ⟨Map.le.rf _, h, r⟩
private theorem Got.new {X : Amb} {c : Cf} {m : Mem} (h : Hp X c m) {av : AV} (o : Obj) (hf : o.isFreed = false) (n : Nat) (r : ∀ M, c.M.le M → M.h c.s.heap.objs.size = some (.frz o) → Rep M av (.ref c.s.heap.objs.size)) :
    Got X c m av (.ref c.s.heap.objs.size) ⟨{ c.s with heap := c.s.heap.push o, toks := n }, c.M.set c.s.heap.objs.size (.frz o)⟩ :=
  ⟨Map.le_set _ h.top, h.new o hf n, r _ (Map.le_set _ h.top) (Map.set_at _ _ _)⟩
private theorem Got.newLst {X : Amb} {c : Cf} {m : Mem} (h : Hp X c m) {xs : List AV} {vs : List Value} (r : Reps c.M xs vs) (n : Nat) :
    Got X c m (.lst xs) (.ref c.s.heap.objs.size) ⟨{ c.s with heap := c.s.heap.push (lo vs), toks := n }, c.M.set c.s.heap.objs.size (.frz (lo vs))⟩ := .new h _ rfl n fun zz l e => .lstOf e (r.up l)
private theorem Got.newTup {X : Amb} {c : Cf} {m : Mem} (h : Hp X c m) {xs : List AV} {vs : List Value} (r : Reps c.M xs vs) (n : Nat) :
    Got X c m (.tup xs) (.ref c.s.heap.objs.size) ⟨{ c.s with heap := c.s.heap.push (tpo vs), toks := n }, c.M.set c.s.heap.objs.size (.frz (tpo vs))⟩ := .new h _ rfl n fun zz l e => .tupOf e (r.up l)
section
variable (X : Amb) (D : Nat) (sc : Names)
noncomputable def PE (e : Expr) (L : Lc) (m : Mem) (av : AV) (m' : Mem) : Prop :=
  ∀ (env : Env) (A : Around) (c : Cf), At X D sc env A c L m → ∀ Q E, (∀ v d, Got X c m' av v d → Q v d.s) → wpAny (model X.prog X.w) A (eval e env) Q E c.s
noncomputable def PT (e : Expr) (L : Lc) (m : Mem) (b : Bool) (m' : Mem) : Prop :=
  ∀ (env : Env) (A : Around) (c : Cf), At X D sc env A c L m → ∀ Q E, (∀ d, Gt X c m' d → Q b d.s) → wpAny (model X.prog X.w) A (isTrue e env (eval e env)) Q E c.s
noncomputable def PEs (es : List Expr) (L : Lc) (m : Mem) (avs : List AV) (m' : Mem) : Prop :=
  ∀ (pos : Pos) (env : Env) (A : Around) (c : Cf), At X D sc env A c L m → ∀ Q E, (∀ vs d, Gots X c m' avs vs d → Q vs d.s) → wpAny (model X.prog X.w) A (spliced (backTo pos (starEach es env))) Q E c.s
noncomputable def Un (op : Value → Sem Value) (m : Mem) (x r : AV) : Prop :=
  ∀ (A : Around) (c : Cf) (v : Value), Room A D → Hp X c m → Rep c.M x v → ∀ Q E, (∀ v d, Got X c m r v d → Q v d.s) → wpAny (model X.prog X.w) A (op v) Q E c.s
noncomputable def BinM (op : Value → Value → Sem Value) (m : Mem) (x y r : AV) (m' : Mem) : Prop :=
  ∀ (A : Around) (c : Cf) (v w : Value), Room A D → Hp X c m → Rep c.M x v → Rep c.M y w → ∀ Q E, (∀ v d, Got X c m' r v d → Q v d.s) → wpAny (model X.prog X.w) A (op v w) Q E c.s
noncomputable def Bin (op : Value → Value → Sem Value) (m : Mem) (x y r : AV) : Prop := BinM X D op m x y r m
noncomputable def Tru (m : Mem) (x : AV) (b : Bool) : Prop :=
  ∀ (A : Around) (c : Cf) (v : Value), Hp X c m → Rep c.M x v → ∀ (Q : Bool → Shared → Prop) E, (∀ n, Q b (tk c n).s) → wpAny (model X.prog X.w) A (truthy v) Q E c.s
end
section
variable {X : Amb} {D : Nat} {sc : Names} {L : Lc} {m m1 m2 m3 m4 : Mem}
private theorem VarAt.dbg {env : Env} {M : Map} {x : Str} {v : Value} (hd : env.kindOf "__debug__" = none) (h : VarAt env M x v) : (x == ("__debug__" : Str)) = false := by
  refine beq_eq_false_iff_ne.mpr fun e => ?_
  subst e
  cases h with
  | loc a => rw [hd] at a; cases a
  | cel a => rw [hd] at a; exact a.elim nofun nofun
private theorem EnvOk.dbg' {env : Env} {M : Map} (N : EnvOk env sc M L) : env.kindOf "__debug__" = none := N.names.no N.dbg
private theorem EnvOk.cld' {env : Env} {M : Map} (N : EnvOk env sc M L) : env.kindOf "__classdict__" = none := N.names.no N.cld
private theorem loadVar {env : Env} {A : Around} {c : Cf} {x : Str} {v : Value} {Q : Value → Shared → Prop} {E : Value → Shared → Prop} (N : EnvOk env sc c.M L) (S : Hp X c m) (h : VarAt env c.M x v) (q : Q v c.s) : wpAny (model X.prog X.w) A (loadName env x) Q E c.s := by
  cases h with
  | loc a b c d e => exact wpAny_loadName_local N.kind a ⟨_, _, _, S.pin b, c, d, fun zz => rfl⟩ e q
  | cel a b c d =>
    refine a.elim (fun a => wpAny_loadName_cell N.kind a b ⟨_, S.ob c, d⟩ q) fun a => wpAny_loadName_free N.kind a b ⟨_, S.ob c, d⟩ q ?_
    exact beq_eq_false_iff_ne.mpr fun e => by subst e; rw [N.cld'] at a; cases a
private theorem PE.var {x : Str} {p : Pos} {av : AV} (h : L.lookup x = some av) : PE X D sc (.Name x p) L m av m := fun env A c T Q E k =>
  (T.N.var x av h).elim fun v q => wpAny_Name (loadVar T.N T.S q.2 (k v c (.now T.S q.1))) (q.2.dbg T.N.dbg')
private theorem PE.int {i : Int} {n : Nat} {p : Pos} : PE X D sc (.Constant (.int i) n p) L m (.int i) m := fun env A c T Q E k => wpAny_Constant_int (k _ _ (.tok T.S (.int _ _) _))
private theorem Rep.strOf {M : Map} (x : Str) (t : Tok) : Rep M (.str x.cps.toList) (.str x t) := Rep.str x.cps.toList t
private theorem PE.str {x : Str} {n : Nat} {p : Pos} : PE X D sc (.Constant (.str x) n p) L m (.str x.cps.toList) m := fun env A c T Q E k => Constant_str (k _ _ (.tok T.S (.strOf _ _) _))
private theorem PE.bool {b : Bool} {n : Nat} {p : Pos} : PE X D sc (.Constant (.bool b) n p) L m (.bool b) m := fun env A c T Q E k => wpAny_pure (k _ _ (.now T.S (.bool _)))
private theorem PE.none {n : Nat} {p : Pos} : PE X D sc (.Constant .none n p) L m .none m := fun env A c T Q E k => wpAny_pure (k _ _ (.now T.S .none))
private theorem PE.bin {a b : Expr} {op : Operator} {p : Pos} {x y r : AV} (ha : PE X D sc a L m x m1) (hb : PE X D sc b L m1 y m2) (ho : BinM X D (binaryOp op) m2 x y r m3) : PE X D sc (.BinOp a op b p) L m r m3 :=
  fun env A c T Q E k => wpAny_BinOp (ha env A c T _ _ fun va d g => hb env A d (T.up g.l g.h) _ _ fun vb d2 g2 => ho A d2 va vb T.R g2.h (g.r.up g2.l) g2.r Q E fun v d3 g3 => k v d3 (g3.fr (g.l.tr g2.l)))
private theorem PE.un {a : Expr} {op : UnaryOp} {p : Pos} {x r : AV} (ha : PE X D sc a L m x m1) (ho : Un X D (unaryOp op) m1 x r) : PE X D sc (.UnaryOp op a p) L m r m1 :=
  fun env A c T Q E k => wpAny_UnaryOp (ha env A c T _ _ fun va d g => ho A d va T.R g.h g.r Q E fun v d3 g3 => k v d3 (g3.fr g.l))
private theorem PE.cmp {a b : Expr} {op : CmpOp} {p : Pos} {x y r : AV} (ha : PE X D sc a L m x m1) (hb : PE X D sc b L m1 y m2) (ho : Bin X D (compareOp op) m2 x y r) (hm : behindInMarks op b = false) : PE X D sc (.Compare a [op] [b] p) L m r m2 :=
  fun env A c T Q E k => wpAny_Compare1 (ha env A c T _ _ fun va d g => hb env A d (T.up g.l g.h) _ _ fun vb d2 g2 => ho A d2 va vb T.R g2.h (g.r.up g2.l) g2.r Q E fun v d3 g3 => k v d3 (g3.fr (g.l.tr g2.l))) hm
private theorem PT.cmp {a b : Expr} {op : CmpOp} {p : Pos} {x y : AV} {r : Bool} (ha : PE X D sc a L m x m1) (hb : PE X D sc b L m1 y m2) (ho : Bin X D (compareOp op) m2 x y (.bool r)) (hm : behindInMarks op b = false) : PT X D sc (.Compare a [op] [b] p) L m r m2 :=
  fun env A c T Q E k => wpAny_isTrue_Compare1 (ha env A c T _ _ fun va d g => hb env A d (T.up g.l g.h) _ _ fun vb d2 g2 => ho A d2 va vb T.R g2.h (g.r.up g2.l) g2.r _ E fun v d3 g3 => g3.r.i_bool ▸ wpAny_truthy_bool (k d3 ⟨(g.l.tr g2.l).tr g3.l, g3.h⟩)) hm
private theorem PT.val {e : Expr} {x : AV} {b : Bool} (hf : PE X D sc e L m x m1) (ht : Tru X m1 x b) (he : ∀ env whole, isTrue e env whole = (do let v ← whole; standAt e.pos; holding [v] (truthy v))) : PT X D sc e L m b m1 :=
  fun env A c T Q E k => wpAny_isTrue_value (hf env A c T _ _ fun va d g => ht A d va g.h g.r Q E fun n => k (tk d n) ⟨g.l, g.h.tok n⟩) (he _ _)
private theorem PT.not {e : Expr} {p : Pos} {b : Bool} (h : PT X D sc e L m b m1) : PT X D sc (.UnaryOp .Not e p) L m (!b) m1 :=
  fun env A c T Q E k => isTrue_not (h env A c T _ _ k)
private theorem PT.andNil {p : Pos} : PT X D sc (.BoolOp .And [] p) L m true m := fun env A c T Q E k => isTrue_and_nil (k c ⟨Map.le.rf _, T.S⟩)
private theorem PT.orNil {p : Pos} : PT X D sc (.BoolOp .Or [] p) L m false m := fun env A c T Q E k => isTrue_or_nil (k c ⟨Map.le.rf _, T.S⟩)
private theorem PT.andT {x : Expr} {rest : List Expr} {p : Pos} {b : Bool} (h : PT X D sc x L m true m1) (hr : PT X D sc (.BoolOp .And rest p) L m1 b m2) : PT X D sc (.BoolOp .And (x :: rest) p) L m b m2 :=
  fun env A c T Q E k => isTrue_and (h env A c T _ _ fun d g => hr env A d (T.up g.l g.h) Q E fun d2 g2 => k d2 ⟨g.l.tr g2.l, g2.h⟩)
private theorem PT.andF {x : Expr} {rest : List Expr} {p : Pos} (h : PT X D sc x L m false m1) : PT X D sc (.BoolOp .And (x :: rest) p) L m false m1 :=
  fun env A c T Q E k => isTrue_and (h env A c T _ _ fun d g => k d g)
private theorem PT.orF {x : Expr} {rest : List Expr} {p : Pos} {b : Bool} (h : PT X D sc x L m false m1) (hr : PT X D sc (.BoolOp .Or rest p) L m1 b m2) : PT X D sc (.BoolOp .Or (x :: rest) p) L m b m2 :=
  fun env A c T Q E k => isTrue_or (h env A c T _ _ fun d g => hr env A d (T.up g.l g.h) Q E fun d2 g2 => k d2 ⟨g.l.tr g2.l, g2.h⟩)
private theorem PT.orT {x : Expr} {rest : List Expr} {p : Pos} (h : PT X D sc x L m true m1) : PT X D sc (.BoolOp .Or (x :: rest) p) L m true m1 :=
  fun env A c T Q E k => isTrue_or (h env A c T _ _ fun d g => k d g)
private theorem PE.ifT {t a b : Expr} {p : Pos} {x : AV} (ht : PT X D sc t L m true m1) (h : PE X D sc a L m1 x m2) : PE X D sc (.IfExp t a b p) L m x m2 :=
  fun env A c T Q E k => wpAny_IfExp (ht env A c T _ _ fun d g => h env A d (T.up g.l g.h) Q E fun v d2 g2 => k v d2 (g2.fr g.l))
private theorem PE.ifF {t a b : Expr} {p : Pos} {x : AV} (ht : PT X D sc t L m false m1) (h : PE X D sc b L m1 x m2) : PE X D sc (.IfExp t a b p) L m x m2 :=
  fun env A c T Q E k => wpAny_IfExp (ht env A c T _ _ fun d g => h env A d (T.up g.l g.h) Q E fun v d2 g2 => k v d2 (g2.fr g.l))
private theorem PEs.nil : PEs X D sc [] L m [] m := fun pos env A c T Q E k => wpAny_items_nil (k _ c ⟨Map.le.rf _, T.S, .nil⟩)
private theorem PEs.cons' {e : Expr} {es : List Expr} {x : AV} {xs : List AV} (he : ∀ env, starEach (e :: es) env = (false, eval e env) :: starEach es env) (hf : PE X D sc e L m x m1) (hg : PEs X D sc es L m1 xs m2) : PEs X D sc (e :: es) L m (x :: xs) m2 :=
  fun pos env A c T Q E k => wpAny_items_cons (hf env A c T _ _ fun v d g => hg pos env A d (T.up g.l g.h) _ _ fun vs d2 g2 => k _ d2 ⟨g.l.tr g2.l, g2.h, .cons (g.r.up g2.l) g2.r⟩) (he env)
private theorem sizeLine_is : sizeLine = 2 ^ 24 := rfl
private theorem Reps.sz {M : Map} {xs : List AV} {vs : List Value} (r : Reps M xs vs) {n : Nat} (h : xs.length ≤ n) : vs.length ≤ n := r.len ▸ h
private theorem PE.tup {es : List Expr} {k : Nat} {p : Pos} {xs : List AV} (h : PEs X D sc es L m xs m1) (hz : xs.length ≤ 2 ^ 24) : PE X D sc (.Tuple es k p) L m (.tup xs) m1 :=
  fun env A c T Q E k => wpAny_Tuple (h p env A c T _ _ fun vs d g => ⟨g.r.sz hz, k _ _ ((Got.newTup g.h g.r d.s.toks).fr g.l)⟩)
private theorem PE.lst {es : List Expr} {p : Pos} {xs : List AV} (h : PEs X D sc es L m xs m1) (hz : xs.length ≤ 2 ^ 24) : PE X D sc (.List es p) L m (.lst xs) m1 :=
  fun env A c T Q E k => wpAny_List (h p env A c T _ _ fun vs d g => ⟨g.r.sz hz, k _ _ ((Got.newLst g.h g.r d.s.toks).fr g.l)⟩)
private theorem Got.newMut {c : Cf} (h : Hp X c m) {xs : List AV} {vs : List Value} (r : Reps c.M xs vs) (n : Nat) : Got X c (m ++ [.lst xs]) (.mref m.length) (.ref c.s.heap.objs.size) ⟨{ c.s with heap := c.s.heap.push (lo vs), toks := n }, c.M.set c.s.heap.objs.size (.mu m.length)⟩ :=
  ⟨Map.le_set _ h.top, h.newMut (lo vs) n (.lst (Heap.get?_push_size _ rfl) (r.up (Map.le_set _ h.top))), .mref (Map.set_at _ _ _)⟩
private theorem PE.lstM {es : List Expr} {p : Pos} {xs : List AV} (h : PEs X D sc es L m xs m1) (hz : xs.length ≤ 2 ^ 24) : PE X D sc (.List es p) L m (.mref m1.length) (m1 ++ [.lst xs]) :=
  fun env A c T Q E k => wpAny_List (h p env A c T _ _ fun vs d g => ⟨g.r.sz hz, k _ _ ((Got.newMut g.h g.r d.s.toks).fr g.l)⟩)
end
end
section
open PySem PySem.W PyProof.Rows PySem.Calls PySem.SeqAt
noncomputable def okS (l : List Nat) : Prop := ∀ c ∈ l, c < 0x110000
private theorem okS_1 {c : Nat} (h : c < 0x110000) : okS [c] := fun d hd => (List.mem_singleton.mp hd) ▸ h
private theorem okS_app {a b : List Nat} (ha : okS a) (hb : okS b) : okS (a ++ b) := fun c hc => (List.mem_append.mp hc).elim (ha c) (hb c)
private theorem okS_at {l : List Nat} (h : okS l) {k c : Nat} (e : l[k]? = some c) : okS [c] := okS_1 (h c (List.mem_of_getElem? e))
private theorem okS_nil : okS [] := fun zz h => absurd h List.not_mem_nil
private theorem mkS {l : List Nat} {x : Str} (h : x.cps.toList = l) : x = ⟨l.toArray⟩ := h ▸ rfl
section
variable {X : Amb} {D : Nat} {sc : Names} {L : Lc} {m m1 m2 m3 m4 : Mem}
noncomputable abbrev WP (X : Amb) := @wpAny
private theorem Bin.ofI {op : Value → Value → Sem Value} {a b c : Int} (h : ∀ t u A s (Q E : Value → Shared → Prop), (∀ k, Q (.int c k) { s with toks := s.toks + 1 }) → wpAny (model X.prog X.w) A (op (.int a t) (.int b u)) Q E s) : Bin X D op m (.int a) (.int b) (.int c) :=
  fun A d v w R S r q Q E k => r.i_int.elim fun t e => q.i_int.elim fun u f => e ▸ f ▸ h t u A _ Q E fun n => k _ _ (.tok S (.int _ n) _)
private theorem Bin.ofB {op : Value → Value → Sem Value} {a b : Int} {c : Bool} (h : ∀ t u A s (Q E : Value → Shared → Prop), Q (.bool c) s → wpAny (model X.prog X.w) A (op (.int a t) (.int b u)) Q E s) : Bin X D op m (.int a) (.int b) (.bool c) :=
  fun A d v w R S r q Q E k => r.i_int.elim fun t e => q.i_int.elim fun u f => e ▸ f ▸ h t u A _ Q E (k _ _ (.now S (.bool _)))
private theorem Bin.ofS {op : Value → Value → Sem Value} {a b c : List Nat} (h : ∀ t u A s (Q E : Value → Shared → Prop), (∀ k n, Q (.str ⟨c.toArray⟩ k) { s with toks := n }) → wpAny (model X.prog X.w) A (op (.str ⟨a.toArray⟩ t) (.str ⟨b.toArray⟩ u)) Q E s) : Bin X D op m (.str a) (.str b) (.str c) :=
  fun A d v w R S r q Q E k => r.i_str.elim fun t e => q.i_str.elim fun u f => e ▸ f ▸ h t u A _ Q E fun t n => k _ _ (.tok S (.str _ t) n)
private theorem Bin.add {a b : Int} : Bin X D (binaryOp .Add) m (.int a) (.int b) (.int (a + b)) := .ofI fun t u A s Q E h => wpAny_add_int (h _)
private theorem Bin.sub {a b : Int} : Bin X D (binaryOp .Sub) m (.int a) (.int b) (.int (a - b)) := .ofI fun t u A s Q E h => sub_int' (h _)
private theorem bits63 {a : Int} (h : a.natAbs < 2 ^ 63) : Builtin.Int.intBits a ≤ 64 := Nat.le_succ_of_le (intBits_le h)
private theorem Bin.mul {a b : Int} (hb : a.natAbs < 2 ^ 63 ∨ b.natAbs < 2 ^ 63) : Bin X D (binaryOp .Mult) m (.int a) (.int b) (.int (a * b)) := .ofI fun t u A s Q E h => mul_int (h _) (hb.elim (fun q => .of_left (bits63 q)) fun q => .of_right (bits63 q))
private theorem Bin.div {a b : Int} (h0 : b ≠ 0) (h1 : b.natAbs < 1073741824) : Bin X D (binaryOp .FloorDiv) m (.int a) (.int b) (.int (a.fdiv b)) := .ofI fun t u A s Q E h => floordiv_int h0 (h _) (.inl (PyProof.noPylong_small h1))
private theorem Bin.mod {a b : Int} (h0 : b ≠ 0) : Bin X D (binaryOp .Mod) m (.int a) (.int b) (.int (a.fmod b)) := .ofI fun t u A s Q E h => mod_int' h0 (h _)
private theorem Bin.shl {a n : Int} (h0 : 0 ≤ n) (h1 : n ≤ 1000) (h2 : a.natAbs < 2 ^ 1000) : Bin X D (binaryOp .LShift) m (.int a) (.int n) (.int (a * 2 ^ n.toNat)) := .ofI fun t u A s Q E h => lshift_int h0 (by have := intBits_le h2; lia) (h _)
private theorem Bin.shr {a n : Int} (h0 : 0 ≤ n) : Bin X D (binaryOp .RShift) m (.int a) (.int n) (.int (a.fdiv (2 ^ n.toNat))) := .ofI fun t u A s Q E h => rshift_int h0 (h _)
private theorem Bin.and {a b : Int} : Bin X D (binaryOp .BitAnd) m (.int a) (.int b) (.int (Builtin.bitAnd a b)) := .ofI fun t u A s Q E h => and_int (h _)
private theorem Bin.xor {a b : Int} : Bin X D (binaryOp .BitXor) m (.int a) (.int b) (.int (Builtin.bitXor a b)) := .ofI fun t u A s Q E h => xor_int (h _)
private theorem Bin.iadd {a b : Int} : Bin X D (inplaceOp .Add) m (.int a) (.int b) (.int (a + b)) := .ofI fun t u A s Q E h => PyProof.Rows.iadd_int (h _)
private theorem Bin.isub {a b : Int} : Bin X D (inplaceOp .Sub) m (.int a) (.int b) (.int (a - b)) := .ofI fun t u A s Q E h => PyProof.Rows.isub_int (h _)
private theorem Un.neg {a : Int} : Un X D (unaryOp .USub) m (.int a) (.int (-a)) := fun A c v R S r Q E k => r.i_int.elim fun t e => e ▸ PyProof.Rows.neg_int (k _ _ (.tok S (.int _ _) _))
private theorem Un.inv {a : Int} : Un X D (unaryOp .Invert) m (.int a) (.int (Builtin.bitNot a)) := fun A c v R S r Q E k => r.i_int.elim fun t e => e ▸ PyProof.Rows.invert_int (k _ _ (.tok S (.int _ _) _))
private theorem Bin.lt {a b : Int} : Bin X D (compareOp .Lt) m (.int a) (.int b) (.bool (decide (a < b))) := .ofB fun t u A s Q E h => wpAny_lt_int h
private theorem Bin.le {a b : Int} : Bin X D (compareOp .LtE) m (.int a) (.int b) (.bool (decide (a ≤ b))) := .ofB fun t u A s Q E h => PySem.P.le_int h
private theorem Bin.gt {a b : Int} : Bin X D (compareOp .Gt) m (.int a) (.int b) (.bool (decide (b < a))) := .ofB fun t u A s Q E h => PySem.P.gt_int h
private theorem appS (x y : List Nat) : (⟨x.toArray⟩ : Str) ++ ⟨y.toArray⟩ = ⟨(x ++ y).toArray⟩ := congrArg Str.mk (List.append_toArray x y)
private theorem sz2 {x y : List Nat} {n : Nat} (h : x.length + y.length ≤ n) : (⟨x.toArray⟩ : Str).length + (⟨y.toArray⟩ : Str).length ≤ n := h
private theorem Bin.addS {x y : List Nat} (h : x.length + y.length ≤ 2 ^ 24) : Bin X D (binaryOp .Add) m (.str x) (.str y) (.str (x ++ y)) := .ofS fun t u A s Q E k => SB.add (fun t n => appS x y ▸ k _ _) (sz2 h)
private theorem Bin.iaddS {x y : List Nat} (h : x.length + y.length ≤ 2 ^ 24) : Bin X D (inplaceOp .Add) m (.str x) (.str y) (.str (x ++ y)) := .ofS fun t u A s Q E k => SB.iadd (fun t n => appS x y ▸ k _ _) (sz2 h)
private theorem Tru.none : Tru X m .none false := fun A c v S r Q E k => r.i_none ▸ truthy_none (k _)
private theorem Tru.bool {b : Bool} : Tru X m (.bool b) b := fun A c v S r Q E k => r.i_bool ▸ wpAny_truthy_bool (k c.s.toks)
private theorem Tru.int {i : Int} : Tru X m (.int i) (i != 0) := fun A c v S r Q E k => r.i_int.elim fun t e => e ▸ PyProof.Rows.truthy_int (k _)
private theorem truLst {A : Around} {s : Shared} {M : Map} {a : Addr} {xs : List AV} {vs : List Value} {n : Nat} (ha : s.heap.get? a = some (lo vs n)) (r : Reps M xs vs) (hz : xs.length ≤ 2 ^ 24) {Q : Bool → Shared → Prop} {E : Value → Shared → Prop} (k : ∀ n, Q (!xs.isEmpty) { s with toks := n }) :
    wpAny (model X.prog X.w) A (truthy (.ref a)) Q E s := wpAny_truthy_list (items := vs.toArray) ⟨_, ha, rfl, n, rfl⟩ (by rw [← r.len] at hz; simp; lia) (by
  have : (!vs.toArray.isEmpty) = (!xs.isEmpty) := by
    have := r.len
    cases xs <;> cases vs <;> simp_all
  rw [this]; exact k _)
private theorem Sep.mlist {s : Shared} {M : Map} (S : Sep X s M m) {a : Addr} {i : Nat} {xs : List AV} (h : M.h a = some (.mu i)) (e : m[i]? = some (.lst xs)) : ∃ vs n, s.heap.get? a = some (lo vs n) ∧ Reps M xs vs := by
  cases S.mu h e with
  | lst g r => exact ⟨_, _, g, r⟩
private theorem Tru.mref {i : Nat} {l : List AV} (e : m[i]? = some (.lst l)) (h : l.length ≤ 2 ^ 24) : Tru X m (.mref i) (!l.isEmpty) := fun A c v S r Q E k => by
  cases r.i_mref with
  | mk a => obtain ⟨vs, n, g, q⟩ := S.mlist a e; exact truLst g q h k
private theorem Bin.isNN : Bin X D (compareOp .Is) m .none .none (.bool true) := fun A c v w R S r q Q E k => by rw [r.i_none, q.i_none]; exact wpAny_of_eq (a := .bool true) rfl (k _ _ (.now S (.bool _)))
private theorem Bin.isIN {i : Int} : Bin X D (compareOp .Is) m (.int i) .none (.bool false) := fun A c v w R S r q Q E k => r.i_int.elim fun t e => e ▸ q.i_none ▸ wpAny_of_eq (a := .bool false) rfl (k _ _ (.now S (.bool _)))
private theorem Bin.isEN {a : Addr} : Bin X D (compareOp .Is) m (.ext (.ref a)) .none (.bool false) := fun A c v w R S r q Q E k => r.i_ext ▸ q.i_none ▸ wpAny_of_eq (a := .bool false) rfl (k _ _ (.now S (.bool _)))
private theorem Bin.isB {a b : Bool} : Bin X D (compareOp .Is) m (.bool a) (.bool b) (.bool (a == b)) := fun A c v w R S r q Q E k => r.i_bool ▸ q.i_bool ▸ wpAny_of_eq (a := .bool (a == b)) (by cases a <;> cases b <;> rfl) (k _ _ (.now S (.bool _)))
private theorem Bin.isNotB {a b : Bool} : Bin X D (compareOp .IsNot) m (.bool a) (.bool b) (.bool (a != b)) := fun A c v w R S r q Q E k => r.i_bool ▸ q.i_bool ▸ wpAny_of_eq (a := .bool (a != b)) (by cases a <;> cases b <;> rfl) (k _ _ (.now S (.bool _)))
noncomputable def Rds (m : Mem) (x : AV) (d : PyData) : Prop := ∀ (X : Amb) s M v, Sep X s M m → Rep M x v → ∃ bs, Reads s.heap v d bs
noncomputable def RdsAll (m : Mem) (xs : List AV) (ds : List PyData) : Prop := ∀ (X : Amb) s M vs, Sep X s M m → Reps M xs vs → ∃ bs, ReadsAll s.heap vs ds bs
private theorem Rds.bool {b : Bool} : Rds m (.bool b) (.bool b) := fun X s M v S r => r.i_bool ▸ ⟨_, .bool b⟩
private theorem Rds.int {i : Int} : Rds m (.int i) (.int i) := fun X s M v S r => r.i_int.elim fun t e => e ▸ ⟨_, .int i t⟩
noncomputable def pyS (l : List Nat) : PyData := .str ⟨l.toArray⟩
private theorem Rds.str {l : List Nat} : Rds m (.str l) (pyS l) := fun X s M v S r => r.i_str.elim fun t e => e ▸ ⟨_, .str _ t⟩
private theorem RdsAll.nil : RdsAll m [] [] := fun X s M v S r => r.i_nil ▸ ⟨_, .nil⟩
private theorem RdsAll.cons {x : AV} {d : PyData} {xs : List AV} {ds : List PyData} (h : Rds m x d) (hs : RdsAll m xs ds) : RdsAll m (x :: xs) (d :: ds) := fun X s M v S r => by
  cases r.i_cons with
  | mk r1 rs =>
    obtain ⟨_, h1⟩ := h X s M _ S r1
    obtain ⟨_, h2⟩ := hs X s M _ S rs
    exact ⟨_, .cons h1 h2⟩
private theorem Rds.lst {xs : List AV} {ds : List PyData} (h : RdsAll m xs ds) : Rds m (.lst xs) (.list ds) := fun X s M v S r => by
  cases r.i_lst with
  | mk a b => obtain ⟨_, q⟩ := h X s M _ S b; exact ⟨_, .list (S.frz a) rfl rfl (by simpa using q)⟩
private theorem Rds.mref {i : Nat} {xs : List AV} {ds : List PyData} (e : m[i]? = some (.lst xs)) (h : RdsAll m xs ds) : Rds m (.mref i) (.list ds) := fun X s M v S r => by
  cases r.i_mref with
  | mk a => obtain ⟨vs, n, g, q⟩ := S.mlist a e; obtain ⟨_, q⟩ := h X s M _ S q; exact ⟨_, .list g rfl rfl (by simpa using q)⟩
private theorem RdsAll.map {α : Type} {f : α → AV} {g : α → PyData} (h : ∀ x, Rds m (f x) (g x)) : ∀ l : List α, RdsAll m (l.map f) (l.map g)
  | [] => .nil
  | x :: r => .cons (h x) (RdsAll.map h r)
private theorem RdsAll.strs (l : List (List Nat)) : RdsAll m (l.map .str) (l.map pyS) := .map (fun zz => .str) l
private theorem RdsAll.ints (l : List Int) : RdsAll m (l.map .int) (l.map .int) := .map (fun zz => .int) l
private theorem Bin.eq {x y : AV} {dx dy : PyData} {b : Bool} (hx : Rds m x dx) (hy : Rds m y dy) (sx : shaped dx = true) (sy : shaped dy = true) (e : PyData.eqv dx dy = b) (hD : 4 ≤ D) : Bin X D (compareOp .Eq) m x y (.bool b) := fun A c v w R S r q Q E k => by
  obtain ⟨_, h1⟩ := hx X _ _ _ S r
  obtain ⟨_, h2⟩ := hy X _ _ _ S q
  exact eq_dataH h1 h2 sx sy (by have := R.2.2; lia) (e ▸ k _ _ (.now S (.bool _)))
private theorem Bin.ne {x y : AV} {dx dy : PyData} {b : Bool} (hx : Rds m x dx) (hy : Rds m y dy) (sx : shaped dx = true) (sy : shaped dy = true) (e : PyData.eqv dx dy = b) (hD : 4 ≤ D) : Bin X D (compareOp .NotEq) m x y (.bool !b) := fun A c v w R S r q Q E k => by
  obtain ⟨_, h1⟩ := hx X _ _ _ S r
  obtain ⟨_, h2⟩ := hy X _ _ _ S q
  exact ne_dataH h1 h2 sx sy (by have := R.2.2; lia) (e ▸ k _ _ (.now S (.bool _)))
private theorem shaped_str {l : List Nat} (h : okS l) : shaped (pyS l) = true := by
  show (PyData.canLay0 (.str ⟨l.toArray⟩) && _) = true
  simp only [PyData.canLay0, PyData.strOk, PyData.depth, pyS]
  simp
  exact h
private theorem eqv_s {a b : List Nat} : PyData.eqv (pyS a) (pyS b) = decide (a = b) := by
  simp only [pyS, PyData.eqv]
  rw [Bool.eq_iff_iff]; simp
private theorem eqv_i {a b : Int} : PyData.eqv (.int a) (.int b) = decide (a = b) := by
  simp only [PyData.eqv]
  rw [Bool.eq_iff_iff]; simp
private theorem lay_str : ∀ xs : List (List Nat), (∀ l ∈ xs, okS l) → PyData.canLayAll0 (xs.map pyS) = true
  | [], _ => by simp [PyData.canLayAll0]
  | x :: r, h => by
    simp only [List.map_cons, PyData.canLayAll0, lay_str r fun l hl => h l (List.mem_cons_of_mem _ hl), Bool.and_true, pyS, PyData.canLay0, PyData.strOk]
    simp
    exact h x List.mem_cons_self
private theorem lay_int : ∀ xs : List Int, PyData.canLayAll0 (xs.map .int) = true
  | [] => by simp [PyData.canLayAll0]
  | x :: r => by simp only [List.map_cons, PyData.canLayAll0, lay_int r, Bool.and_true, PyData.canLay0]
private theorem dep_map {α : Type} {f : α → PyData} (h : ∀ x, (f x).depth = 0) : ∀ xs : List α, PyData.depthAll (xs.map f) = 0
  | [] => by simp [PyData.depthAll]
  | x :: r => by simp only [List.map_cons, PyData.depthAll, dep_map h r, h]; rfl
private theorem eqv_map {α : Type} [DecidableEq α] {f : α → PyData} (h : ∀ x y, PyData.eqv (f x) (f y) = decide (x = y)) : ∀ xs ys : List α, PyData.eqvAll (xs.map f) (ys.map f) = decide (xs = ys)
  | [], [] => by simp [PyData.eqvAll]
  | [], _ :: _ => by simp [PyData.eqvAll]
  | _ :: _, [] => by simp [PyData.eqvAll]
  | x :: r, y :: t => by
    simp only [List.map_cons, PyData.eqvAll, eqv_map h r t, h]
    rw [Bool.eq_iff_iff]; simp
private theorem shaped_strs {xs : List (List Nat)} (h : ∀ l ∈ xs, okS l) : shaped (.list (xs.map pyS)) = true := by
  show (PyData.canLay0 (.list _) && _) = true
  simp only [PyData.canLay0, lay_str xs h, PyData.depth, dep_map (f := pyS) (fun zz => by simp only [pyS, PyData.depth])]; rfl
private theorem shaped_ints (xs : List Int) : shaped (.list (xs.map .int)) = true := by
  show (PyData.canLay0 (.list _) && _) = true
  simp only [PyData.canLay0, lay_int xs, PyData.depth, dep_map (f := .int) (fun zz => by simp only [PyData.depth])]; rfl
private theorem eqv_ss {a b : List (List Nat)} : PyData.eqv (.list (a.map pyS)) (.list (b.map pyS)) = decide (a = b) := by simp only [PyData.eqv, eqv_map (fun zz zz => eqv_s)]
private theorem eqv_is {a b : List Int} : PyData.eqv (.list (a.map .int)) (.list (b.map .int)) = decide (a = b) := by simp only [PyData.eqv, eqv_map (fun zz zz => eqv_i)]
private theorem Bin.eqI {a b : Int} (hD : 4 ≤ D) : Bin X D (compareOp .Eq) m (.int a) (.int b) (.bool (decide (a = b))) := .eq .int .int rfl rfl eqv_i hD
private theorem Bin.neI {a b : Int} (hD : 4 ≤ D) : Bin X D (compareOp .NotEq) m (.int a) (.int b) (.bool !(decide (a = b))) := .ne .int .int rfl rfl eqv_i hD
private theorem Bin.eqS {a b : List Nat} (ha : okS a) (hb : okS b) (hD : 4 ≤ D) : Bin X D (compareOp .Eq) m (.str a) (.str b) (.bool (decide (a = b))) := .eq .str .str (shaped_str ha) (shaped_str hb) eqv_s hD
private theorem Bin.neS {a b : List Nat} (ha : okS a) (hb : okS b) (hD : 4 ≤ D) : Bin X D (compareOp .NotEq) m (.str a) (.str b) (.bool !(decide (a = b))) := .ne .str .str (shaped_str ha) (shaped_str hb) eqv_s hD
private theorem addLists {A : Around} {c : Cf} {a b : Addr} {xs ys : List AV} {vs ws : List Value} {n k : Nat} (S : Hp X c m) (ha : c.s.heap.get? a = some (lo vs n)) (hb : c.s.heap.get? b = some (lo ws k)) (rx : Reps c.M xs vs) (ry : Reps c.M ys ws) (hz : xs.length + ys.length ≤ 2 ^ 24)
    {Q E : Value → Shared → Prop} (h : ∀ v d, Got X c m (.lst (xs ++ ys)) v d → Q v d.s) : wpAny (model X.prog X.w) A (binaryOp .Add (.ref a) (.ref b)) Q E c.s :=
  PySem.P.add_list ha hb (by
    rw [List.append_toArray vs ws]
    exact h _ _ (Got.newLst S (rx.app ry) c.s.toks)) (by rw [← rx.len, ← ry.len] at hz; exact hz)
private theorem Bin.addL {xs ys : List AV} (hz : xs.length + ys.length ≤ 2 ^ 24) : Bin X D (binaryOp .Add) m (.lst xs) (.lst ys) (.lst (xs ++ ys)) := fun A c v w R S r q Q E k => by
  cases r.i_lst with
  | mk a b => cases q.i_lst with
    | mk a' b' => exact addLists S (S.frz a) (S.frz a') b b' hz k
private theorem Bin.addML {i : Nat} {xs ys : List AV} (e : m[i]? = some (.lst xs)) (hz : xs.length + ys.length ≤ 2 ^ 24) : Bin X D (binaryOp .Add) m (.mref i) (.lst ys) (.lst (xs ++ ys)) := fun A c v w R S r q Q E k => by
  cases r.i_mref with
  | mk a => cases q.i_lst with
    | mk a' b' => obtain ⟨vs, n, g, b⟩ := S.mlist a e; exact addLists S g (S.frz a') b b' hz k
end
end
section
open PySem PySem.W PyProof.Rows PySem.Calls PySem.SeqAt
section
variable {X : Amb} {D : Nat} {sc : Names} {L : Lc} {m m1 m2 m3 m4 : Mem}
noncomputable def Plain (e : Expr) : Prop := ∀ o i, subscripted e false o i = operate [o, i] (getItem o i)
noncomputable abbrev Sub (X : Amb) (D : Nat) (m : Mem) (x y r : AV) : Prop := ∀ ev es, Plain es → Bin X D (fun o i => subscriptTail ev es o i) m x y r
private theorem PE.sub {a b : Expr} {p : Pos} {x y r : AV} (ha : PE X D sc a L m x m1) (hb : PE X D sc b L m1 y m2) (ho : Sub X D m2 x y r) (hs : Plain b) : PE X D sc (.Subscript a b p) L m r m2 :=
  fun env A c T Q E k => Subscript_ (ha env A c T _ _ fun va d g => hb env A d (T.up g.l g.h) _ _ fun vb d2 g2 => ho _ _ hs A d2 va vb T.R g2.h (g.r.up g2.l) g2.r Q E fun v d3 g3 => k v d3 (g3.fr (g.l.tr g2.l)))
private theorem lt62 {i : Int} (h : i < 2 ^ 62) : i < 2 ^ 63 := Int.lt_trans h (by decide)
private theorem idxLst {A : Around} {s : Shared} {M : Map} {a : Addr} {xs : List AV} {vs : List Value} {n : Nat} {i : Int} {t : Tok} {x : AV} (ha : s.heap.get? a = some (lo vs n)) (r : Reps M xs vs) (h0 : 0 ≤ i) (h1 : i < 2 ^ 62) (hx : xs[i.toNat]? = some x) {ev es : Expr} (hs : Plain es)
    {Q E : Value → Shared → Prop} (k : ∀ v, Rep M x v → Q v s) : wpAny (model X.prog X.w) A (subscriptTail ev es (.ref a) (.int i t)) Q E s := by
  obtain ⟨v, hv, rv⟩ := r.get hx
  exact tail_any (T := "list") ⟨_, ha, rfl⟩ PySem.slot_list_getitem.lookup (wpAny_getItem_list (items := vs.toArray) ⟨_, ha, rfl, n, rfl⟩ h0 (lt62 h1) (by simpa using hv) (k v rv)) (hs _ _)
private theorem Sub.lst {xs : List AV} {i : Int} {x : AV} (h0 : 0 ≤ i) (h1 : i < 2 ^ 62) (hx : xs[i.toNat]? = some x) : Sub X D m (.lst xs) (.int i) x := fun ev es hs A c v w R S r q Q E k => by
  obtain ⟨t, rfl⟩ := q.i_int
  cases r.i_lst with
  | mk a b => exact idxLst (S.frz a) b h0 h1 hx hs fun v rv => k v _ (.now S rv)
private theorem Sub.mut {j : Nat} {xs : List AV} {i : Int} {x : AV} (e : m[j]? = some (.lst xs)) (h0 : 0 ≤ i) (h1 : i < 2 ^ 62) (hx : xs[i.toNat]? = some x) : Sub X D m (.mref j) (.int i) x := fun ev es hs A c v w R S r q Q E k => by
  obtain ⟨t, rfl⟩ := q.i_int
  cases r.i_mref with
  | mk a => obtain ⟨vs, n, g, b⟩ := S.mlist a e; exact idxLst g b h0 h1 hx hs fun v rv => k v _ (.now S rv)
noncomputable def PP (X : Amb) (D : Nat) (sc : Names) (e : Option Expr) (L : Lc) (m : Mem) (i : Option Int) (m' : Mem) : Prop :=
  ∀ (env : Env) (A : Around) (c : Cf), At X D sc env A c L m → ∀ Q E, (∀ t d, Gt X c m' d → Q (partValue (i.map fun i => (i, t))) d.s) → wpAny (model X.prog X.w) A (evalPart e env) Q E c.s
private theorem PP.none : PP X D sc Option.none L m Option.none m := fun env A c T Q E k => wpAny_pure (k 0 c ⟨Map.le.rf _, T.S⟩)
private theorem PP.some {e : Expr} {i : Int} (h : PE X D sc e L m (.int i) m1) : PP X D sc (Option.some e) L m (Option.some i) m1 := fun env A c T Q E k => h env A c T _ _ fun v d g => g.r.i_int.elim fun t e => e ▸ k t d ⟨g.l, g.h⟩
private theorem revAt (a n : Nat) : ((a : Int) - 1 + -1 * (n : Int)).toNat = a - 1 - n := by
  rw [Int.neg_one_mul]
  rcases Nat.eq_zero_or_pos a with h | h
  · subst h
    refine (Int.toNat_of_nonpos (Int.add_nonpos (by decide) (Int.neg_nonpos_of_nonneg (Int.natCast_nonneg n)))).trans ?_
    exact (Nat.zero_sub n).symm
  · rw [← Int.sub_eq_add_neg, show (a : Int) - 1 = ((a - 1 : Nat) : Int) from (Int.natCast_sub h).symm]; exact Int.toNat_sub ..
noncomputable def sl {α : Type} (lo hi : Option Int) (xs : List α) : List α := (xs.take (hi.elim xs.length (clipAt xs.length))).drop (lo.elim 0 (clipAt xs.length))
private theorem clipAt_le (n : Nat) (i : Int) : clipAt n i ≤ n := by
  have := clipAt_cast n i
  omega
private theorem sliceRange_one (a b : Nat) : sliceRange (a : Int) (b : Int) 1 = (List.range (b - a)).map (a + ·) := by
  unfold sliceRange
  simp only [show (1 : Int) > 0 by decide, if_true, Int.ediv_one]
  have : (if (a : Int) < (b : Int) then (b : Int) - a + 1 - 1 else 0).toNat = b - a := by split <;> lia
  rw [this]
  exact List.map_congr_left fun k zz => by lia
private theorem picks_range {α : Type} (xs : List α) (a b : Nat) (hb : b ≤ xs.length) : ((List.range (b - a)).map (a + ·)).filterMap (xs[·]?) = (xs.take b).drop a := by
  have key : ∀ (n a : Nat), a + n ≤ xs.length → ((List.range n).map (a + ·)).filterMap (xs[·]?) = (xs.take (a + n)).drop a := by
    intro n
    induction n with
    | zero => intro a h; simp
    | succ n ih =>
      intro a h
      have hlt : a + n < xs.length := h
      rw [List.range_succ, List.map_append, List.filterMap_append, ih a (Nat.le_of_lt hlt)]
      simp only [List.map_cons, List.map_nil, List.filterMap_cons, List.filterMap_nil, List.getElem?_eq_getElem hlt]
      have e : xs.take (a + (n + 1)) = xs.take (a + n) ++ [xs[a + n]] := by
        rw [← Nat.add_assoc, List.take_add_one, List.getElem?_eq_getElem hlt]; rfl
      rw [e, List.drop_append_of_le_length (by simp; lia)]
  by_cases h : a ≤ b
  · have := key (b - a) a (by lia)
    rw [this, Nat.add_sub_cancel' h]
  · rw [Nat.sub_eq_zero_of_le (Nat.le_of_not_le h), List.drop_eq_nil_of_le (by simp; lia)]; rfl
private theorem hi_le {n : Nat} (hi : Option Int) : hi.elim n (clipAt n) ≤ n := by
  cases hi with
  | none => exact Nat.le_refl _
  | some i => exact clipAt_le _ _
private theorem picks_sl {α : Type} (lo hi : Option Int) (xs : List α) : (sliceRange (sliceBounds lo hi none xs.length).1 (sliceBounds lo hi none xs.length).2.1 (sliceBounds lo hi none xs.length).2.2).filterMap (xs[·]?) = sl lo hi xs := by
  rw [sliceBounds_plain]
  dsimp only
  rw [sliceRange_one, picks_range _ _ _ (hi_le hi)]
  rfl
private theorem strIndices (lo hi : Option Int) (n : Nat) : Builtin.Str.strSliceIndices lo hi 1 n = (List.range ((hi.elim n (clipAt n)) - (lo.elim 0 (clipAt n)))).map ((lo.elim 0 (clipAt n)) + ·) := by
  have : Builtin.Str.strSliceIndices lo hi 1 n = sliceRange (sliceBounds lo hi none n).1 (sliceBounds lo hi none n).2.1 1 := by
    cases lo <;> cases hi <;> rfl
  rw [this, sliceBounds_plain]
  dsimp only
  rw [sliceRange_one]
private theorem strSl_sl (lo hi : Option Int) (l : List Nat) : Txt.slice ⟨l.toArray⟩ lo hi = ⟨(sl lo hi l).toArray⟩ := by
  refine mkS ?_
  have hb := hi_le (n := l.length) hi
  have hlen : (⟨l.toArray⟩ : Str).length = l.length := rfl
  unfold Txt.slice
  rw [hlen, strIndices]
  split
  · rename_i h
    simp only [beq_self_eq_true, Bool.true_and, List.length_map, List.length_range, beq_iff_eq] at h
    unfold sl
    have h0 : lo.elim 0 (clipAt l.length) = 0 ∧ hi.elim l.length (clipAt l.length) = l.length := by
      have : lo.elim 0 (clipAt l.length) ≤ l.length := by
        cases lo with
        | none => exact Nat.zero_le _
        | some i => exact clipAt_le _ _
      lia
    rw [h0.1, h0.2]; simp
  · have := picks_range l (lo.elim 0 (clipAt l.length)) (hi.elim l.length (clipAt l.length)) hb
    have e : (fun i : Nat => (⟨l.toArray⟩ : Str).cps[i]?) = fun i : Nat => l[i]? := by funext i; simp
    simp only [e]
    exact this
private theorem picks_rev {α : Type} (xs : List α) : (sliceRange (sliceBounds none none (some (-1)) xs.length).1 (sliceBounds none none (some (-1)) xs.length).2.1 (sliceBounds none none (some (-1)) xs.length).2.2).filterMap (xs[·]?) = xs.reverse := by
  unfold sliceBounds
  simp only [Option.getD_some, show ¬ ((-1 : Int) > 0) by decide, if_false]
  unfold sliceRange
  simp only [show ¬ ((-1 : Int) > 0) by decide, if_false, Int.neg_neg, Int.ediv_one]
  have hc : (if (xs.length : Int) - 1 > -1 then (xs.length : Int) - 1 - -1 - -1 - 1 else 0).toNat = xs.length := by split <;> lia
  rw [hc]
  have key : ∀ n, n ≤ xs.length → (((List.range n).map fun (k : Nat) => ((xs.length : Int) - 1 + -1 * (k : Int)).toNat).filterMap (xs[·]?)) = xs.reverse.take n := by
    intro n
    induction n with
    | zero => intro _; simp
    | succ n ih =>
      intro h
      rw [List.range_succ, List.map_append, List.filterMap_append, ih (Nat.le_of_lt h)]
      have h1 : ((xs.length : Int) - 1 + -1 * (n : Int)).toNat = xs.length - 1 - n := revAt xs.length n
      have h2 : xs.length - 1 - n < xs.length := Nat.lt_of_le_of_lt (Nat.sub_le ..) (Nat.sub_one_lt (Nat.ne_of_gt (Nat.lt_of_le_of_lt (Nat.zero_le n) h)))
      simp only [List.map_cons, List.map_nil, List.filterMap_cons, List.filterMap_nil, h1, List.getElem?_eq_getElem h2]
      rw [List.take_add_one, List.getElem?_reverse h, List.getElem?_eq_getElem h2]; rfl
  rw [key xs.length (Nat.le_refl _), List.take_of_length_le (by simp)]
noncomputable def pick {α : Type} (lo hi st : Option Int) (xs : List α) : List α := (sliceRange (sliceBounds lo hi st xs.length).1 (sliceBounds lo hi st xs.length).2.1 (sliceBounds lo hi st xs.length).2.2).filterMap (xs[·]?)
private theorem Reps.fm {M : Map} {xs : List AV} {vs : List Value} (r : Reps M xs vs) : ∀ is : List Nat, Reps M (is.filterMap (xs[·]?)) (is.filterMap (vs[·]?))
  | [] => .nil
  | i :: is => by
    rw [List.filterMap_cons, List.filterMap_cons]
    cases h : xs[i]? with
    | none =>
      rw [show vs[i]? = none by rw [List.getElem?_eq_none_iff] at h ⊢; rw [r.len]; exact h]
      exact r.fm is
    | some x =>
      obtain ⟨v, h', q⟩ := r.get h
      rw [h']
      exact .cons q (r.fm is)
private theorem isPart {i : Option Int} {t : Tok} : IsPart (partValue (i.map fun i => (i, t))) i := by
  cases i with
  | none => exact IsPart.none
  | some i => exact IsPart.int i t
noncomputable def Slc (X : Amb) (m : Mem) (l u st : Option Int) (x r : AV) : Prop := ∀ (A : Around) (c : Cf) (v vl vu vt : Value) (sl : Addr) (e : Expr), Hp X c m → Rep c.M x v → c.s.heap.IsSliceOf sl vl vu vt → (∃ t, vl = partValue (l.map fun i => (i, t))) → (∃ t, vu = partValue (u.map fun i => (i, t))) → (∃ t, vt = partValue (st.map fun i => (i, t))) →
  (∃ ops, subscripted e false v (.ref sl) = operate ops (getItem v (.ref sl))) → ∀ ev Q E, (∀ v d, Got X c m r v d → Q v d.s) → wpAny (model X.prog X.w) A (subscriptTail ev e v (.ref sl)) Q E c.s
private theorem slcLst {A : Around} {c : Cf} {a s : Addr} {xs : List AV} {vs : List Value} {n : Nat} {vl vu vt : Value} {l u st : Option Int} (S : Hp X c m) (ha : c.s.heap.get? a = some (lo vs n)) (r : Reps c.M xs vs) (hsl : c.s.heap.IsSliceOf s vl vu vt) (pl : ∃ t, vl = partValue (l.map fun i => (i, t))) (pu : ∃ t, vu = partValue (u.map fun i => (i, t)))
    (ps : ∃ t, vt = partValue (st.map fun i => (i, t))) (h0 : st ≠ some 0) (hz : xs.length ≤ 2 ^ 24) {e ev : Expr} (hop : ∃ ops, subscripted e false (.ref a) (.ref s) = operate ops (getItem (.ref a) (.ref s))) {Q E : Value → Shared → Prop} (k : ∀ v d, Got X c m (.lst (pick l u st xs)) v d → Q v d.s) :
    wpAny (model X.prog X.w) A (subscriptTail ev e (.ref a) (.ref s)) Q E c.s := by
  obtain ⟨t1, rfl⟩ := pl
  obtain ⟨t2, rfl⟩ := pu
  obtain ⟨t3, rfl⟩ := ps
  refine hop.elim fun ops q => tail_any (T := "list") ⟨_, ha, rfl⟩ PySem.slot_list_getitem.lookup (wpAny_getItem_list_slice (items := vs.toArray) ⟨_, ha, rfl, n, rfl⟩ hsl isPart isPart isPart h0 ?_ (r.sz hz)) q
  have e : slicePick vs.toArray l u st = (pick l u st vs).toArray := by
    unfold slicePick pick
    simp
  rw [e]
  refine k _ _ (Got.newLst S ?_ c.s.toks)
  unfold pick
  rw [← r.len]
  exact r.fm _
private theorem Slc.pL {l u st : Option Int} {xs : List AV} (hz : xs.length ≤ 2 ^ 24) (h0 : st ≠ some 0) : Slc X m l u st (.lst xs) (.lst (pick l u st xs)) := fun A c v vl vu vt sl e S r hs pl pu ps hop ev Q E k => by
  cases r.i_lst with
  | mk a b => exact slcLst S (S.frz a) b hs pl pu ps h0 hz hop k
private theorem Slc.lst {l u : Option Int} {xs : List AV} (hz : xs.length ≤ 2 ^ 24) : Slc X m l u none (.lst xs) (.lst (sl l u xs)) := by
  have := Slc.pL (X := X) (m := m) (l := l) (u := u) hz (st := none) nofun
  unfold pick at this
  rwa [picks_sl] at this
private theorem Slc.rev {xs : List AV} (hz : xs.length ≤ 2 ^ 24) : Slc X m none none (some (-1)) (.lst xs) (.lst xs.reverse) := by
  have := Slc.pL (X := X) (m := m) (l := none) (u := none) hz (st := some (-1)) (by decide)
  unfold pick at this
  rwa [picks_rev] at this
private theorem sl_len {α : Type} {l u : Option Int} (xs : List α) : (sl l u xs).length ≤ xs.length := by
  unfold sl
  rw [List.length_drop]
  exact Nat.le_trans (Nat.sub_le ..) (List.length_take_le' ..)
private theorem Slc.str {l u : Option Int} {xs : List Nat} (hz : xs.length ≤ 2 ^ 24) : Slc X m l u none (.str xs) (.str (sl l u xs)) := fun A c v vl vu vt sa e S r hs pl pu ps hop ev Q E k => by
  obtain ⟨t, rfl⟩ := r.i_str
  obtain ⟨t1, rfl⟩ := pl
  obtain ⟨t2, rfl⟩ := pu
  obtain ⟨t3, rfl⟩ := ps
  obtain ⟨ops, q⟩ := hop
  obtain ⟨os, g, c1, c2⟩ := hs
  refine tail_any (T := "str") (typeIs_str _ _ _) F.slot_str_getitem.lookup (wpAny_getItem_str_slice (l := l.map fun i => (i, t1)) (u := u.map fun i => (i, t2)) (st := Option.none) ⟨os, g, c1, c2⟩ rfl ?_) q
  have e : ∀ u : Option Int, ∀ t : Tok, (u.map fun i => (i, t)).map (·.1) = u := fun u t => by cases u <;> rfl
  unfold sliceMade slicePicked
  simp only [e, Option.map_none, Option.getD_none]
  have fin : ∀ n t', Q (.str (Txt.slice ⟨xs.toArray⟩ l u) t') { c.s with toks := n } := fun n t' => k _ _ (.tok S (strSl_sl l u xs ▸ .str _ t') n)
  have len : (Txt.slice ⟨xs.toArray⟩ l u).length ≤ sizeLine := by rw [strSl_sl]; exact Nat.le_trans (sl_len xs) hz
  unfold Txt.slice at fin len
  split
  · rename_i hc
    rw [if_pos hc] at fin
    exact fin _ _
  · rename_i hc
    rw [if_neg hc] at fin len
    exact ⟨len, fin _ _⟩
private theorem PE.slice {a : Expr} {l u st : Option Expr} {p p' : Pos} {x r : AV} {il iu is : Option Int} (ha : PE X D sc a L m x m1) (hl : PP X D sc l L m1 il m2) (hu : PP X D sc u L m2 iu m3) (ht : PP X D sc st L m3 is m4) (ho : Slc X m4 il iu is x r)
    (hs : ∀ o i, ∃ ops, subscripted (.Slice l u st p) false o i = operate ops (getItem o i)) : PE X D sc (.Subscript a (.Slice l u st p) p') L m r m4 := fun env A c T Q E k =>
  Subscript_ (ha env A c T _ _ fun va d g => wpAny_Slice (hl env A d (T.up g.l g.h) _ _ fun t1 d2 g2 => hu env A d2 (T.up (g.l.tr g2.l) g2.h) _ _ fun t2 d3 g3 => ht env A d3 (T.up ((g.l.tr g2.l).tr g3.l) g3.h) _ _ fun t3 d4 g4 =>
    have le := Map.le_set (.frz { cls := .type "slice", data := .fields #[partValue (il.map fun i => (i, t1)), partValue (iu.map fun i => (i, t2)), partValue (is.map fun i => (i, t3))] }) g4.h.top
    ho A ⟨{ d4.s with heap := _, toks := d4.s.toks }, _⟩ va _ _ _ _ _ (g4.h.new { cls := .type "slice", data := .fields #[partValue (il.map fun i => (i, t1)), partValue (iu.map fun i => (i, t2)), partValue (is.map fun i => (i, t3))] } rfl d4.s.toks)
      (g.r.up (((g2.l.tr g3.l).tr g4.l).tr le)) ⟨_, Heap.get?_push_size _ rfl, rfl, rfl⟩ ⟨t1, rfl⟩ ⟨t2, rfl⟩ ⟨t3, rfl⟩ (hs _ _) _ _ _ fun v d5 g5 => k v d5 (g5.fr ((((g.l.tr g2.l).tr g3.l).tr g4.l).tr le))))
end
end
section
open PySem PySem.W PyProof.Rows PySem.Calls PySem.SeqAt
structure Map.leB (own : List Addr) (M N : Map) : Prop where
  h : ∀ a x, a ∉ own → M.h a = some x → N.h a = some x
  g : ∀ i x, M.g i = some x → N.g i = some x
private theorem Map.le.b {M N : Map} (l : M.le N) (own : List Addr) : Map.leB own M N := ⟨fun a x zz => l.h a x, l.g⟩
private theorem Map.leB.rf {own : List Addr} (M : Map) : Map.leB own M M := (Map.le.rf M).b own
private theorem Map.leB.tr {own : List Addr} {M N O : Map} (x : Map.leB own M N) (y : Map.leB own N O) : Map.leB own M O := ⟨fun a c n e => y.h a c n (x.h a c n e), fun i c e => y.g i c (x.g i c e)⟩
private theorem Map.leB.set {own : List Addr} {M : Map} {a : Addr} (x : Cel) (h : a ∈ own) : Map.leB own M (M.set a x) := ⟨fun b y n e => by rw [Map.set_ne _ _ fun (q : b = a) => n (by rw [q]; exact h)]; exact e, fun zz zz e => e⟩
private theorem Map.set_le0 {M : Map} {a : Addr} {o : Obj} (x : Cel) (h : M.h a = some (.pin o)) : M.le0 (M.set a x) := fun b y e n => by
  rw [Map.set_ne _ _ fun q => by subst q; rw [h] at e; cases e; exact n _ rfl]; exact e
structure FS (X : Amb) (env : Env) (sc : Names) (own : List Addr) (c : Cf) (mem : Mem) (L : Lc) : Prop where
  S : Hp X c mem
  N : EnvOk env sc c.M L
  ow : ∀ a ∈ own, (∃ o, c.M.h a = some (.pin o)) ∧ X.B.h a = none
  ns : ∃ m, c.s.heap.Ns env.locals m
  L : env.locals ∈ own
  cell : ∀ x a, env.cells.lookup x = some a → a ∈ own → ∃ v, c.s.heap.IsCell a v
  cL : ∀ x a, env.cells.lookup x = some a → a ∈ own → a ≠ env.locals
  inj : ∀ x y a, env.cells.lookup x = some a → env.cells.lookup y = some a → a ∈ own → x = y
section
variable {X : Amb} {env : Env} {sc : Names} {own : List Addr} {c d : Cf} {m m' : Mem} {L L' : Lc} {D : Nat}
private theorem FS.keep (F : FS X env sc own c m L) (l : c.M.le d.M) (h : Hp X d m') : FS X env sc own d m' L :=
  have k : ∀ a ∈ own, ∀ o, c.s.heap.get? a = some o → d.s.heap.get? a = some o := fun a ha o e => (F.ow a ha).1.elim fun q e' => by rw [F.S.pin e'] at e; cases e; exact h.pin (l.h _ _ e')
  { F with
    S := h
    N := F.N.up l
    ow := fun a ha => ⟨(F.ow a ha).1.imp fun o e => l.h _ _ e, (F.ow a ha).2⟩
    ns := F.ns.imp fun m h => by obtain ⟨o, es, ep, e, r⟩ := h; exact ⟨o, es, ep, k _ F.L o e, r⟩
    cell := fun x a e ha => (F.cell x a e ha).imp fun v h => by obtain ⟨o, e, r⟩ := h; exact ⟨o, k a ha o e, r⟩ }
private theorem FS.weak (F : FS X env sc own c m L) (h : ∀ x v, L'.lookup x = some v → L.lookup x = some v) : FS X env sc own c m L' := { F with N := { F.N with var := fun x v e => F.N.var x v (h x v e) } }
private theorem FS.at' (F : FS X env sc own c m L) {A : Around} (R : Room A D) : At X D sc env A c L m := ⟨R, F.N, F.S⟩
private theorem FS.upd (F : FS X env sc own c m L) {a : Addr} {o' : Obj} {h' : Heap} {tk : Nat} (ha : a ∈ own) (hs : Heap.SameBut a c.s.heap h') (ho : h'.get? a = some o') (ns : ∃ m, h'.Ns env.locals m) (cell : ∀ x, env.cells.lookup x = some a → ∃ v, h'.IsCell a v)
    (var : ∀ x av, L'.lookup x = some av → ∃ v, Rep c.M av v ∧ VarAt env (c.M.set a (.pin o')) x v) : FS X env sc own ⟨{ c.s with heap := h', toks := tk }, c.M.set a (.pin o')⟩ m L' := by
  obtain ⟨⟨o, e⟩, hb⟩ := F.ow a ha
  exact { F with
    S := F.S.put (fun y q n => by rw [e] at q; cases q; exact absurd rfl (n _)) (fun y q => by rw [hb] at q; cases q) (fun b q hne w => (hs.2 b hne).trans w) (fun zz zz zz zz => rfl) nofun (.pin ho)
    N := { F.N with
      cel := fun x b h => by
        by_cases hb : b = a
        · subst hb; exact ⟨o', .inr (Map.set_at _ _ _)⟩
        · refine (F.N.cel x b h).imp fun o q => ?_
          unfold Map.ob
          rw [Map.set_ne _ _ hb]; exact q
      var := fun x av h => (var x av h).imp fun v q => ⟨q.1.up0 (Map.set_le0 _ e), q.2⟩ }
    ow := fun b hb => by
      refine ⟨?_, (F.ow b hb).2⟩
      by_cases q : b = a
      · subst q; exact ⟨o', Map.set_at _ _ _⟩
      · exact (F.ow b hb).1.imp fun o w => (Map.set_ne _ _ q).trans w
    ns := ns
    cell := fun x b e1 e2 => by
      by_cases q : b = a
      · subst q; exact cell x e1
      · exact (F.cell x b e1 e2).imp fun v w => w.sameBut hs q }
noncomputable def Sto (env : Env) (own : List Addr) (x : Str) : Prop := env.kindOf x = some .local ∨ (env.kindOf x = some .cell ∧ ∃ c, env.cells.lookup x = some c ∧ c ∈ own)
private theorem lookup_set {L : Lc} {x y : Str} {av ay : AV} (h : ((x, av) :: L).lookup y = some ay) : (y = x ∧ ay = av) ∨ (y ≠ x ∧ L.lookup y = some ay) := by
  rw [List.lookup_cons] at h
  cases e : y == x with
  | true => rw [e] at h; exact .inl ⟨beq_iff_eq.mp e, (Option.some.inj h).symm⟩
  | false => rw [e] at h; exact .inr ⟨beq_eq_false_iff_ne.mp e, h⟩
private theorem FS.cne (F : FS X env sc own c m L) {x : Str} {a : Addr} (h : env.cells.lookup x = some a) : a ≠ env.locals := fun e => F.cL x a h (e ▸ F.L) e
private theorem FS.store (F : FS X env sc own c m L) {x : Str} {av : AV} {v : Value} (hx : Sto env own x) (r : Rep c.M av v) {A : Around} {Q : Unit → Shared → Prop} {E : Value → Shared → Prop}
    (hQ : ∀ d, Map.leB own c.M d.M → FS X env sc own d m ((x, av) :: L) → Q () d.s) : wpAny (model X.prog X.w) A (storeName env x v) Q E c.s := by
  obtain ⟨mm, hm⟩ := F.ns
  rcases hx with hl | ⟨hl, a, hc, hco⟩
  · refine wpAny_storeName_local hl hm (fun h' hn hs => ?_) (by rw [F.N.kind]; rfl)
    obtain ⟨oL, esL, epL, hoL, hdL, hsL, hfL⟩ := id hn
    refine hQ ⟨{ c.s with heap := h', toks := c.s.toks + 1 }, c.M.set env.locals (.pin oL)⟩ (Map.leB.set _ F.L) (F.upd F.L hs hoL ⟨_, hn⟩ (fun y h => absurd rfl (F.cne h)) fun y ay h => ?_)
    rcases lookup_set h with ⟨rfl, rfl⟩ | ⟨hne, h⟩
    · exact ⟨v, r, .loc hl (Map.set_at _ _ _) hdL hsL (by rw [hfL]; simp)⟩
    · obtain ⟨vy, ry, zy⟩ := F.N.var y ay h
      refine ⟨vy, ry, ?_⟩
      cases zy with
      | loc k q1 q2 q3 q4 =>
        obtain ⟨o2, es2, ep2, p1, p2, p3, p4⟩ := hm
        rw [F.S.pin q1] at p1; cases p1
        rw [p2] at q2; cases q2
        exact .loc k (Map.set_at _ _ _) hdL hsL (by rw [hfL]; show (if y = x then some v else mm y) = _; rw [if_neg hne, ← p4, q4])
      | cel k q1 q2 q3 => exact .cel k q1 (by unfold Map.ob; rw [Map.set_ne _ _ (F.cne q1)]; exact q2) q3
  · obtain ⟨u, hu⟩ := F.cell x a hc hco
    refine wpAny_storeName_cell F.N.kind hl hc hu fun h' hn hs => ?_
    obtain ⟨oc, hoc, hdc⟩ := id hn
    refine hQ ⟨{ c.s with heap := h' }, c.M.set a (.pin oc)⟩ (Map.leB.set _ hco) (F.upd (tk := c.s.toks) hco hs hoc ⟨mm, hm.sameBut hs (F.cne hc).symm⟩ (fun y h => ⟨_, hn⟩) fun y ay h => ?_)
    rcases lookup_set h with ⟨rfl, rfl⟩ | ⟨hne, h⟩
    · exact ⟨v, r, .cel (.inl hl) hc (.inr (Map.set_at _ _ _)) hdc⟩
    · obtain ⟨vy, ry, zy⟩ := F.N.var y ay h
      refine ⟨vy, ry, ?_⟩
      cases zy with
      | loc k q1 q2 q3 q4 => exact .loc k ((Map.set_ne _ _ (F.cne hc).symm).trans q1) q2 q3 q4
      | @cel c2 o2 k q1 q2 q3 =>
        have hn : c2 ≠ a := fun e => hne (F.inj y x a (by rw [← e]; exact q1) hc hco)
        exact .cel k q1 (by unfold Map.ob; rw [Map.set_ne _ _ hn]; exact q2) q3
end
inductive AFlow where
  | next | brk | cont | ret (v : AV)
inductive RepF (M : Map) : AFlow → Flow → Prop
  | next : RepF M .next .next
  | brk : RepF M .brk .brk
  | cont : RepF M .cont .cont
  | ret {a : AV} {v : Value} : Rep M a v → RepF M (.ret a) (.ret v)
noncomputable def Stos (sc : Names) (env : Env) (own : List Addr) : Prop := ∀ x, (sc.lookup x = some .local ∨ sc.lookup x = some .cell) → Sto env own x
noncomputable abbrev RP := AFlow → Lc → Mem → Prop
noncomputable def FinF (X : Amb) (env : Env) (sc : Names) (own : List Addr) (d : Cf) (L : Lc) (m : Mem) : AFlow → Prop
  | .ret _ => Hp X d m
  | _ => FS X env sc own d m L
structure Fin (X : Amb) (env : Env) (sc : Names) (own : List Addr) (c : Cf) (P : RP) (v : Flow) (d : Cf) (fl : AFlow) (L : Lc) (m : Mem) : Prop where
  l : Map.leB own c.M d.M
  F : FinF X env sc own d L m fl
  r : RepF d.M fl v
  p : P fl L m
structure Now (X : Amb) (D : Nat) (sc : Names) (env : Env) (own : List Addr) (A : Around) (c : Cf) (L : Lc) (m : Mem) : Prop where
  R : Room A D
  T : Stos sc env own
  F : FS X env sc own c m L
section
variable (X : Amb) (D : Nat) (sc : Names)
noncomputable def WS (st : Stmt) (L : Lc) (m : Mem) (P : RP) : Prop :=
  ∀ (env : Env) (own : List Addr) (A : Around) (c : Cf), Now X D sc env own A c L m → ∀ Q E, (∀ v d fl L' m', Fin X env sc own c P v d fl L' m' → Q v d.s) → wpAny (model X.prog X.w) A (exec st env) Q E c.s
noncomputable def W (sts : List Stmt) (L : Lc) (m : Mem) (P : RP) : Prop :=
  ∀ (env : Env) (own : List Addr) (A : Around) (c : Cf), Now X D sc env own A c L m → ∀ Q E, (∀ v d fl L' m', Fin X env sc own c P v d fl L' m' → Q v d.s) → wpAny (model X.prog X.w) A (execs sts env) Q E c.s
noncomputable def WE (cd : Value) (q : Str) (sts : List Stmt) (L : Lc) (m : Mem) (P : RP) : Prop :=
  ∀ (env : Env) (own : List Addr) (A : Around) (c : Cf), env.code = cd → env.qual = q → Now X D sc env own A c L m → ∀ Q E, (∀ v d fl L' m', Fin X env sc own c P v d fl L' m' → Q v d.s) → wpAny (model X.prog X.w) A (execs sts env) Q E c.s
noncomputable def Then (rest : List Stmt) (P : RP) : RP
  | .next, L, m => W X D sc rest L m P
  | fl, L, m => P fl L m
end
section
variable {X : Amb} {D : Nat} {sc : Names} {L L' : Lc} {m m1 m2 : Mem} {P P' : RP} {rest : List Stmt}
private theorem W.e {cd : Value} {q : Str} {sts : List Stmt} (h : W X D sc sts L m P) : WE X D sc cd q sts L m P := fun env own A c zz zz T => h env own A c T
private theorem Now.on {env : Env} {own : List Addr} {A : Around} {c d : Cf} (T : Now X D sc env own A c L m) (F : FS X env sc own d m1 L') : Now X D sc env own A d L' m1 := ⟨T.R, T.T, F⟩
private theorem Fin.fr {env : Env} {own : List Addr} {c d e : Cf} {v : Flow} {fl : AFlow} (f : Fin X env sc own d P v e fl L m) (l : Map.leB own c.M d.M) : Fin X env sc own c P v e fl L m := { f with l := l.tr f.l }
private theorem W.nil (h : P .next L m) : W X D sc [] L m P := fun env own A c T Q E k => wpAny_execs_nil (k _ c .next L m ⟨.rf _, T.F, .next, h⟩)
private theorem W.seq {st : Stmt} (h : WS X D sc st L m (Then X D sc rest P)) : W X D sc (st :: rest) L m P := fun env own A c T Q E k =>
  wpAny_execs_cons (h env own A c T _ _ fun v d fl L' m' f => by
    cases f.r with
    | next => exact f.p env own A d (T.on f.F) Q E fun v e fl L m g => k v e fl L m (g.fr f.l)
    | brk => exact k _ _ _ _ _ ⟨f.l, f.F, .brk, f.p⟩
    | cont => exact k _ _ _ _ _ ⟨f.l, f.F, .cont, f.p⟩
    | ret r => exact k _ _ _ _ _ ⟨f.l, f.F, .ret r, f.p⟩)
private theorem W.mono {sts : List Stmt} (h : W X D sc sts L m P) (hp : ∀ fl L m, P fl L m → P' fl L m) : W X D sc sts L m P' := fun env own A c T Q E k => h env own A c T Q E fun v d fl L' m' f => k v d fl L' m' { f with p := hp _ _ _ f.p }
private theorem W.weak {sts : List Stmt} (h : W X D sc sts L' m P) (hl : ∀ x v, L'.lookup x = some v → L.lookup x = some v) : W X D sc sts L m P := fun env own A c T Q E k => h env own A c (T.on (T.F.weak hl)) Q E k
private theorem PE.go {e : Expr} {av : AV} (h : PE X D sc e L m av m1) {env : Env} {own : List Addr} {A : Around} {c : Cf} (T : Now X D sc env own A c L m) {Q E : Value → Shared → Prop} (k : ∀ v d, Map.leB own c.M d.M → FS X env sc own d m1 L → Rep d.M av v → Q v d.s) :
    wpAny (model X.prog X.w) A (eval e env) Q E c.s := h env A c (T.F.at' T.R) Q E fun v d g => k v d (g.l.b own) (T.F.keep g.l g.h) g.r
private theorem PT.go {e : Expr} {b : Bool} (h : PT X D sc e L m b m1) {env : Env} {own : List Addr} {A : Around} {c : Cf} (T : Now X D sc env own A c L m) {Q : Bool → Shared → Prop} {E : Value → Shared → Prop} (k : ∀ d, Map.leB own c.M d.M → FS X env sc own d m1 L → Q b d.s) :
    wpAny (model X.prog X.w) A (isTrue e env (eval e env)) Q E c.s := h env A c (T.F.at' T.R) Q E fun d g => k d (g.l.b own) (T.F.keep g.l g.h)
noncomputable def okB (sc : Names) (x : Str) : Bool := sc.lookup x == some .local || sc.lookup x == some .cell
private theorem nameOk {sc : Names} {x : Str} (h : okB sc x = true) : sc.lookup x = some .local ∨ sc.lookup x = some .cell := (Bool.or_eq_true_iff.mp h).imp beq_iff_eq.mp beq_iff_eq.mp
noncomputable def NoSwap (e : Expr) : Prop := ∀ t l env, swapsWith e t l env = pure false
noncomputable def NoSwapT (sc : Names) (e tgt : Expr) (line : Nat) : Prop := ∀ env : Env, NmR env.scope.names sc → env.scope.kind = .function → swapsWith e (some tgt) line env = pure false
private theorem WS.set {x : Str} {p p' : Pos} {e : Expr} {av : AV} (hs : NoSwapT sc e (.Name x p') p.line) (hx : okB sc x = true) (he : PE X D sc e L m av m1) (h : P .next ((x, av) :: L) m1) : WS X D sc (.Assign [.Name x p'] e p) L m P :=
  fun env own A c T Q E k => wpAny_Assign_Name (he.go T fun v d l F r => F.store (T.T x (nameOk hx)) r fun d2 l2 F2 => k _ d2 .next _ _ ⟨l.tr l2, F2, .next, h⟩) (hs _ T.F.N.names T.F.N.kind)
private theorem W.set' {x : Str} {p p' : Pos} {e : Expr} {av : AV} (hs : NoSwapT sc e (.Name x p') p.line) (hx : okB sc x = true) (he : PE X D sc e L m av m1) (h : W X D sc rest ((x, av) :: L) m1 P) : W X D sc (.Assign [.Name x p'] e p :: rest) L m P := .seq (.set hs hx he h)
private theorem W.set {x : Str} {p p' : Pos} {e : Expr} {av : AV} (he : PE X D sc e L m av m1) (hs : NoSwap e) (hx : okB sc x = true) (h : W X D sc rest ((x, av) :: L) m1 P) : W X D sc (.Assign [.Name x p'] e p :: rest) L m P := .set' (fun zz zz zz => hs _ _ _) hx he h
private theorem W.aug {x : Str} {p p' : Pos} {op : Operator} {e : Expr} {a b r : AV} (ha : L.lookup x = some a) (he : PE X D sc e L m b m1) (ho : Bin X D (inplaceOp op) m1 a b r) (hx : okB sc x = true) (h : W X D sc rest ((x, r) :: L) m1 P) : W X D sc (.AugAssign (.Name x p') op e p :: rest) L m P :=
  .seq fun env own A c T Q E k => (T.F.N.var x a ha).elim fun v q => wpAny_AugAssign_Name (loadVar T.F.N T.F.S q.2 (he env A c (T.F.at' T.R) _ _ fun w d g => ho A d v w T.R g.h (q.1.up g.l) g.r _ _ fun u d2 g2 =>
    (T.F.keep (g.l.tr g2.l) g2.h).store (T.T x (nameOk hx)) g2.r fun d3 l3 F3 => k _ d3 .next _ _ ⟨((g.l.tr g2.l).b own).tr l3, F3, .next, h⟩))
private theorem W.expr {p : Pos} {e : Expr} (he : PE X D sc e L m .none m1) (hs : NoSwap e) (h : W X D sc rest L m1 P) : W X D sc (.Expr e p :: rest) L m P :=
  .seq fun env own A c T Q E k => wpAny_Expr (he.go T fun v d l F r => r.i_none ▸ k _ d .next _ _ ⟨l, F, .next, h⟩) (by unfold interactive; rw [T.F.N.kind]; rfl) (hs _ _ _)
private theorem W.ret {p : Pos} {e : Expr} {av : AV} (he : PE X D sc e L m av m1) (h : P (.ret av) L m1) : W X D sc (.Return (some e) p :: rest) L m P :=
  .seq fun env own A c T Q E k => wpAny_Return_some (he.go T fun v d l F r => k _ d (.ret av) _ _ ⟨l, F.S, .ret r, h⟩)
private theorem W.retN {p : Pos} (h : P (.ret .none) L m) : W X D sc (.Return none p :: rest) L m P :=
  .seq fun env own A c T Q E k => wpAny_Return_none (k _ c (.ret .none) _ _ ⟨.rf _, T.F.S, .ret .none, h⟩)
private theorem W.cont {p : Pos} (h : P .cont L m) : W X D sc (.Continue p :: rest) L m P :=
  .seq fun env own A c T Q E k => wpAny_Continue (k _ c .cont _ _ ⟨.rf _, T.F, .cont, h⟩)
private theorem W.ifT {p : Pos} {t : Expr} {a b : List Stmt} (ht : PT X D sc t L m true m1) (h : W X D sc a L m1 (Then X D sc rest P)) : W X D sc (.If t a b p :: rest) L m P :=
  .seq fun env own A c T Q E k => wpAny_If (ht.go T fun d l F => h env own A d (T.on F) Q E fun v e fl L m g => k v e fl L m (g.fr l))
private theorem W.ifF {p : Pos} {t : Expr} {a b : List Stmt} (ht : PT X D sc t L m false m1) (h : W X D sc b L m1 (Then X D sc rest P)) : W X D sc (.If t a b p :: rest) L m P :=
  .seq fun env own A c T Q E k => wpAny_If (ht.go T fun d l F => h env own A d (T.on F) Q E fun v e fl L m g => k v e fl L m (g.fr l))
private theorem W.ifs {p : Pos} {t : Expr} {a b : List Stmt} {q : Bool} (ht : PT X D sc t L m q m1) (h1 : q = true → W X D sc a L m1 (Then X D sc rest P)) (h2 : q = false → W X D sc b L m1 (Then X D sc rest P)) : W X D sc (.If t a b p :: rest) L m P := by
  cases q with
  | true => exact .ifT ht (h1 rfl)
  | false => exact .ifF ht (h2 rfl)
end
end
section
open PySem PySem.W PyProof.Rows PySem.Calls PySem.SeqAt
inductive NsM (M : Map) (a : Addr) (m : Str → Option Value) : Prop
  | mk {o es ep} : M.h a = some (.frz o) → o.data = .dict es ep → StrKeys es → (∀ n, nsFind es n = m n) → NsM M a m
private theorem NsM.up {M N : Map} {a : Addr} {m : Str → Option Value} (h : NsM M a m) (l : M.le N) : NsM N a m := by
  cases h with
  | mk a b c d => exact .mk (l.h _ _ a) b c d
inductive Glo (M : Map) (x : Str) (v : Value) : Prop
  | main {m} : NsM M mainGlobals m → m x = some v → Glo M x v
  | bu {m mb} : NsM M mainGlobals m → m x = none → NsM M builtinsNs mb → mb x = some v → Glo M x v
private theorem Glo.up {M N : Map} {x : Str} {v : Value} (h : Glo M x v) (l : M.le N) : Glo N x v := by
  cases h with
  | main a b => exact .main (a.up l) b
  | bu a b c d => exact .bu (a.up l) b (c.up l) d
section
variable {X : Amb} {D : Nat} {sc : Names} {L : Lc} {m m1 m2 m3 : Mem}
private theorem Sep.base {s : Shared} {M : Map} (S : Sep X s M m) {a : Addr} {o : Obj} (h : X.B.h a = some (.frz o)) : s.heap.get? a = some o := S.frz (S.x.h _ _ h)
private theorem NsM.ns {s : Shared} {M : Map} {a : Addr} {f : Str → Option Value} (h : NsM X.B a f) (S : Sep X s M m) : s.heap.Ns a f := by
  cases h with
  | mk a b c d => exact ⟨_, _, _, S.base a, b, c, d⟩
private theorem globGo {env : Env} {A : Around} {c : Cf} {x : Str} {v : Value} {p : Pos} {Q E : Value → Shared → Prop} (T : At X D sc env A c L m) (hx : sc.lookup x = some .globalImplicit) (hg : Glo X.B x v) (h : Q v c.s) :
    wpAny (model X.prog X.w) A (eval (.Name x p) env) Q E c.s := by
  have hk : env.kindOf x = some .globalImplicit := T.N.names.at hx nofun
  have hd : (x == ("__debug__" : Str)) = false := by
    refine beq_eq_false_iff_ne.mpr fun e => ?_
    subst e; rw [T.N.dbg'] at hk; cases hk
  refine Name_function_global T.N.kind hk ?_ hd
  cases hg with
  | main a b => exact loadGlobal_global (by rw [T.N.gl]; exact a.ns T.S) b h
  | bu a b e d => exact loadGlobal_builtin (by rw [T.N.gl]; exact a.ns T.S) b (by rw [T.N.bu]; exact e.ns T.S) d h
private theorem PE.glob {x : Str} {p : Pos} {av : AV} {v : Value} (hx : sc.lookup x = some .globalImplicit) (hg : Glo X.B x v) (r : ∀ M, X.B.le M → Rep M av v) : PE X D sc (.Name x p) L m av m :=
  fun env A c T Q E k => globGo T hx hg (k v c (.now T.S (r _ T.S.x)))
noncomputable def Pl (es : List Expr) : Prop := ∀ (env : Env) (pos : Pos), (backTo pos (starEach es env)).any (·.1) = false ∧
  ∀ (M : Model) (A : Around) (f : Value) (Q : Args → Shared → Prop) (E : Value → Shared → Prop) (s : Shared), wpAny M A (spliced (backTo pos (starEach es env))) (fun vs s' => Q ⟨vs, []⟩ s') E s → wpAny M A (evalArgs f true (backTo pos (starEach es env)) []) Q E s
private theorem Pl.nil : Pl [] := fun env pos => ⟨rfl, fun M A f Q E s h => by
  unfold evalArgs
  show wpAny M A (spliced [] >>= _) Q E s
  refine wpAny_bind (wpAny_mono h (fun vs s' h' => ?_) fun zz zz x => x)
  refine wpAny_bind (wpAny_pure ?_)
  refine wpAny_holding ?_
  exact wpAny_bind (wpAny_pure (wpAny_bind (wpAny_pure (wpAny_pure h'))))⟩
private theorem Pl.cons {e : Expr} {es : List Expr} (he : ∀ env, starEach (e :: es) env = (false, eval e env) :: starEach es env) (hr : Pl es) : Pl (e :: es) := fun env pos => by
  have hs : backTo pos (starEach (e :: es) env) = (false, eval e env) :: backTo pos (starEach es env) := by rw [he]; rfl
  rw [hs]
  exact ⟨by rw [List.any_cons, (hr env pos).1]; rfl, fun M A f Q E s h => evalArgs_plain h⟩
structure PA (X : Amb) (D : Nat) (sc : Names) (es : List Expr) (L : Lc) (m : Mem) (avs : List AV) (m' : Mem) : Prop where
  v : PEs X D sc es L m avs m'
  p : Pl es
private theorem PA.nil : PA X D sc [] L m [] m := ⟨.nil, .nil⟩
private theorem PA.cons {e : Expr} {es : List Expr} {x : AV} {xs : List AV} (he : ∀ env, starEach (e :: es) env = (false, eval e env) :: starEach es env) (hf : PE X D sc e L m x m1) (hg : PA X D sc es L m1 xs m2) : PA X D sc (e :: es) L m (x :: xs) m2 := ⟨.cons' he hf hg.v, .cons he hg.p⟩
noncomputable def Call (X : Amb) (D : Nat) (op : List Value → Sem Value) (m : Mem) (avs : List AV) (r : AV) (m' : Mem) : Prop :=
  ∀ (A : Around) (c : Cf) (vs : List Value), Room A D → Hp X c m → Reps c.M avs vs → ∀ Q E, (∀ v d, Got X c m' r v d → Q v d.s) → wpAny (model X.prog X.w) A (op vs) Q E c.s
noncomputable abbrev opF (a : Addr) (vs : List Value) : Sem Value := call (.ref a) vs
noncomputable abbrev opB (id : String) (vs : List Value) : Sem Value := call (.builtin id) vs
noncomputable abbrev opT (T : String) (vs : List Value) : Sem Value := call (.type T) vs
private theorem PE.callB {x : Str} {id : String} {p pos : Pos} {es : List Expr} {avs : List AV} {r : AV} (hg : Glo X.B x (.builtin id)) (hes : PA X D sc es L m avs m1) (ho : Call X D (opB id) m1 avs r m2) (hx : sc.lookup x = some .globalImplicit) : PE X D sc (.Call (.Name x p) es [] pos) L m r m2 := fun env A c T Q E k =>
  (wpAny_bind (globGo T hx hg (callWith_builtin (hes.p env pos).1 ((hes.p env pos).2 _ _ _ _ _ _ (hes.v pos env A c T _ _ fun vs d g => ho A d vs T.R g.h g.r Q E fun v d2 g2 => k v d2 (g2.fr g.l))))) : wpAny (model X.prog X.w) A (do callWith pos (← eval (.Name x p) env) [] (backTo pos (starEach es env)) (backToKw pos (keywordEach [] env))) Q E c.s)
private theorem evalCallT {x : Str} {id : String} {p pos : Pos} {es : List Expr} {avs : List AV} {env : Env} {A : Around} {c : Cf} (T : At X D sc env A c L m) (hx : sc.lookup x = some .globalImplicit) (hg : Glo X.B x (.type id)) (hes : PA X D sc es L m avs m1) {Q E : Value → Shared → Prop}
    (k : ∀ vs d, Gots X c m1 avs vs d → wpAny (model X.prog X.w) A (opT id vs) Q E d.s) : wpAny (model X.prog X.w) A (eval (.Call (.Name x p) es [] pos) env) Q E c.s :=
  (wpAny_bind (globGo T hx hg (PySem.callWith_type (hes.p env pos).1 ((hes.p env pos).2 _ _ _ _ _ _ (hes.v pos env A c T _ _ k)))) : wpAny (model X.prog X.w) A (do callWith pos (← eval (.Name x p) env) [] (backTo pos (starEach es env)) (backToKw pos (keywordEach [] env))) Q E c.s)
private theorem PE.callT {x : Str} {id : String} {p pos : Pos} {es : List Expr} {avs : List AV} {r : AV} (hg : Glo X.B x (.type id)) (hes : PA X D sc es L m avs m1) (ho : Call X D (opT id) m1 avs r m2) (hx : sc.lookup x = some .globalImplicit) : PE X D sc (.Call (.Name x p) es [] pos) L m r m2 := fun env A c T Q E k =>
  evalCallT T hx hg hes fun vs d g => ho A d vs T.R g.h g.r Q E fun v d2 g2 => k v d2 (g2.fr g.l)
structure Fd where
  name : Str
  params : Arguments
  body : List Stmt
  scope : Scope
set_option backward.match.sparseCases false in
noncomputable def fdAt (l : List Stmt) (k : Nat) : Fd := match l[k]? with
  | some (.FunctionDef name args body _ _ _ scope _ _ _) => ⟨name, args, body, scope⟩
  | _ => ⟨"", ⟨[], [], none, [], [], none, []⟩, [], default⟩
noncomputable abbrev fnXD (F : Fd) (q : Str) (cl : List (Str × Addr)) (dv doc pm cd ct : Value) : FuncData := fnX F.name q F.params F.body F.scope cl dv .none doc pm none cd ct
structure FnObj (M : Map) (F : Fd) (q : Str) (cl : List (Str × Addr)) (dv : Value) (a : Addr) (o : Obj) (doc pm cd ct : Value) : Prop where
  m : M.h a = some (.frz o)
  cls : o.cls = .type "function"
  data : o.data = .func (fnXD F q cl dv doc pm cd ct)
  code : CodeRecM M cd q
noncomputable def FnAt (M : Map) (F : Fd) (q : Str) (cl : List (Str × Addr)) (dv : Value) (a : Addr) : Prop := ∃ o doc pm cd ct, FnObj M F q cl dv a o doc pm cd ct
private theorem FnAt.up {M N : Map} {F : Fd} {q : Str} {cl : List (Str × Addr)} {dv : Value} {a : Addr} (h : FnAt M F q cl dv a) (l : M.le N) : FnAt N F q cl dv a := by
  obtain ⟨o, doc, pm, cd, ct, h⟩ := h
  exact ⟨o, doc, pm, cd, ct, { h with m := l.h _ _ h.m, code := h.code.up l.l0.f }⟩
private theorem PE.call {x : Str} {F : Fd} {q : Str} {cl : List (Str × Addr)} {dv : Value} {a : Addr} {p pos : Pos} {es : List Expr} {avs : List AV} {r : AV} (hg : Glo X.B x (.ref a)) (hF : FnAt X.B F q cl dv a) (hes : PA X D sc es L m avs m1) (ho : Call X D (opF a) m1 avs r m2) (hx : sc.lookup x = some .globalImplicit) : PE X D sc (.Call (.Name x p) es [] pos) L m r m2 := fun env A c T Q E k => by
  obtain ⟨o, doc, pm, cd, ct, h⟩ := hF
  exact (wpAny_bind (globGo T hx hg (callWith_function (o := o) ((hes.p env pos).2 _ _ _ _ _ _ (hes.v pos env A c T _ _ fun vs d g => ⟨⟨g.h.base h.m, h.data⟩, ho A d vs T.R g.h g.r Q E fun v d2 g2 => k v d2 (g2.fr g.l)⟩)))) : wpAny (model X.prog X.w) A (do callWith pos (← eval (.Name x p) env) [] (backTo pos (starEach es env)) (backToKw pos (keywordEach [] env))) Q E c.s)
private theorem PE.callV {x : Str} {F : Fd} {q : Str} {cl : List (Str × Addr)} {dv : Value} {a : Addr} {p pos : Pos} {es : List Expr} {avs : List AV} {r : AV} (hv : L.lookup x = some (.ext (.ref a))) (hF : FnAt X.B F q cl dv a) (hes : PA X D sc es L m avs m1) (ho : Call X D (opF a) m1 avs r m2) : PE X D sc (.Call (.Name x p) es [] pos) L m r m2 := fun env A c T Q E k => by
  obtain ⟨o, doc, pm, cd, ct, h⟩ := hF
  obtain ⟨v, r1, q⟩ := T.N.var x _ hv
  have := r1.i_ext
  subst this
  exact (wpAny_bind (wpAny_Name (loadVar T.N T.S q (callWith_function (o := o) ((hes.p env pos).2 _ _ _ _ _ _ (hes.v pos env A c T _ _ fun vs d g => ⟨⟨g.h.base h.m, h.data⟩, ho A d vs T.R g.h g.r Q E fun v d2 g2 => k v d2 (g2.fr g.l)⟩)))) (q.dbg T.N.dbg')) : wpAny (model X.prog X.w) A (do callWith pos (← eval (.Name x p) env) [] (backTo pos (starEach es env)) (backToKw pos (keywordEach [] env))) Q E c.s)
noncomputable def IsOf (T : String) (m : Mem) (a : AV) : Prop := ∀ (X : Amb) (s : Shared) (M : Map) (v : Value), Sep X s M m → Rep M a v → s.TypeIs v T ∧ ∀ b, v = .ref b → ∃ ob, s.heap.get? b = some ob ∧ ob.dict = none
private theorem IsOf.str {l : List Nat} : IsOf "str" m (.str l) := fun X s M v S r => r.i_str.elim fun t e => e ▸ ⟨typeIs_str _ _ _, nofun⟩
private theorem IsOf.int {i : Int} : IsOf "int" m (.int i) := fun X s M v S r => r.i_int.elim fun t e => e ▸ ⟨typeIs_int _ _ _, nofun⟩
private theorem isL {s : Shared} {a : Addr} {vs : List Value} {n : Nat} (g : s.heap.get? a = some (lo vs n)) : s.TypeIs (.ref a) "list" ∧ ∀ b, Value.ref a = .ref b → ∃ ob, s.heap.get? b = some ob ∧ ob.dict = none := ⟨⟨_, g, rfl⟩, fun b e => by cases e; exact ⟨_, g, rfl⟩⟩
private theorem IsOf.lst {l : List AV} : IsOf "list" m (.lst l) := fun X s M v S r => by
  cases r.i_lst with
  | mk a _ => exact isL (S.frz a)
private theorem IsOf.mref {i : Nat} {xs : List AV} (e : m[i]? = some (.lst xs)) : IsOf "list" m (.mref i) := fun X s M v S r => by
  cases r.i_mref with
  | mk a => obtain ⟨vs, n, g, _⟩ := S.mlist a e; exact isL g
noncomputable def Few (es : List Expr) (pos : Pos) : Prop := ∀ env, ((backTo pos (starEach es env)).all (fun x => !x.1) && (backToKw pos (keywordEach [] env)).all (fun x => x.1.isSome) && decide (es.length + ([] : List Keyword).length + (if ([] : List Keyword).isEmpty then 0 else 1) < 30)) = true
structure MethOk (T : String) (name : Str) (id : String) : Prop where
  pa : PlainAttrs T
  slot : Slot T name id
  ty : typeOf (.builtin id) = pure (.type "method_descriptor")
private theorem PE.meth {o : Expr} {name : Str} {T id : String} {apos pos : Pos} {es : List Expr} {a : AV} {avs : List AV} {r : AV} (mo : MethOk T name id) (hf : PE X D sc o L m a m1) (hk : IsOf T m1 a) (hes : PA X D sc es L m1 avs m2) (ho : Call X D (opB id) m2 (a :: avs) r m3)
    (hbase : ∀ env, attributeBase o name env (eval o env) = eval o env) (hfew : Few es pos) (hline : (apos.endLine == pos.line) = true) : PE X D sc (.Call (.Attribute o name apos) es [] pos) L m r m3 := fun env A c T' Q E k =>
  wpAny_Call_method (T := T) (id := id) (hbase env) (hfew env) hline mo.pa mo.slot mo.ty (hf env A c T' _ _ fun va d g =>
    have t := hk X _ _ va g.h g.r
    ⟨t.1, t.2, callWith_builtin (hes.p env pos).1 ((hes.p env pos).2 _ _ _ _ _ _ (hes.v pos env A d (T'.up g.l g.h) _ _ fun vs d2 g2 => ho A d2 (va :: vs) T'.R g2.h (.cons (g.r.up g2.l) g2.r) Q E fun v d3 g3 => k v d3 (g3.fr (g.l.tr g2.l))))⟩)
end
end
section
open PySem PySem.W PyProof.Rows PySem.Calls PySem.SeqAt
noncomputable def Map.pins (M : Map) (h : Heap) (own : List Addr) : Map := ⟨fun a => if a ∈ own then (h.get? a).map Cel.pin else M.h a, M.g⟩
private theorem Map.pins_in {M : Map} {h : Heap} {own : List Addr} {a : Addr} {o : Obj} (ha : a ∈ own) (e : h.get? a = some o) : (M.pins h own).h a = some (.pin o) := (if_pos ha).trans (congrArg (Option.map _) e)
private theorem Map.pins_out {M : Map} {h : Heap} {own : List Addr} {a : Addr} (ha : a ∉ own) : (M.pins h own).h a = M.h a := if_neg ha
section
variable {X : Amb} {D : Nat} {sc : Names} {L : Lc} {m m' : Mem} {s : Shared} {M : Map} {own : List Addr}
private theorem Map.le_pins (fr : ∀ a ∈ own, M.h a = none) {h : Heap} : M.le (M.pins h own) := ⟨fun a x e => (Map.pins_out fun ha => by rw [fr a ha] at e; cases e).trans e, fun zz zz e => e⟩
private theorem Sep.pins (S : Sep X s M m) (fr : ∀ a ∈ own, M.h a = none) : Sep X s (M.pins s.heap own) m :=
  have l := Map.le_pins fr (h := s.heap)
  have old : ∀ a x, a ∉ own → (M.pins s.heap own).h a = some x → M.h a = some x := fun a x h e => (Map.pins_out h) ▸ e
  have mu : ∀ a j, (M.pins s.heap own).h a = some (.mu j) → M.h a = some (.mu j) := fun a j e => old a _ (fun h => by
    have e : (if a ∈ own then (s.heap.get? a).map Cel.pin else M.h a) = _ := e
    rw [if_pos h] at e
    cases q : s.heap.get? a with
    | none => rw [q] at e; cases e
    | some o => rw [q] at e; cases e) e
  { S with
    c := fun a x e => by
      by_cases h : a ∈ own
      · have e := (show (M.pins s.heap own).h a = _ from if_pos h) ▸ e
        cases q : s.heap.get? a with
        | none => rw [q] at e; cases e
        | some o => rw [q] at e; cases e; exact .pin q
      · exact (S.c a x (old a x h e)).go l.l0 (fun zz e => e) fun zz zz => rfl
    i := fun a b j e1 e2 => S.i a b j (mu a j e1) (mu b j e2)
    x := S.x.tr l }
structure FnOk (ps : List Str) (scope : Scope) : Prop where
  kind : scope.kind = .function
  co : scope.isCoroutine = false
  gen : scope.isGenerator = false
  dbg : scope.names.lookup ("__debug__" : Str) = none
  cld : scope.names.lookup ("__classdict__" : Str) = none
  nd : ps.Nodup
  nn : (scope.names.map (·.1)).Nodup
  kd : ∀ x ∈ ps, scope.names.lookup x = some .local ∨ scope.names.lookup x = some .cell
noncomputable def fnOkB (ps : List Str) (scope : Scope) : Bool := scope.kind == .function && !scope.isCoroutine && !scope.isGenerator && (scope.names.lookup ("__debug__" : Str)).isNone && (scope.names.lookup ("__classdict__" : Str)).isNone && decide ps.Nodup && decide (scope.names.map (·.1)).Nodup && ps.all fun x => scope.names.lookup x == some .local || scope.names.lookup x == some .cell
private theorem fnOk {ps : List Str} {scope : Scope} (h : fnOkB ps scope = true) : FnOk ps scope := by
  unfold fnOkB at h
  simp only [Bool.and_eq_true, beq_iff_eq, Bool.not_eq_true', Option.isNone_iff_eq_none, List.all_eq_true, Bool.or_eq_true, decide_eq_true_eq] at h
  exact ⟨h.1.1.1.1.1.1.1, h.1.1.1.1.1.1.2, h.1.1.1.1.1.2, h.1.1.1.1.2, h.1.1.1.2, h.1.1.2, h.1.2, h.2⟩
noncomputable def NoLim (M : Map) : Prop := ∃ mc, NsM M cStatics mc ∧ mc "sys.recursionlimit" = none
private theorem NoLim.lim {mm : Mem} (h : NoLim X.B) (S : Sep X s M mm) : s.heap.NoLimit := h.elim fun mc q => ⟨mc, q.1.ns S, q.2⟩
private theorem CodeRecM.go {mm : Mem} {cd : Value} {q : Str} (h : CodeRecM X.B cd q) (S : Sep X s M mm) : s.heap.CodeRec cd q := by
  cases h with
  | mk a b c => exact ⟨_, _, _, _, rfl, S.base a, b, c⟩
section
variable {α : Type} {x : Str}
private theorem lookup_key {v : α} : ∀ {l : List (Str × α)}, l.lookup x = some v → x ∈ l.map (·.1)
  | (y, d) :: r, h => by
    rw [List.lookup_cons] at h
    cases e : x == y with
    | true => exact beq_iff_eq.mp e ▸ List.mem_cons_self
    | false => rw [e] at h; exact List.mem_cons_of_mem _ (lookup_key h)
private theorem lookup_mem {c : α} : ∀ {l : List (Str × α)}, (l.map (·.1)).Nodup → (x, c) ∈ l → l.lookup x = some c
  | (y, d) :: r, hn, h => by
    rw [List.map_cons, List.nodup_cons] at hn
    rw [List.lookup_cons]
    rcases List.mem_cons.mp h with h | h
    · cases h; rw [beq_self_eq_true]
    · rw [show (x == y) = false from beq_eq_false_iff_ne.mpr fun e => hn.1 (e ▸ List.mem_map_of_mem (f := (·.1)) h)]
      exact lookup_mem hn.2 h
end
private theorem zipRep {x : Str} {av : AV} : ∀ {ps : List Str} {avs : List AV} {vs : List Value}, Reps M avs vs → (ps.zip avs).lookup x = some av → ∃ v, (ps.zip vs).lookup x = some v ∧ Rep M av v
  | [], _, _, _, h => by cases h
  | _ :: _, [], _, _, h => by cases h
  | p :: ps, a :: avs, vs, r, h => by
    cases r.i_cons with
    | @mk v vs r1 rs =>
      rw [List.zip_cons_cons, List.lookup_cons] at h
      rw [List.zip_cons_cons, List.lookup_cons]
      cases e : x == p with
      | true => rw [e] at h; cases h; exact ⟨v, rfl, r1⟩
      | false => rw [e] at h; exact zipRep (ps := ps) (avs := avs) rs h
section
variable {kindOf : Str → Option NameKind} {x : Str} {v : Value}
private theorem bindL_skip : ∀ {l : List (Str × Value)} {m : Str → Option Value}, x ∉ l.map (·.1) → bindL kindOf l m x = m x
  | [], _, _ => rfl
  | (p, w) :: l, m, h => by
    rw [List.map_cons, List.mem_cons, not_or] at h
    show bindL kindOf l _ x = _
    rw [bindL_skip h.2]; split
    · exact if_neg h.1
    · rfl
private theorem bindC_skip : ∀ {l : List (Str × Value)} {m : Str → Option Value}, x ∉ l.map (·.1) → bindC kindOf l m x = m x
  | [], _, _ => rfl
  | (p, w) :: l, m, h => by
    rw [List.map_cons, List.mem_cons, not_or] at h
    show bindC kindOf l _ x = _
    rw [bindC_skip h.2]; split
    · rfl
    · exact if_neg h.1
private theorem bindL_at (hk : kindOf x = some .local) : ∀ {l : List (Str × Value)} {m : Str → Option Value}, (l.map (·.1)).Nodup → l.lookup x = some v → bindL kindOf l m x = some v
  | (p, w) :: l, m, hn, h => by
    rw [List.map_cons, List.nodup_cons] at hn
    rw [List.lookup_cons] at h
    show bindL kindOf l _ x = _
    cases e : x == p with
    | true => rw [e] at h; cases h; have := beq_iff_eq.mp e; subst this; rw [bindL_skip hn.1, if_pos hk]; exact if_pos rfl
    | false => rw [e] at h; exact bindL_at hk hn.2 h
private theorem bindC_at (hk : kindOf x = some .cell) : ∀ {l : List (Str × Value)} {m : Str → Option Value}, (l.map (·.1)).Nodup → l.lookup x = some v → bindC kindOf l m x = some v
  | (p, w) :: l, m, hn, h => by
    rw [List.map_cons, List.nodup_cons] at hn
    rw [List.lookup_cons] at h
    show bindC kindOf l _ x = _
    cases e : x == p with
    | true => rw [e] at h; cases h; have := beq_iff_eq.mp e; subst this; rw [bindC_skip hn.1, if_neg (by rw [hk]; exact nofun)]; exact if_pos rfl
    | false => rw [e] at h; exact bindC_at hk hn.2 h
end
private theorem cellsFrom_app : ∀ (names : Names) (n : Nat) (acc : List (Str × Addr)), cellsFrom n names acc = cellsFrom n names [] ++ acc
  | [], n, acc => rfl
  | (x, k) :: r, n, acc => by
    unfold cellsFrom
    split
    · rw [cellsFrom_app r (n + 1) ((x, n) :: acc), cellsFrom_app r (n + 1) [(x, n)], List.append_assoc]; rfl
    · exact cellsFrom_app r n acc
private theorem mem_cellsFrom {x : Str} : ∀ {names : Names} {n : Nat}, (x, NameKind.cell) ∈ names → ∃ c, (x, c) ∈ cellsFrom n names []
  | (y, k) :: r, n, h => by
    unfold cellsFrom
    rcases List.mem_cons.mp h with h | h
    · cases h; rw [if_pos (show (NameKind.cell == NameKind.cell) = true from rfl), cellsFrom_app]; exact ⟨n, List.mem_append_right _ List.mem_cons_self⟩
    · split
      · rw [cellsFrom_app]; exact (mem_cellsFrom h).imp fun c q => List.mem_append_left _ q
      · exact mem_cellsFrom h
private theorem cellsFrom_sub {x : Str} {c : Addr} : ∀ {names : Names} {n : Nat}, (x, c) ∈ cellsFrom n names [] → x ∈ names.map (·.1)
  | (y, k) :: r, n, h => by
    unfold cellsFrom at h
    split at h
    · rw [cellsFrom_app] at h
      rcases List.mem_append.mp h with h | h
      · exact List.mem_cons_of_mem _ (cellsFrom_sub h)
      · cases List.mem_singleton.mp h; exact List.mem_cons_self
    · exact List.mem_cons_of_mem _ (cellsFrom_sub h)
private theorem cellsFrom_nd : ∀ {names : Names} {n : Nat}, (names.map (·.1)).Nodup → ((cellsFrom n names []).map (·.1)).Nodup
  | [], n, _ => List.nodup_nil
  | (y, k) :: r, n, h => by
    rw [List.map_cons, List.nodup_cons] at h
    unfold cellsFrom
    split
    · rw [cellsFrom_app, List.map_append, List.nodup_append]
      refine ⟨cellsFrom_nd h.2, List.nodup_cons.mpr ⟨List.not_mem_nil, List.nodup_nil⟩, fun a ha b hb e => ?_⟩
      obtain ⟨⟨a', c⟩, q, rfl⟩ := List.mem_map.mp ha
      cases List.mem_singleton.mp hb
      exact h.1 ((show a' = y from e) ▸ cellsFrom_sub q)
    · exact cellsFrom_nd h.2
structure Ent (X : Amb) (D : Nat) (sc : Names) (env : Env) (own : List Addr) (A : Around) (c d : Cf) (L : Lc) (m : Mem) : Prop where
  l : c.M.le d.M
  fr : ∀ a ∈ own, c.M.h a = none
  T : Now X D sc env own A d L m
private theorem zip_nd {α : Type} {x : Str} : ∀ {ps : List Str} {vs : List α}, ps.Nodup → ((ps.zip vs).map (·.1)).Nodup ∧ (x ∈ (ps.zip vs).map (·.1) → x ∈ ps)
  | [], _, _ => ⟨List.nodup_nil, fun h => h⟩
  | _ :: _, [], _ => ⟨List.nodup_nil, fun h => absurd h List.not_mem_nil⟩
  | p :: ps, v :: vs, h => by
    rw [List.nodup_cons] at h
    exact ⟨List.nodup_cons.mpr ⟨fun q => h.1 ((zip_nd h.2).2 q), (zip_nd (x := x) h.2).1⟩, fun q => (List.mem_cons.mp q).elim (fun e => e ▸ List.mem_cons_self) fun q => List.mem_cons_of_mem _ ((zip_nd h.2).2 q)⟩
private theorem Room.deep {A : Around} (R : Room A (D + 1)) (env : Env) : Room (A.deeper env) D := ⟨R.1, by have := R.2.1; simp only [Around.deeper]; lia, by have := R.2.2; simp only [Around.deeper]; lia⟩
private theorem enterC {c : Cf} {A : Around} {name : Str} {scope : Scope} {a : Addr} {cd : Value} {ps : List Str} {avs : List AV} {vs : List Value} {h₁ : Heap} {tk : Nat} (ok : FnOk ps scope) (R : Room A (D + 1)) (S : Hp X c m) (rs : Reps c.M avs vs)
    (F : PyProof.Rows.Fr c.s.heap c.s.heap.objs.size h₁ (bindL (envOfC name scope c.s.heap.objs.size a cd).kindOf (ps.zip vs) fun zz => none))
    (C : Cl c.s.heap.objs.size (cellsFrom (c.s.heap.objs.size + 1) scope.names []) h₁ (bindC (envOfC name scope c.s.heap.objs.size a cd).kindOf (ps.zip vs) fun zz => none)) :
    Ent X D scope.names (envOfC name scope c.s.heap.objs.size a cd) (c.s.heap.objs.size :: (cellsFrom (c.s.heap.objs.size + 1) scope.names []).map (·.2)) (A.deeper (envOfC name scope c.s.heap.objs.size a cd)) c
      ⟨{ c.s with heap := h₁, toks := tk }, c.M.pins h₁ (c.s.heap.objs.size :: (cellsFrom (c.s.heap.objs.size + 1) scope.names []).map (·.2))⟩ (ps.zip avs) m := by
  generalize hown : c.s.heap.objs.size :: (cellsFrom (c.s.heap.objs.size + 1) scope.names []).map (·.2) = own
  have S1 : Sep X { c.s with heap := h₁, toks := tk } c.M m := S.keep fun b o zz e => F.keep b o e
  have inown : ∀ n b, (n, b) ∈ cellsFrom (c.s.heap.objs.size + 1) scope.names [] → b ∈ own := fun n b h => hown ▸ List.mem_cons_of_mem _ (List.mem_map_of_mem (f := (·.2)) h)
  have lown : c.s.heap.objs.size ∈ own := hown ▸ List.mem_cons_self
  have cellc : ∀ x b, (envOfC name scope c.s.heap.objs.size a cd).cells.lookup x = some b → (x, b) ∈ cellsFrom (c.s.heap.objs.size + 1) scope.names [] := fun x b h => mem_of_lookup h
  have ge : ∀ b ∈ own, c.M.h b = none ∧ ∃ o, h₁.get? b = some o := fun b hb => by
    rw [← hown] at hb
    rcases List.mem_cons.mp hb with h | h
    · rw [h]; obtain ⟨o, _, _, e, _⟩ := F.ns; exact ⟨S.top, o, e⟩
    · obtain ⟨⟨n, b⟩, h1, rfl⟩ := List.mem_map.mp h
      obtain ⟨o, ho, _⟩ := C.cell n b (lookup_mem (cellsFrom_nd ok.nn) h1)
      refine ⟨S.fresh ?_, o, ho⟩
      cases e : c.s.heap.get? b with
      | none => rfl
      | some o => exact absurd (Heap.lt_size e) (Nat.not_lt.mpr (Nat.le_of_lt (C.above n b h1)))
  have fr : ∀ b ∈ own, c.M.h b = none := fun b hb => (ge b hb).1
  have hst : ∀ x, scope.names.lookup x = some .cell → ∃ b, (cellsFrom (c.s.heap.objs.size + 1) scope.names []).lookup x = some b := fun x h =>
    (mem_cellsFrom (mem_of_lookup h)).imp fun b q => lookup_mem (cellsFrom_nd ok.nn) q
  refine ⟨Map.le_pins fr, fr, R.deep _, fun x hx => hx.imp id fun hk => ⟨hk, (hst x hk).imp fun b q => ⟨q, inown x b (mem_of_lookup q)⟩⟩, {
    S := S1.pins fr
    ow := fun b hb => ⟨(ge b hb).2.imp fun o e => Map.pins_in hb e, ?_⟩
    ns := ⟨_, F.ns⟩
    L := lown
    cell := fun x b h zz => ⟨_, C.cell x b h⟩
    cL := fun x b h zz => Nat.ne_of_gt (C.above x b (cellc x b h))
    inj := fun x y b hx hy zz => name_of_addr C.apart (cellc x b hx) (cellc y b hy)
    N := {
      names := .rf _
      kind := ok.kind
      gl := rfl
      bu := rfl
      dbg := ok.dbg
      cld := ok.cld
      cel := fun x b h => (ge b (inown x b (cellc x b h))).2.imp fun o e => .inr (Map.pins_in (inown x b (cellc x b h)) e)
      var := fun x av h => by
        obtain ⟨v, hv, r⟩ := zipRep rs h
        refine ⟨v, r.up (Map.le_pins fr), ?_⟩
        rcases ok.kd x ((zip_nd ok.nd).2 (lookup_key h)) with hk | hk
        · obtain ⟨o, es, ep, q1, q2, q3, q4⟩ := F.ns
          exact .loc hk (Map.pins_in lown q1) q2 q3 (by rw [q4]; exact bindL_at hk (zip_nd (x := x) ok.nd).1 hv)
        · obtain ⟨b, hb⟩ := hst x hk
          obtain ⟨o, q1, q2⟩ := C.cell x b hb
          exact .cel (.inl hk) hb (.inr (Map.pins_in (inown x b (mem_of_lookup hb)) q1)) (by rw [q2, bindC_at hk (zip_nd (x := x) ok.nd).1 hv]) } }⟩
  cases e : X.B.h b with
  | none => rfl
  | some y => have := S.x.h _ _ e; rw [fr b hb] at this; cases this
noncomputable def Ret (R : AV → Mem → Prop) : RP
  | .ret v, _, m => R v m
  | .next, _, m => R .none m
  | _, _, _ => False
private theorem Ent.run {env : Env} {A : Around} {c d : Cf} {body : List Stmt} {R : AV → Mem → Prop} (e : Ent X D sc env own A c d L m) (hb : WE X D sc env.code env.qual body L m (Ret R)) {Q : Value → Shared → Prop} (k : ∀ v d r m', R r m' → Got X c m' r v d → Q v d.s) :
    wpAny (model X.prog X.w) A (execs body env) (fun f s' => Q (match f with | .ret v => v | _ => .none) s') (fun zz zz => False) d.s :=
  hb env own A d rfl rfl e.T _ _ fun v d2 fl L' m' f =>
    have l : c.M.le d2.M := ⟨fun a x q => f.l.h a x (fun ha => by rw [e.fr a ha] at q; cases q) (e.l.h a x q), fun i x q => f.l.g i x (e.l.g i x q)⟩
    match fl, v, f.r, f.p with
    | _, _, .next, p => k _ _ _ _ p ⟨l, f.F.S, .none⟩
    | _, _, .ret r, p => k _ _ _ _ p ⟨l, f.F, r⟩
noncomputable def CallR (X : Amb) (D : Nat) (op : List Value → Sem Value) (m : Mem) (avs : List AV) (R : AV → Mem → Prop) : Prop :=
  ∀ (A : Around) (c : Cf) (vs : List Value), Room A D → Hp X c m → Reps c.M avs vs → ∀ Q E, (∀ v d r m', R r m' → Got X c m' r v d → Q v d.s) → wpAny (model X.prog X.w) A (op vs) Q E c.s
noncomputable def BindN (fd : FuncData) : List Str → List (Str × Value) → List Value → Prop
  | [], bs, vs => bindArgs fd ⟨vs, []⟩ = pure bs
  | p :: ps, bs, vs => ∀ v, BindN fd ps (bs ++ [(p, v)]) (vs ++ [v])
private theorem BindN.to {fd : FuncData} : ∀ {ps : List Str} {bs : List (Str × Value)} {us vs : List Value}, BindN fd ps bs us → vs.length = ps.length → bindArgs fd ⟨us ++ vs, []⟩ = pure (bs ++ ps.zip vs) := by
  intro ps
  induction ps with
  | nil =>
    intro bs us vs h hl
    cases List.eq_nil_of_length_eq_zero hl
    rw [List.append_nil, List.zip_nil_left, List.append_nil]; exact h
  | cons p ps ih =>
    intro bs us vs h hl
    obtain ⟨v, vs, rfl⟩ := List.exists_cons_of_length_eq_add_one hl
    have := ih (h v) (Nat.succ.inj hl)
    rw [List.append_assoc, List.append_assoc] at this
    exact this
private theorem FnObj.call {F : Fd} {a : Addr} {ps : List Str} {avs : List AV} {R : AV → Mem → Prop} {o : Obj} {doc pm cd ct : Value} (h : FnObj X.B F F.name [] .none a o doc pm cd ct) (lim : NoLim X.B) (ok : FnOk ps F.scope) (hbind : ∀ doc pm cd ct, BindN (fnXD F F.name [] .none doc pm cd ct) ps [] []) (hl : avs.length = ps.length) (hb : WE X D F.scope.names cd (F.name ++ ".<locals>.") F.body (ps.zip avs) m (Ret R)) :
    CallR X (D + 1) (opF a) m avs R := fun A c vs Ro S rs Q E k => by
  refine wpAny_call (codeAny_call_cells (fd := fnXD F F.name [] .none doc pm cd ct) (by have := Ro.2.1; lia) (S.base h.m) h.data (lim.lim S) (h.code.go S) rfl ((hbind doc pm cd ct).to (rs.len.trans hl)) rfl (fun x hx => ?_) (fun s₁ I => ?_) ok.co ok.gen ok.kind)
  · rcases ok.kd _ (List.of_mem_zip hx).1 with h | h
    · exact .inl h
    · exact .inr ⟨h, ((mem_cellsFrom (mem_of_lookup h)).elim fun b q => by
        show ((cellsFrom _ F.scope.names []).lookup x.1).isSome = true
        rw [lookup_mem (cellsFrom_nd ok.nn) q]; rfl)⟩
  · obtain ⟨h₁, tk, rfl⟩ := I.toInCall.same
    exact wpAny_mono ((enterC (tk := tk) ok Ro S rs ⟨I.toInCall.ns, I.toInCall.keep, I.toInCall.fresh⟩ ⟨I.cell, I.apart, I.above⟩).run hb k) (fun zz zz x => x) fun zz zz x => x.elim
private theorem FnAt.call {F : Fd} {a : Addr} {ps : List Str} {avs : List AV} {R : AV → Mem → Prop} (h : FnAt X.B F F.name [] .none a) (lim : NoLim X.B) (ok : FnOk ps F.scope) (hbind : ∀ doc pm cd ct, BindN (fnXD F F.name [] .none doc pm cd ct) ps [] []) (hl : avs.length = ps.length) (hb : W X D F.scope.names F.body (ps.zip avs) m (Ret R)) :
    CallR X (D + 1) (opF a) m avs R := by
  obtain ⟨o, doc, pm, cd, ct, h⟩ := h
  exact h.call lim ok hbind hl hb.e
end
end
section
open PySem PySem.W PyProof.Rows PySem.Calls PySem.SeqAt
class inductive Frz (M : Map) (n : Nat) (mem : Mem) : AV → AV → Prop
  | none : Frz M n mem .none .none
  | bool (b : Bool) : Frz M n mem (.bool b) (.bool b)
  | int (i : Int) : Frz M n mem (.int i) (.int i)
  | str (l : List Nat) : Frz M n mem (.str l) (.str l)
  | dct (ks : List (Int × Int)) : Frz M n mem (.dct ks) (.dct ks)
  | rng (a b : Int) : Frz M n mem (.rng a b) (.rng a b)
  | ext (v : Value) : Frz M n mem (.ext v) (.ext v)
  | tup {xs ys : List AV} : xs.length = ys.length → (∀ (i : Nat) x y, xs[i]? = some x → ys[i]? = some y → Frz M n mem x y) → Frz M n mem (.tup xs) (.tup ys)
  | lst {xs ys : List AV} : xs.length = ys.length → (∀ (i : Nat) x y, xs[i]? = some x → ys[i]? = some y → Frz M n mem x y) → Frz M n mem (.lst xs) (.lst ys)
  | mref {i : Nat} {xs ys : List AV} : n ≤ i → mem[i]? = some (.lst xs) → xs.length = ys.length → (∀ (i : Nat) x y, xs[i]? = some x → ys[i]? = some y → Frz M n mem x y) → Frz M n mem (.mref i) (.lst ys)
  | mold {i : Nat} {a : Addr} : M.h a = some (.mu i) → Frz M n mem (.mref i) (.mref i)
  | iold {C : Addr} {i : Nat} {a : Addr} : M.h a = some (.mu i) → Frz M n mem (.inst C i) (.inst C i)
  | sold {L : LamS} {i : Nat} {a : Addr} : M.h a = some (.mu i) → Frz M n mem (.strm L i) (.strm L i)
structure FrzL (M : Map) (n : Nat) (mem : Mem) (xs ys : List AV) : Prop where
  len : xs.length = ys.length
  at' : ∀ (i : Nat) x y, xs[i]? = some x → ys[i]? = some y → Frz M n mem x y
section
variable {M N : Map} {n : Nat} {mem : Mem}
private theorem FrzL.nil : FrzL M n mem [] [] := ⟨rfl, fun zz zz zz h => by cases h⟩
private theorem FrzL.cons {x y : AV} {xs ys : List AV} (h : Frz M n mem x y) (r : FrzL M n mem xs ys) : FrzL M n mem (x :: xs) (y :: ys) := ⟨congrArg (· + 1) r.len, fun i => by
  cases i with
  | zero => intro x v h1 h2; cases h1; cases h2; exact h
  | succ i => exact r.at' i⟩
private theorem FrzL.map {α : Type} {f g : α → AV} (h : ∀ x, Frz M n mem (f x) (g x)) : ∀ l : List α, FrzL M n mem (l.map f) (l.map g)
  | [] => .nil
  | x :: r => .cons (h x) (FrzL.map h r)
private theorem Frz.tupL {xs ys : List AV} (h : FrzL M n mem xs ys) : Frz M n mem (.tup xs) (.tup ys) := .tup h.len h.at'
private theorem Frz.lstL {xs ys : List AV} (h : FrzL M n mem xs ys) : Frz M n mem (.lst xs) (.lst ys) := .lst h.len h.at'
private theorem Frz.mrefL {i : Nat} {xs ys : List AV} (l : n ≤ i) (e : mem[i]? = some (.lst xs)) (h : FrzL M n mem xs ys) : Frz M n mem (.mref i) (.lst ys) := .mref l e h.len h.at'
private theorem Frz.ints {l : List Int} : FrzL M n mem (l.map .int) (l.map .int) := .map (fun zz => .int _) l
private theorem Frz.strs {l : List (List Nat)} : FrzL M n mem (l.map .str) (l.map .str) := .map (fun zz => .str _) l
private theorem Rep.old {x : AV} {v : Value} (r : Rep M x v) : Frz M n mem x x := by
  induction r with
  | none => exact .none
  | bool b => exact .bool b
  | int i t => exact .int i
  | str l t => exact .str l
  | @tup a xs vs k h1 h2 _ ih => exact .tup rfl fun i x y e1 e2 => Option.some.inj (e1.symm.trans e2) ▸ ih i x _ e1 (List.getElem?_eq_getElem (h2 ▸ (List.getElem?_eq_some_iff.mp e1).1))
  | @lst a xs vs k h1 h2 _ ih => exact .lst rfl fun i x y e1 e2 => Option.some.inj (e1.symm.trans e2) ▸ ih i x _ e1 (List.getElem?_eq_getElem (h2 ▸ (List.getElem?_eq_some_iff.mp e1).1))
  | dct h1 h2 => exact .dct _
  | rng h => exact .rng _ _
  | mref h => exact .mold h
  | inst h1 h2 h3 h4 h5 => exact .iold h5
  | strm h1 h2 => exact .sold h2
  | ext v => exact .ext v
end
noncomputable def icy (h : Heap) (a : Addr) : Cel → Option Cel
  | .mu _ => (h.get? a).map .frz
  | x => some x
private theorem icy_of {h : Heap} {a : Addr} {x : Cel} (n : ∀ i, x ≠ .mu i) : icy h a x = some x := by
  cases x with
  | mu i => exact absurd rfl (n i)
  | _ => rfl
noncomputable def Map.ice (M N : Map) (h : Heap) : Map := ⟨fun a => (M.h a).elim ((N.h a).bind (icy h a)) some, N.g⟩
private theorem Map.ice_l {M N : Map} {h : Heap} {a : Addr} {x : Cel} (e : M.h a = some x) : (M.ice N h).h a = some x := by show (M.h a).elim _ _ = _; rw [e]; rfl
private theorem Map.ice_n {M N : Map} {h : Heap} {a : Addr} (e : M.h a = none) : (M.ice N h).h a = (N.h a).bind (icy h a) := by show (M.h a).elim _ _ = _; rw [e]; rfl
section
variable {X : Amb} {D : Nat} {c d : Cf} {m g : Mem}
private theorem Map.ice_k {M N : Map} {h : Heap} (l : M.le N) {a : Addr} {x : Cel} (e : N.h a = some x) (n : ∀ i, x ≠ .mu i) : (M.ice N h).h a = some x := by
  cases q : M.h a with
  | none => rw [Map.ice_n q, e]; exact icy_of n
  | some y => rw [Map.ice_l q]; rw [l.h a y q] at e; exact e
private theorem Map.ice_f {M N : Map} {h : Heap} (l : M.le N) : N.lef (M.ice N h) := fun a o e => Map.ice_k l e nofun
inductive IceAt (c d : Cf) (a : Addr) : Cel → Prop
  | new {o : Obj} : d.s.heap.get? a = some o → IceAt c d a (.frz o)
  | keep {x : Cel} : d.M.h a = some x → (∀ i, x ≠ .mu i) ∨ c.M.h a = some x → IceAt c d a x
structure Froze (X : Amb) (c d : Cf) (m g : Mem) : Prop where
  l : c.M.le d.M
  S : Hp X c m
  T : Hp X d (m ++ g)
variable (F : Froze X c d m g)
include F
private theorem Froze.old {a b : Addr} {i : Nat} (h1 : c.M.h a = some (.mu i)) (h2 : d.M.h b = some (.mu i)) : c.M.h b = some (.mu i) := F.T.i _ _ _ (F.l.h _ _ h1) h2 ▸ h1
private theorem Froze.rep {x y : AV} (f : Frz c.M m.length (m ++ g) x y) : ∀ {v : Value}, Rep d.M x v → Rep (c.M.ice d.M d.s.heap) y v := by
  induction f with
  | none => intro v r; rw [r.i_none]; exact .none
  | bool b => intro v r; rw [r.i_bool]; exact .bool b
  | int i => intro v r; obtain ⟨t, rfl⟩ := r.i_int; exact .int i t
  | str l => intro v r; obtain ⟨t, rfl⟩ := r.i_str; exact .str l t
  | ext w => intro v r; rw [r.i_ext]; exact .ext w
  | dct ks =>
    intro v r
    cases r.i_dct with
    | mk a b => exact .dct (Map.ice_k F.l a nofun) b
  | rng x y =>
    intro v r
    cases r.i_rng with
    | mk a => exact .rng (Map.ice_k F.l a nofun)
  | tup hl _ ih =>
    intro v r
    cases r.i_tup with
    | mk a b => exact .tup (Map.ice_k F.l a nofun) (b.len.trans hl) fun i y v e1 e2 => (b.get' e2).elim fun x q => ih i x y q.1 e1 q.2
  | lst hl _ ih =>
    intro v r
    cases r.i_lst with
    | mk a b => exact .lst (Map.ice_k F.l a nofun) (b.len.trans hl) fun i y v e1 e2 => (b.get' e2).elim fun x q => ih i x y q.1 e1 q.2
  | @mref i xs ys hi hm hl _ ih =>
    intro v r
    cases r.i_mref with
    | @mk a ha =>
      obtain ⟨vs, n, e, b⟩ := F.T.mlist ha hm
      have hn : c.M.h a = none := by
        cases q : c.M.h a with
        | none => rfl
        | some x => have := F.l.h _ _ q; rw [ha] at this; cases this; exact absurd (F.S.lt q) (Nat.not_lt.mpr hi)
      exact .lst (vs := vs) (n := n) (by rw [Map.ice_n hn, ha]; show (d.s.heap.get? a).map Cel.frz = _; rw [e]; rfl) (b.len.trans hl) fun i y v e1 e2 => (b.get' e2).elim fun x q => ih i x y q.1 e1 q.2
  | mold h =>
    intro v r
    cases r.i_mref with
    | mk a => exact .mref (Map.ice_l (F.old h a))
  | iold h =>
    intro v r
    cases r.i_inst with
    | mk a1 a2 a3 a4 a5 => exact .inst (Map.ice_k F.l a1 nofun) a2 a3 a4 (Map.ice_l (F.old h a5))
  | sold h =>
    intro v r
    cases r.i_strm with
    | mk a1 a2 => exact .strm (a1.up (Map.ice_f F.l)) (Map.ice_l (F.old h a2))
private theorem Froze.rep' {x : AV} {v w : Value} (r : Rep c.M x v) (q : Rep d.M x w) : Rep (c.M.ice d.M d.s.heap) x w := F.rep r.old q
private theorem Froze.reps {xs : List AV} {vs ws : List Value} (r : Reps c.M xs vs) (q : Reps d.M xs ws) : Reps (c.M.ice d.M d.s.heap) xs ws := ⟨q.len, fun i x w h1 h2 => (r.get h1).elim fun v z => F.rep' z.2 (q.at' i x w h1 h2)⟩
private theorem Froze.mem {h : Heap} {a : Addr} {ao : AObj} (r : MemAt c.M h a ao) (q : MemAt d.M d.s.heap a ao) : MemAt (c.M.ice d.M d.s.heap) d.s.heap a ao := by
  cases q with
  | lst e q => cases r with
    | lst _ r => exact .lst e (F.reps r q)
  | @ns l f e q => cases r with
    | ns _ r => exact .ns e fun x => (q x).elim (fun ⟨av, v, h1, h2, h3⟩ => (r x).elim (fun ⟨av', v', k1, k2, k3⟩ => by rw [h1] at k1; cases k1; exact .inl ⟨av, v, h1, h2, F.rep' k3 h3⟩) fun k => by rw [h1] at k; cases k.1) .inr
  | cit0 e => exact .cit0 e
  | cit e b q => cases r with
    | cit e' b' r => exact .cit e (Map.ice_k F.l b nofun) (by
        cases r.i_inst with
        | mk _ _ _ _ h => exact F.rep (.iold h) q)
private theorem Froze.sep : Sep X d.s (c.M.ice d.M d.s.heap) m :=
  have at' : ∀ a x, (c.M.ice d.M d.s.heap).h a = some x → IceAt c d a x := fun a x e => by
    cases q : c.M.h a with
    | some y => rw [Map.ice_l q] at e; cases e; exact .keep (F.l.h _ _ q) (.inr q)
    | none =>
      rw [Map.ice_n q] at e
      obtain ⟨y, k, e⟩ := Option.bind_eq_some_iff.mp e
      cases y with
      | mu i => obtain ⟨o, z, e⟩ := Option.map_eq_some_iff.mp (e : (d.s.heap.get? a).map Cel.frz = _); exact e ▸ .new z
      | _ => cases e; exact .keep k (.inl nofun)
  have mu : ∀ a j, (c.M.ice d.M d.s.heap).h a = some (.mu j) → c.M.h a = some (.mu j) := fun a j e => by
    cases at' a _ e with
    | keep _ n => exact n.elim (fun n => absurd rfl (n j)) id
  { F.T with
    c := fun a x e => by
      cases at' a x e with
      | new g => exact .frz g
      | keep q n =>
        cases F.T.c a x q with
        | frz g => exact .frz g
        | pin g => exact .pin g
        | tab t => exact .tab ⟨t.g, t.ok, fun pq h1 cv h2 => (t.r pq h1 cv h2).up (Map.ice_f F.l)⟩
        | @mu i ao hao g =>
          have q := n.elim (fun n => absurd rfl (n i)) id
          obtain ⟨ao, hao⟩ : ∃ ao, m[i]? = some ao := ⟨_, List.getElem?_eq_getElem (F.S.lt q)⟩
          exact .mu hao (F.mem (F.S.mu q hao) (F.T.mu (F.l.h _ _ q) ((List.getElem?_append_left (F.S.lt q)).trans hao)))
    i := fun a b j h1 h2 => F.S.i a b j (mu a j h1) (mu b j h2)
    x := ⟨fun a x e => Map.ice_l (F.S.x.h a x e), F.T.x.g⟩ }
omit F
inductive Kept (M : Map) (m : Mem) (r' : AV) (r : AV) : Mem → Prop
  | mk {g : Mem} : Frz M m.length (m ++ g) r' r → Kept M m r' r (m ++ g)
private theorem CallR.keep {op : List Value → Sem Value} {avs : List AV} {R : AV → Mem → Prop} {r : AV} (h : CallR X D op m avs R) (k : ∀ r' m' M, R r' m' → Kept M m r' r m') : Call X D op m avs r m := fun A c vs Ro S rs Q E q =>
  h A c vs Ro S rs Q E fun v d r' m' hr g => by
    cases k r' m' c.M hr with
    | @mk g' f =>
      have F : Froze X c d m g' := ⟨g.l, S, g.h⟩
      exact q v ⟨d.s, c.M.ice d.M d.s.heap⟩ ⟨⟨fun a x e => Map.ice_l e, g.l.g⟩, F.sep, F.rep f g.r⟩
end
end
section
open PySem PySem.W PyProof.Rows PySem.Calls PySem.SeqAt
section
variable {X : Amb} {D : Nat} {sc : Names} {L : Lc} {m m1 m2 m3 : Mem}
private theorem Call.of1 {op : List Value → Sem Value} {x r : AV} {m' : Mem} (h : ∀ (A : Around) (c : Cf) (v : Value), Room A D → Hp X c m → Rep c.M x v → ∀ Q E, (∀ v d, Got X c m' r v d → Q v d.s) → wpAny (model X.prog X.w) A (op [v]) Q E c.s) : Call X D op m [x] r m' := fun A c vs R S rs Q E k => by
  cases rs.i_cons with
  | mk r1 r2 => cases r2.i_nil; exact h A c _ R S r1 Q E k
private theorem Call.of2 {op : List Value → Sem Value} {x y r : AV} {m' : Mem} (h : ∀ (A : Around) (c : Cf) (v w : Value), Room A D → Hp X c m → Rep c.M x v → Rep c.M y w → ∀ Q E, (∀ v d, Got X c m' r v d → Q v d.s) → wpAny (model X.prog X.w) A (op [v, w]) Q E c.s) : Call X D op m [x, y] r m' := fun A c vs R S rs Q E k => by
  cases rs.i_cons with
  | mk r1 r2 =>
    cases r2.i_cons with
    | mk r3 r4 => cases r4.i_nil; exact h A c _ _ R S r1 r3 Q E k
private theorem Sep.upd {s : Shared} {M : Map} {a : Addr} {i : Nat} {ys : List AV} {vs ws : List Value} {n : Nat} {f : Array Value → Array Value} (S : Sep X s M m) (ha : M.h a = some (.mu i)) (hv : s.heap.get? a = some (lo vs n)) (hf : f vs.toArray = ws.toArray) (r : Reps M ys ws) (tk : Nat) :
    Sep X { s with heap := s.heap.update a (Obj.mapSeq f), toks := tk } M (m.set i (.lst ys)) :=
  S.setMut ha (fun b o hb e => ((Heap.SameBut.update ..).2 b hb).trans e) (.lst (hf ▸ IsL.update (h := s.heap) (l := a) (items := vs.toArray) (n := n) hv f) r)
private theorem lt25 {n : Nat} (h : n ≤ 2 ^ 23) : n + 1 ≤ sizeLine := Nat.le_trans (Nat.succ_le_succ h) (by decide)
private theorem le24 {n : Nat} (h : n ≤ 2 ^ 23) : n ≤ sizeLine := Nat.le_trans h (by decide)
private theorem Call.append {i : Nat} {x : AV} {xs : List AV} (e : m[i]? = some (.lst xs)) (hz : xs.length ≤ 2 ^ 23) : Call X D (opB "list.append") m [.mref i, x] .none (m.set i (.lst (xs ++ [x]))) := .of2 fun A c v w R S r q Q E k => by
  cases r.i_mref with
  | @mk a ha =>
    obtain ⟨us, n, h1, rx⟩ := S.mlist ha e
    refine call_meets F.slot_list_append ⟨_, h1, rfl⟩ F.entry_list_append (F.args_list_append_2 _ _) (PySem.list_append a us.toArray n w (le24 (rx.sz hz))) ⟨h1, ?_⟩
    exact k _ ⟨{ c.s with heap := _, toks := c.s.toks }, c.M⟩ ⟨.rf _, S.upd ha h1 (ws := us ++ [w]) (List.push_toArray ..) (rx.app (.one q)) _, .none⟩
private theorem Reps.take {M : Map} {xs : List AV} {vs : List Value} (r : Reps M xs vs) (n : Nat) : Reps M (xs.take n) (vs.take n) := ⟨by rw [List.length_take, List.length_take, r.len], fun i x v h1 h2 => by
  rw [List.getElem?_take] at h1 h2
  split at h1
  · rename_i h; rw [if_pos h] at h2; exact r.at' i x v h1 h2
  · cases h1⟩
private theorem Reps.dropLast {M : Map} {xs : List AV} {vs : List Value} (r : Reps M xs vs) : Reps M xs.dropLast vs.dropLast := by
  rw [List.dropLast_eq_take, List.dropLast_eq_take, r.len]; exact r.take _
private theorem Reps.reverse {M : Map} {xs : List AV} {vs : List Value} (r : Reps M xs vs) : Reps M xs.reverse vs.reverse := by
  induction xs generalizing vs with
  | nil => rw [r.i_nil]; exact .nil
  | cons x xs ih =>
    cases r.i_cons with
    | mk r1 rs => rw [List.reverse_cons, List.reverse_cons]; exact (ih rs).app (.one r1)
private theorem getLast_at {α : Type} {xs : List α} {x : α} : (xs ++ [x])[(xs ++ [x]).length - 1]? = some x := by
  rw [List.length_append, List.length_singleton, Nat.add_sub_cancel, List.getElem?_append_right (Nat.le_refl _), Nat.sub_self]; rfl
private theorem Call.pop {i : Nat} {x : AV} {xs : List AV} (e : m[i]? = some (.lst (xs ++ [x]))) (hz : xs.length ≤ 2 ^ 23) : Call X D (opB "list.pop") m [.mref i] x (m.set i (.lst xs)) := .of1 fun A c v R S r Q E k => by
  cases r.i_mref with
  | @mk a ha =>
    obtain ⟨us, n, h1, rx⟩ := S.mlist ha e
    obtain ⟨v, hv, rv⟩ := rx.get getLast_at
    rw [← rx.len] at hv
    have rd := rx.dropLast
    rw [List.dropLast_concat] at rd
    have hl : us.length = xs.length + 1 := rx.len.trans (by simp)
    refine call_meets PySem.F.slot_list_pop ⟨_, h1, rfl⟩ PySem.F.entry_list_pop (PySem.F.args_list_pop_1 _) (MeetsSeq.list_pop_last _ us.toArray n v (by simpa using hv) (by rw [List.size_toArray, hl]; exact lt25 hz)) ⟨h1, ?_⟩
    refine k _ ⟨{ c.s with heap := _, toks := c.s.toks }, c.M⟩ ⟨.rf _, S.upd ha h1 (ws := us.dropLast) ?_ rd _, rv⟩
    simp [List.dropLast_eq_take, List.eraseIdx_eq_take_drop_succ]
    (clear hl hz; omega)
private theorem Call.pop0 {i : Nat} {x : AV} {xs : List AV} (e : m[i]? = some (.lst (x :: xs))) (hz : xs.length ≤ 2 ^ 23) : Call X D (opB "list.pop") m [.mref i, .int 0] x (m.set i (.lst xs)) := .of2 fun A c v w R S r q Q E k => by
  obtain ⟨t, rfl⟩ := q.i_int
  cases r.i_mref with
  | @mk a ha =>
    obtain ⟨us, n, h1, rx⟩ := S.mlist ha e
    cases rx.i_cons with
    | @mk v us rv rz =>
      refine call_meets PySem.F.slot_list_pop ⟨_, h1, rfl⟩ PySem.F.entry_list_pop (PySem.F.args_list_pop_2 _ _) (MeetsSeq.list_pop_at _ (v :: us).toArray n 0 _ 0 v (by decide) (by simp [seqIndex?]) (by simp) (by rw [List.size_toArray]; exact lt25 (rz.sz hz))) ⟨h1, ?_⟩
      exact k _ ⟨{ c.s with heap := _, toks := c.s.toks }, c.M⟩ ⟨.rf _, S.upd ha h1 (ws := us) (by simp) rz _, rv⟩
private theorem tooL {n : Nat} (h : n ≤ 2 ^ 23) : Builtin.List.listTooLong n = false := by
  unfold Builtin.List.listTooLong; simp [sizeLine_is]; exact dB h rfl
private theorem Call.extend {i : Nat} {xs ys : List AV} (e : m[i]? = some (.lst xs)) (hz : xs.length + ys.length ≤ 2 ^ 23) : Call X D (opB "list.extend") m [.mref i, .lst ys] .none (m.set i (.lst (xs ++ ys))) := .of2 fun A c v w R S r q Q E k => by
  cases r.i_mref with
  | @mk a ha =>
    cases q.i_lst with
    | @mk b ws nb hb ry =>
      obtain ⟨us, n, h1, rx⟩ := S.mlist ha e
      have h2 : us.toArray.size + ws.toArray.size ≤ 2 ^ 23 := by rw [List.size_toArray, List.size_toArray, rx.len, ry.len]; exact hz
      have fits : ¬ (!us.toArray.isEmpty && Builtin.List.listTooLong (us.toArray.size + ws.toArray.size)) = true := by rw [tooL h2, Bool.and_false]; exact nofun
      refine call_meets PySem.F.slot_list_extend ⟨_, h1, rfl⟩ PySem.F.entry_list_extend (PySem.F.args_list_extend_2 _ _) (AutoSeq1.list_extend_list_list_0 _ us.toArray n _ ws.toArray nb fits (le24 (Nat.le_trans (Nat.le_add_right _ _) h2)) (Nat.le_succ_of_le (le24 h2))) ⟨h1, S.frz hb, ?_⟩
      exact k _ ⟨{ c.s with heap := _, toks := c.s.toks }, c.M⟩ ⟨.rf _, S.upd ha h1 (ws := us ++ ws) (by simp) (rx.app ry) _, .none⟩
private theorem Call.reverse {i : Nat} {xs : List AV} (e : m[i]? = some (.lst xs)) (hz : xs.length ≤ 2 ^ 23) : Call X D (opB "list.reverse") m [.mref i] .none (m.set i (.lst xs.reverse)) := .of1 fun A c v R S r Q E k => by
  cases r.i_mref with
  | @mk a ha =>
    obtain ⟨us, n, h1, rx⟩ := S.mlist ha e
    refine call_meets PySem.F.slot_list_reverse ⟨_, h1, rfl⟩ PySem.F.entry_list_reverse (PySem.F.args_list_reverse_1 _) (AutoSeq1.list_reverse_list_0 _ us.toArray n (le24 (rx.sz hz))) ⟨h1, ?_⟩
    exact k _ ⟨{ c.s with heap := _, toks := c.s.toks }, c.M⟩ ⟨.rf _, S.upd ha h1 (ws := us.reverse) (by simp) rx.reverse _, .none⟩
private theorem lt63 {n : Nat} (h : n ≤ 2 ^ 40) : (n : Int) < 2 ^ 63 := Int.lt_of_le_of_lt (Int.ofNat_le.mpr h) (by decide)
private theorem lenL {A : Around} {c : Cf} {a : Addr} {us : List Value} {xs : List AV} {n : Nat} (h : c.s.heap.get? a = some (lo us n)) (r : Reps c.M xs us) (S : Hp X c m) (hz : xs.length ≤ 2 ^ 40) {Q E : Value → Shared → Prop} (k : ∀ v d, Got X c m (.int xs.length) v d → Q v d.s) : wpAny (model X.prog X.w) A (opB "len" [.ref a]) Q E c.s :=
  Calls.call_len_list (items := us.toArray) ⟨_, h, rfl, n, rfl⟩ (lt63 (r.sz hz)) (by rw [List.size_toArray, r.len]; exact k _ _ (.tok S (.int _ _) _))
private theorem Call.lenL {xs : List AV} (hz : xs.length ≤ 2 ^ 40) : Call X D (opB "len") m [.lst xs] (.int xs.length) m := .of1 fun A c v R S r Q E k => by
  cases r.i_lst with
  | mk a b => exact Mine.lenL (S.frz a) b S hz k
private theorem Call.lenM {i : Nat} {xs : List AV} (e : m[i]? = some (.lst xs)) (hz : xs.length ≤ 2 ^ 40) : Call X D (opB "len") m [.mref i] (.int xs.length) m := .of1 fun A c v R S r Q E k => by
  cases r.i_mref with
  | mk a => obtain ⟨us, n, h1, rx⟩ := S.mlist a e; exact Mine.lenL h1 rx S hz k
private theorem Call.lenS {l : List Nat} (hz : l.length ≤ 2 ^ 40) : Call X D (opB "len") m [.str l] (.int l.length) m := .of1 fun A c v R S r Q E k => by
  obtain ⟨t, rfl⟩ := r.i_str
  exact PySem.P.len_str (Int.not_le.mpr (lt63 hz)) (k (.int (l.length : Nat) _) _ (.tok S (.int _ _) _))
private theorem Call.range {n : Int} : Call X D (opT "range") m [.int n] (.rng 0 n) m := .of1 fun A c v R S r Q E k => by
  obtain ⟨t, rfl⟩ := r.i_int
  exact PySem.call_range_1 (k _ _ (Got.new S (rngObj 0 _ 1 _ _ _) rfl _ fun M zz e => .rng e))
private theorem Call.divmod {a b : Int} (h0 : b ≠ 0) (h1 : b.natAbs < 1073741824) : Call X D (opB "divmod") m [.int a, .int b] (.tup [.int (a.fdiv b), .int (a.fmod b)]) m := .of2 fun A c v w R S r q Q E k => by
  obtain ⟨t, rfl⟩ := r.i_int
  obtain ⟨u, rfl⟩ := q.i_int
  exact PyProof.Rows.divmod_int h0 (k _ _ (Got.newTup S (xs := [.int (a.fdiv b), .int (a.fmod b)]) (.cons (.int _ _) (.one (.int _ _))) (c.s.toks + 1 + 1))) (.inl (PyProof.noPylong_small h1))
private theorem Call.bits {a : Int} : Call X D (opB "int.bit_length") m [.int a] (.int (Builtin.Int.intBits a)) m := .of1 fun A c v R S r Q E k => by
  obtain ⟨t, rfl⟩ := r.i_int
  exact PyProof.Rows.call_int_bit_length (k _ _ (.tok S (.int _ _) _))
end
end
section
open PySem PySem.W PyProof.Rows PySem.Calls PySem.SeqAt
private theorem occCount (x : Str) (c : Nat) : ∀ (n i : Nat) (st : Array Nat × Nat), i + n = x.length + 1 → st.snd ≤ i → st.fst.size ≤ i →
    (forIn (List.range' i n) st (StrLaws.occBody x ⟨#[c]⟩ x.length (x.length + 1))).run.fst.size = st.fst.size + ((x.cps.toList.drop i).count c)
  | 0, i, st, hi, hf, hs => by
    have : x.cps.toList.length ≤ i := by simp [Str.length] at hi ⊢; lia
    rw [List.drop_eq_nil_of_le this]
    simp [List.range']
  | n + 1, i, st, hi, hf, hs => by
    rw [List.range'_succ, List.forIn_cons]
    unfold StrLaws.occBody
    have hx : (⟨#[c]⟩ : Str).length = 1 := rfl
    have iff := StrLaws.subAt_one x c i
    cases hget : x.cps.toList[i]? with
    | some d =>
      obtain ⟨hlt, hd0⟩ := List.getElem?_eq_some_iff.mp hget
      have hd : x.cps.toList.drop i = d :: x.cps.toList.drop (i + 1) := by rw [← hd0]; exact List.drop_eq_getElem_cons hlt
      rw [hget] at iff
      by_cases hc : d = c
      · subst hc
        have h1 := iff.mpr rfl
        rw [if_pos ⟨⟨⟨by (clear iff hx; lia), hf⟩, h1.1⟩, h1.2⟩]
        refine (occCount x d n (i + 1) (st.fst.push i, i + (⟨#[d]⟩ : Str).length) (by lia) (Nat.le_refl _) (by rw [Array.size_push]; exact Nat.succ_le_succ hs)).trans ?_
        rw [hd, List.count_cons_self, Array.size_push, Nat.add_assoc, Nat.add_comm 1]
      · rw [if_neg (fun h => hc (Option.some.inj (iff.mp ⟨h.1.2, h.2⟩)))]
        refine (occCount x c n (i + 1) _ (by lia) (Nat.le_succ_of_le hf) (Nat.le_succ_of_le hs)).trans ?_
        rw [hd, List.count_cons_of_ne hc]
    | none =>
      have hlen := List.getElem?_eq_none_iff.mp hget
      rw [hget] at iff
      rw [if_neg (fun h => nomatch iff.mp ⟨h.1.2, h.2⟩)]
      refine (occCount x c n (i + 1) _ (by lia) (Nat.le_succ_of_le hf) (Nat.le_succ_of_le hs)).trans ?_
      rw [List.drop_eq_nil_of_le (Nat.le_succ_of_le hlen), List.drop_eq_nil_of_le hlen]
private theorem txtCount (l : List Nat) (c : Nat) : Txt.count ⟨l.toArray⟩ ⟨#[c]⟩ = (l.count c : Int) := by
  unfold Txt.count
  rw [StrLaws.occ_eq]
  have := occCount ⟨l.toArray⟩ c ((⟨l.toArray⟩ : Str).length + 1 - 0) 0 (#[], 0) (by lia) (Nat.le_refl _) (Nat.le_refl _)
  rw [Array.length_toList, this]
  simp
private theorem txtJoin (ys : List (List Nat)) : Txt.join ⟨#[]⟩ (ys.map fun l => (⟨l.toArray⟩ : Str)) = ⟨ys.flatten.toArray⟩ := by
  show Builtin.Str.glued _ _ = _
  rw [StrLaws.glued_eq_join]
  induction ys with
  | nil => rfl
  | cons y r ih =>
    cases r with
    | nil => simp [Str.join]
    | cons z r =>
      simp only [List.map_cons] at ih ⊢
      show (⟨y.toArray⟩ ++ ⟨#[]⟩ ++ Str.join ⟨#[]⟩ (⟨z.toArray⟩ :: r.map fun l => (⟨l.toArray⟩ : Str))) = _
      rw [ih]
      show (⟨(y.toArray ++ #[]) ++ _⟩ : Str) = _
      simp
section
variable {X : Amb} {D : Nat} {sc : Names} {L : Lc} {m m1 m2 m3 : Mem} {M : Map}
private theorem Reps.strsAre : ∀ {ys : List (List Nat)} {vs : List Value}, Reps M (ys.map .str) vs → StrsAre vs (ys.map fun l => (⟨l.toArray⟩ : Str))
  | [], _, r => by rw [r.i_nil]; exact .nil
  | y :: ys, vs, r => by
    cases r.i_cons with
    | mk r1 r2 => obtain ⟨t, rfl⟩ := r1.i_str; exact .cons _ _ (Reps.strsAre r2)
private theorem Call.count {l : List Nat} {x : Nat} : Call X D (opB "str.count") m [.str l, .str [x]] (.int (l.count x)) m := .of2 fun A c v w R S r q Q E k => by
  obtain ⟨t, rfl⟩ := r.i_str
  obtain ⟨u, rfl⟩ := q.i_str
  refine SC.count ?_
  rw [show (⟨[x].toArray⟩ : Str) = ⟨#[x]⟩ from rfl, txtCount]
  exact k _ _ (.tok S (.int _ _) _)
private theorem joinGo {A : Around} {c : Cf} {a : Addr} {us : List Value} {ys : List (List Nat)} {n : Nat} {t : Tok} (h : c.s.heap.get? a = some (lo us n)) (r : Reps c.M (ys.map .str) us) (S : Hp X c m) (hz : (ys.map List.length).sum ≤ 2 ^ 24) {Q E : Value → Shared → Prop} (k : ∀ v d, Got X c m (.str ys.flatten) v d → Q v d.s) : wpAny (model X.prog X.w) A (opB "str.join" [.str ⟨([] : List Nat).toArray⟩ t, .ref a]) Q E c.s := by
  refine PyProof.Rows.join_list (items := us.toArray) ⟨_, h, rfl, n, rfl⟩ r.strsAre ?_ fun t' zz => ?_
  · rw [List.map_map, show ((fun x : Str => x.length) ∘ fun l : List Nat => (⟨l.toArray⟩ : Str)) = List.length from rfl]
    simp [Str.length]; exact hz
  · rw [show (⟨([] : List Nat).toArray⟩ : Str) = ⟨#[]⟩ from rfl, txtJoin]
    exact k _ _ (.tok S (.str _ _) _)
private theorem Call.join {ys : List (List Nat)} (hz : (ys.map List.length).sum ≤ 2 ^ 24) : Call X D (opB "str.join") m [.str [], .lst (ys.map .str)] (.str ys.flatten) m := .of2 fun A c v w R S r q Q E k => by
  obtain ⟨t, rfl⟩ := r.i_str
  cases q.i_lst with
  | mk a b => exact joinGo (S.frz a) b S hz k
private theorem Call.joinM {i : Nat} {ys : List (List Nat)} (e : m[i]? = some (.lst (ys.map .str))) (hz : (ys.map List.length).sum ≤ 2 ^ 24) : Call X D (opB "str.join") m [.str [], .mref i] (.str ys.flatten) m := .of2 fun A c v w R S r q Q E k => by
  obtain ⟨t, rfl⟩ := r.i_str
  cases q.i_mref with
  | mk a => obtain ⟨us, n, h1, rx⟩ := S.mlist a e; exact joinGo h1 rx S hz k
private theorem Sep.join {s : Shared} {h' : Heap} {tk : Nat} (S : Sep X s M m) {us : Array Value} {n : Nat} {xs : List AV} (hk : ∀ b o, s.heap.get? b = some o → h'.get? b = some o) (ho : h'.get? s.heap.objs.size = some { cls := .type "list", dict := none, data := .seq us n, slots := #[] }) (r : Reps M xs us.toList) :
    Sep X { s with heap := h', toks := tk } (M.set s.heap.objs.size (.mu m.length)) (m ++ [.lst xs]) :=
  S.putNew S.top (fun b o zz e => hk b o e) (fun b j zz e => List.getElem?_append_left (S.lt e)) (fun j q b e => by cases q; exact absurd (S.lt e) (Nat.lt_irrefl _)) (.mu (get_app0 _ _) (.lst (vs := us.toList) (n := n) ho (r.up (Map.le_set _ S.top))))
private theorem Got.join {c : Cf} (S : Hp X c m) {h' : Heap} {tk : Nat} {us : Array Value} {n : Nat} {xs : List AV} (hk : ∀ b o, c.s.heap.get? b = some o → h'.get? b = some o) (ho : h'.get? c.s.heap.objs.size = some { cls := .type "list", dict := none, data := .seq us n, slots := #[] }) (r : Reps c.M xs us.toList) :
    Got X c (m ++ [.lst xs]) (.mref m.length) (.ref c.s.heap.objs.size) ⟨{ c.s with heap := h', toks := tk }, c.M.set c.s.heap.objs.size (.mu m.length)⟩ := ⟨Map.le_set _ S.top, S.join hk ho r, .mref (Map.set_at _ _ _)⟩
private theorem listSeq {A : Around} {c : Cf} {a : Addr} {us : List Value} {xs : List AV} {n : Nat} (h : c.s.heap.get? a = some (lo us n)) (r : Reps c.M xs us) (S : Hp X c m) (hz : xs.length ≤ 2 ^ 23) {Q E : Value → Shared → Prop} (k : ∀ v d, Got X c (m ++ [.lst xs]) (.mref m.length) v d → Q v d.s) : wpAny (model X.prog X.w) A (opT "list" [.ref a]) Q E c.s :=
  call_list_seq a (.inl rfl) h rfl rfl (fun h' c' hk ho => k _ ⟨{ c.s with heap := h', toks := c.s.toks }, _⟩ (Got.join S hk ho r)) (le24 (r.sz hz))
private theorem Call.list {xs : List AV} (hz : xs.length ≤ 2 ^ 23) : Call X D (opT "list") m [.lst xs] (.mref m.length) (m ++ [.lst xs]) := .of1 fun A c v R S r Q E k => by
  cases r.i_lst with
  | mk a b => exact listSeq (S.frz a) b S hz k
private theorem itemsReps {Pv : Nat → Value → Prop} {acc : Array Value} {xs : List AV} (h : PySem.ItemsOf Pv acc xs.length) (hx : ∀ (i : Nat) v x, xs[i]? = some x → Pv i v → Rep M x v) : Reps M xs acc.toList :=
  ⟨h.1, fun i x v h1 h2 => hx i v x h1 (h.2 i v (by simpa using h2))⟩
private theorem Call.listS {l : List Nat} (hz : l.length ≤ 2 ^ 23) : Call X D (opT "list") m [.str l] (.mref m.length) (m ++ [.lst (l.map fun c => .str [c])]) := .of1 fun A c v R S r Q E k => by
  obtain ⟨t, rfl⟩ := r.i_str
  refine call_list_str R.1 _ _ (fun h' tk acc' c' hk ho hi => ?_) (le24 hz)
  refine k _ ⟨{ c.s with heap := h', toks := tk }, _⟩ (Got.join S hk ho (itemsReps (by simpa using hi) fun i v x hx pv => ?_))
  obtain ⟨d, u, hc, hv⟩ := pv
  rw [List.getElem?_map] at hx
  have hc : l[i]? = some d := by simpa using hc
  rw [hc] at hx; cases hx
  rw [hv]; exact .str [d] _
private theorem Call.listR {n : Nat} (hn : n ≤ 2 ^ 23) : Call X D (opT "list") m [.rng 0 n] (.mref m.length) (m ++ [.lst ((List.range n).map fun (i : Nat) => .int i)]) := .of1 fun A c v R S r Q E k => by
  cases r.i_rng with
  | mk a =>
    have hsz : Builtin.Range.rangeSize 0 n 1 = (n : Int) := by rw [rangeSize_one]; split <;> lia
    refine call_list_range R.1 (S.frz a) (small_one (by decide) (by decide) (Int.natCast_nonneg _) (by lia)) hsz (dB hn rfl) fun h' tk acc' c' hk' ho hi => ?_
    refine k _ ⟨{ c.s with heap := h', toks := tk }, _⟩ (Got.join S hk' ho (itemsReps (by simpa using hi) fun i v x hx pv => ?_))
    obtain ⟨t, hv⟩ := pv
    rw [List.getElem?_map] at hx
    obtain ⟨j, hj, rfl⟩ := Option.map_eq_some_iff.mp hx
    obtain ⟨hj1, hj2⟩ := List.getElem?_eq_some_iff.mp hj
    rw [List.getElem_range] at hj2
    subst hj2
    rw [hv]; simpa using Rep.int _ _
end
end
section
open PySem PySem.W PyProof.Rows PySem.Calls PySem.SeqAt
section
variable {X : Amb} {D : Nat} {sc : Names} {L : Lc} {m m1 m2 m3 : Mem} {M : Map}
private theorem preSum_take (ns : List Int) : ∀ j, j ≤ ns.length → preSum (fun i => ns.getD i 0) j = (ns.take j).sum
  | 0, _ => by simp [preSum]
  | j + 1, h => by
    show preSum (fun i => ns.getD i 0) j + ns.getD j 0 = _
    rw [preSum_take ns j (Nat.le_of_succ_le h)]
    have e : ns.take (j + 1) = ns.take j ++ [ns[j]] := by rw [List.take_add_one, List.getElem?_eq_getElem h]; rfl
    rw [e, List.sum_append, List.getD_eq_getElem?_getD, List.getElem?_eq_getElem h]
    simp only [Option.getD_some, List.sum_cons, List.sum_nil, Int.add_zero]
private theorem Reps.int {ns : List Int} {vs : List Value} (r : Reps M (ns.map .int) vs) {i : Nat} {v : Value} (h : vs[i]? = some v) : ∃ t, v = .int (ns.getD i 0) t := by
  obtain ⟨x, h1, q⟩ := r.get' h
  rw [List.getElem?_map] at h1
  obtain ⟨n, h2, rfl⟩ := Option.map_eq_some_iff.mp h1
  rw [List.getD_eq_getElem?_getD, h2]
  exact q.i_int
private theorem Sep.keepBut {s : Shared} (S : Sep X s M m) {a : Addr} {h' : Heap} {tk : Nat} (ha : M.h a = none) (hs : ∀ b o, b ≠ a → s.heap.get? b = some o → h'.get? b = some o) : Sep X { s with heap := h', toks := tk } M m :=
  S.keep fun b o n e => hs b o (fun q => n (q ▸ ha)) e
private theorem Call.sum {ns : List Int} : Call X D (opB "sum") m [.lst (ns.map .int)] (.int ns.sum) m := .of1 fun A c v R S r Q E k => by
  cases r.i_lst with
  | @mk a us n hk rx =>
    have hl : c.s.heap.IsList a us.toArray := ⟨_, S.frz hk, rfl, n, rfl⟩
    have hlt := Heap.lt_size (S.frz hk)
    refine call_sum_walkG (wpAny_pyIter_list hl ⟨_, _, _, _, _, _, fun i => ns.getD i 0, rfl, Walks.list (A := A.in1) R.1 _ a (Nat.ne_of_lt hlt) us.toArray, ⟨⟨_, Heap.get?_push_size _ rfl, rfl, rfl⟩, hl.push _⟩, ?_, ?_, ?_⟩)
    · intro b hb
      rw [Heap.size_push]
      rcases List.mem_cons.mp hb with h | h
      · rw [h]; exact Nat.lt_succ_self _
      · rw [List.mem_singleton.mp h]; exact Nat.lt_succ_of_lt hlt
    · intro i v hv; exact rx.int (by simpa using hv)
    · intro h' tk t' hk'
      have e1 : preSum (fun i => ns.getD i 0) us.toArray.size = ns.sum := by
        have : us.toArray.size = ns.length := rx.len.trans (List.length_map _)
        rw [this, preSum_take ns _ (Nat.le_refl _), List.take_length]
      rw [e1]
      have S' : Sep X { c.s with heap := c.s.heap.push { cls := .type "list_iterator", data := .fields #[.ref a, .int 0 0] } } c.M m := S.keep (tk := c.s.toks) fun b o zz e => Heap.get?_push_of_some _ e
      exact k _ ⟨{ c.s with heap := h', toks := tk }, c.M⟩ ⟨.rf _, S'.keepBut S.top fun b o hb e => hk' b o (by simpa using hb) e, .int _ _⟩
private theorem Bin.inS {x : Nat} {l : List Nat} : Bin X D (compareOp .In) m (.str [x]) (.str l) (.bool (decide (x ∈ l))) := fun A c v w R S r q Q E k => by
  obtain ⟨t, rfl⟩ := r.i_str
  obtain ⟨u, rfl⟩ := q.i_str
  refine PySem.P.in_str ?_
  rw [show (⟨[x].toArray⟩ : Str) = ⟨#[x]⟩ from rfl, StrLaws.found_one]
  exact k _ _ (.now S (.bool _))
private theorem Bin.notInS {x : Nat} {l : List Nat} : Bin X D (compareOp .NotIn) m (.str [x]) (.str l) (.bool (!decide (x ∈ l))) := fun A c v w R S r q Q E k => by
  obtain ⟨t, rfl⟩ := r.i_str
  obtain ⟨u, rfl⟩ := q.i_str
  refine PySem.P.notIn_str ?_
  rw [show (⟨[x].toArray⟩ : Str) = ⟨#[x]⟩ from rfl, StrLaws.found_one]
  exact k _ _ (.now S (.bool _))
private theorem IntVals.any {kvs : List (Int × Value)} {ks : List (Int × Int)} (h : IntVals kvs ks) (k : Int) : (kvs.find? fun kv => decide (kv.1 = k)).isSome = ks.any fun kv => decide (kv.1 = k) := by
  induction h with
  | nil => rfl
  | @cons a b t r q _ ih =>
    rw [List.find?_cons, List.any_cons, ← ih]
    by_cases h : a = k
    · simp only [h, decide_true, Bool.true_or]; rfl
    · simp only [h, decide_false, Bool.false_or]
private theorem IntDict.is {o : Obj} {ks : List (Int × Int)} (h : IntDict o ks) (prog : Program) (w : World) : ∃ kvs, o.IsDictOf (intKind prog w) kvs ∧ IntVals kvs ks := by
  obtain ⟨es, ep, kvs, h⟩ := h
  exact ⟨kvs, ⟨es, ep, h.ex, h.data, h.k prog w, h.p prog w, h.nd⟩, h.v⟩
private theorem IntVals.look {kvs : List (Int × Value)} {ks : List (Int × Int)} (h : IntVals kvs ks) {k v : Int} (e : (ks.find? fun kv => decide (kv.1 = k)).map (·.2) = some v) : ∃ t, valueAt kvs k = some (.int v t) := by
  induction h with
  | nil => cases e
  | @cons k' v' t r q h ih =>
    unfold valueAt
    rw [List.find?_cons] at e ⊢
    by_cases hk : k' = k
    · simp only [hk, decide_true] at e ⊢
      cases e; exact ⟨t, rfl⟩
    · simp only [hk, decide_false] at e ⊢
      exact ih e
private theorem Bin.inD {x : Int} {ks : List (Int × Int)} (hsys : ∃ o, X.B.h sysModules = some (.pin o)) : Bin X D (compareOp .In) m (.int x) (.dct ks) (.bool (ks.any fun kv => decide (kv.1 = x))) := fun A c v w R S r q Q E k => by
  obtain ⟨t, rfl⟩ := r.i_int
  cases q.i_dct with
  | @mk a o hk hd =>
    obtain ⟨kvs, hdo, hv⟩ := hd.is X.prog X.w
    have hmod : (a == sysModules) = false := by
      refine beq_eq_false_iff_ne.mpr fun e => ?_
      obtain ⟨o', h⟩ := hsys
      have := S.x.h _ _ h
      rw [← e, hk] at this; cases this
    refine wpAny_in_of (intKind_is X.prog X.w _ _) hmod (Heap.dictOf_iff.mpr ⟨o, S.frz hk, hdo⟩).mapOf ?_
    unfold valueAt
    rw [Option.isSome_map, hv.any]
    exact k _ _ (.tok S (.bool _) _)
private theorem Sub.key {x v : Int} {ks : List (Int × Int)} (e : (ks.find? fun kv => decide (kv.1 = x)).map (·.2) = some v) : Sub X D m (.dct ks) (.int x) (.int v) := fun ev es hs A c va vb R S r q Q E k => by
  obtain ⟨t, rfl⟩ := q.i_int
  cases r.i_dct with
  | @mk a o hk hd =>
    obtain ⟨kvs, hdo, hv⟩ := hd.is X.prog X.w
    obtain ⟨t, h2⟩ := hv.look e
    have hm : c.s.heap.DictOf (intKind X.prog X.w) a kvs := Heap.dictOf_iff.mpr ⟨o, S.frz hk, hdo⟩
    exact tail_any (T := "dict") hm.typeIs slot_dict_getitem.lookup (wpAny_getItem_of (intKind_is X.prog X.w _ _) hm.mapOf h2 (k _ _ (.tok S (.int _ _) _))) (hs _ _)
private theorem Reps.repl {xs : List AV} {vs : List Value} (r : Reps M xs vs) : ∀ n : Nat, Reps M (List.replicate n xs).flatten (List.replicate n vs).flatten
  | 0 => .nil
  | n + 1 => by simp only [List.replicate_succ, List.flatten_cons]; exact r.app (r.repl n)
private theorem replFoldV (x : Array Value) : ∀ (n : Nat) (acc : Array Value), (List.replicate n x).foldl (fun a b => a ++ b) acc = acc ++ (List.replicate n x.toList).flatten.toArray
  | 0, acc => by simp
  | n + 1, acc => by
    rw [List.replicate_succ, List.foldl_cons, replFoldV x n, List.replicate_succ, List.flatten_cons]
    apply Array.ext'
    simp
private theorem mulGo {A : Around} {c : Cf} {va vb : Value} {xs : List AV} {n : Int} (S : Hp X c m) (r : Rep c.M (.lst xs) va) (q : Rep c.M (.int n) vb) (h0 : xs ≠ []) (h1 : n ≤ 2 ^ 20) (h2 : -(2 ^ 60) ≤ n) (h3 : xs.length * n.toNat ≤ 2 ^ 23) {Q E : Value → Shared → Prop} (k : ∀ us, Reps c.M (List.replicate n.toNat xs).flatten us → Q (.ref c.s.heap.objs.size) { c.s with heap := c.s.heap.push (lo us) }) :
    wpAny (model X.prog X.w) A (binaryOp .Mult va vb) Q E c.s := by
  obtain ⟨t, rfl⟩ := q.i_int
  cases r.i_lst with
  | @mk a vs j hk rx =>
    have hl := rx.len
    have hne : vs.toArray.isEmpty = false := by
      cases vs with
      | nil => exact absurd (List.eq_nil_of_length_eq_zero hl.symm) h0
      | cons _ _ => rfl
    have ho := S.frz hk
    refine wpAny_binaryOp_repeat_ref (T := "list") (U := "int") (by decide) ⟨_, ho, rfl⟩ (fun s' => typeIs_int s' n t) noFill_list_mul F.fills_int_mul F.slot_int_rmul repeat_list F.slot_int_index.lookup
      (call_meets F.slot_int_rmul (typeIs_int c.s n t) F.entry_int_rmul (F.args_int_rmul_2 _ _) (int___rmul___int_list n t a vs.toArray j)
        ⟨ho, rfl, ⟨_, ho, rfl⟩, call_meets F.slot_list_mul ⟨_, ho, rfl⟩ F.entry_list_mul (F.args_list_mul_2 _ _)
          (AutoListH.list___mul___list_int_3 a vs.toArray j n t (by simp [Builtin.List.listFitsIndex]; lia) (by simp [hl]; exact dB h3 rfl) (by simp [Builtin.List.listTooLong, sizeLine_is, hl]; exact dB h3 rfl))
          ⟨ho, ?_⟩⟩)
    rw [hne]
    simp only [Bool.false_eq_true, if_false]
    rw [replFoldV]
    have e1 : (#[] ++ (List.replicate n.toNat vs.toArray.toList).flatten.toArray : Array Value) = (List.replicate n.toNat vs).flatten.toArray := by simp
    rw [e1]
    exact k _ (rx.repl _)
private theorem Bin.mulL {xs : List AV} {n : Int} (h0 : xs ≠ []) (h1 : n ≤ 2 ^ 20) (h2 : -(2 ^ 60) ≤ n) (h3 : xs.length * n.toNat ≤ 2 ^ 23) : Bin X D (binaryOp .Mult) m (.lst xs) (.int n) (.lst (List.replicate n.toNat xs).flatten) := fun A c v w R S r q Q E k =>
  mulGo S r q h0 h1 h2 h3 fun us ru => k _ _ (Got.newLst S ru c.s.toks)
private theorem Call.index {ys : List (List Nat)} {x : List Nat} {j : Nat} (hz : ys.length ≤ 2 ^ 23) (hj : ys[j]? = some x) (hf : ∀ i y, i < j → ys[i]? = some y → y ≠ x) : Call X D (opB "list.index") m [.lst (ys.map .str), .str x] (.int j) m := .of2 fun A c v w R S r q Q E k => by
  obtain ⟨t, rfl⟩ := q.i_str
  cases r.i_lst with
  | @mk a us n hk ry =>
    have hl := ry.len
    rw [List.length_map] at hl
    have at' : ∀ i (h : i < us.length), ∃ y u, ys[i]? = some y ∧ us[i] = .str ⟨y.toArray⟩ u := fun i h => by
      obtain ⟨z, h1, rz⟩ := ry.get' (List.getElem?_eq_getElem h)
      rw [List.getElem?_map] at h1
      obtain ⟨y, h2, rfl⟩ := Option.map_eq_some_iff.mp h1
      obtain ⟨u, e⟩ := rz.i_str
      exact ⟨y, u, h2, e⟩
    have hju : j < us.length := hl ▸ (List.getElem?_eq_some_iff.mp hj).1
    let f : Value → Bool := fun v => match v with
      | .str b _ => b == ⟨x.toArray⟩
      | _ => false
    refine call_meets PySem.F.slot_list_index ⟨_, S.frz hk, rfl⟩ PySem.F.entry_list_index (PySem.F.args_list_index_2 _ _)
      (list_indexAt a us.toArray n none #[] (.str ⟨x.toArray⟩ t) f j (by simpa using hju) (by lia) ?_ (fun i hi hlt => ?_)) ⟨S.frz hk, fun y hy => ?_, k _ _ (.tok S (.int _ _) _)⟩
    · obtain ⟨y, u, h1, h2⟩ := at' j hju
      rw [hj] at h1; cases h1
      rw [List.getElem_toArray, h2]
      exact beq_self_eq_true _
    · obtain ⟨y, u, h1, h2⟩ := at' i (by simpa using hi)
      rw [List.getElem_toArray, h2]
      refine beq_eq_false_iff_ne.mpr fun e => hf i y hlt h1 ?_
      simpa using e
    · obtain ⟨i, hi, rfl⟩ := List.getElem_of_mem (show y ∈ us by simpa using hy)
      obtain ⟨y, u, h1, h2⟩ := at' i hi
      rw [h2]; exact EqAt.str_str _ _ _ _
end
end
section
open PySem PySem.W PyProof.Rows PySem.Calls PySem.SeqAt
structure Map.leW (W M N : Map) : Prop where
  h : ∀ a x, W.h a = none → M.h a = some x → N.h a = some x
  g : ∀ i x, W.g i = none → M.g i = some x → N.g i = some x
structure Pins (C W : Map) : Prop where
  p : ∀ a x, W.h a = some x → ∃ o, x = .pin o
  v : ∀ a x, C.h a = some x → W.h a = none
  g : ∀ i x, C.g i = some x → W.g i = none
private theorem Pins.l0 {C W M N : Map} (p : Pins C W) (w : W.le M) (l : Map.leW W M N) : M.le0 N := fun a x e n => by
  cases q : W.h a with
  | none => exact l.h a x q e
  | some y =>
    obtain ⟨o, rfl⟩ := p.p a y q
    have := w.h _ _ q
    rw [e] at this; cases this; exact absurd rfl (n o)
private theorem Pins.on {C W M N : Map} {own : List Addr} (p : Pins C W) (l : Map.leB own C M) (w : Map.leW W M N) : Map.leB own C N := ⟨fun a x n e => w.h a x (p.v a x e) (l.h a x n e), fun i x e => w.g i x (p.g i x e) (l.g i x e)⟩
structure NextW (M W V : Map) : Prop where
  p : ∀ a x, V.h a = some x → ∃ o, x = .pin o
  v : ∀ a x, M.h a = some x → W.h a = none → V.h a = none
  g : ∀ i x, M.g i = some x → W.g i = none → V.g i = none
private theorem NextW.pins {C M W V : Map} {own : List Addr} (n : NextW M W V) (p : Pins C W) (l : Map.leB own C M) (ho : ∀ a ∈ own, ∃ x, M.h a = some x) : Pins C V :=
  ⟨n.p, fun a x e => by
    by_cases h : a ∈ own
    · exact (ho a h).elim fun y q => n.v a y q (p.v a x e)
    · exact n.v a x (l.h a x h e) (p.v a x e), fun i x e => n.g i x (l.g i x e) (p.g i x e)⟩
structure StepW (X : Amb) (W : Map) (c d : Cf) (m : Mem) : Prop where
  l : Map.leW W c.M d.M
  h : Hp X d m
noncomputable def Feeds (X : Amb) (D : Nat) (tgt : Expr) (itv : Value) (M0 : Map) : List AV → Map → Prop
  | [], W => ∀ (A : Around) (c : Cf) (m : Mem) (Q : Option Value → Shared → Prop) (E : Value → Shared → Prop), Room A D → M0.le0 c.M → Hp X c m → W.le c.M → (∀ d, StepW X W c d m → Q none d.s) → wpAny (model X.prog X.w) A (pyNext itv) Q E c.s
  | x :: r, W => ∀ (A : Around) (c : Cf) (m : Mem) (Q : Option Value → Shared → Prop) (E : Value → Shared → Prop), Room A D → M0.le0 c.M → Hp X c m → W.le c.M →
      (∀ (v : Value) (d : Cf), (∀ (A2 : Around) (Q2 : Unit → Shared → Prop) (E2 : Value → Shared → Prop), Room A2 D → (∀ d2 W2, StepW X W c d2 m → Rep d2.M x v → W2.le d2.M → NextW c.M W W2 → Feeds X D tgt itv M0 r W2 → Q2 () d2.s) → wpAny (model X.prog X.w) A2 (letOwnedTupleGo tgt itv v) Q2 E2 d.s) → Q (some v) d.s) →
      wpAny (model X.prog X.w) A (pyNext itv) Q E c.s
structure Iter (X : Amb) (D : Nat) (tgt : Expr) (C : Map) (m : Mem) (xs : List AV) (itv : Value) (d : Cf) (W : Map) : Prop where
  l : C.le d.M
  h : Hp X d m
  w : W.le d.M
  p : Pins C W
  f : Feeds X D tgt itv d.M xs W
  self : ∀ (A : Around) (e : Cf) (m : Mem) (Q E : Value → Shared → Prop), W.le e.M → Hp X e m → Q itv e.s → wpAny (model X.prog X.w) A (pyIter itv) Q E e.s
noncomputable def PI (X : Amb) (D : Nat) (sc : Names) (tgt iter : Expr) (L : Lc) (m : Mem) (xs : List AV) (m' : Mem) : Prop :=
  ∀ (env : Env) (A : Around) (c : Cf), At X D sc env A c L m → ∀ (Q E : Value → Shared → Prop), (∀ itv d W, Iter X D tgt c.M m' xs itv d W → Q itv d.s) → wpAny (model X.prog X.w) A (eval iter env) (fun x s₁ => wpAny (model X.prog X.w) A (pyIter x) Q E s₁) E c.s
noncomputable def Asg (X : Amb) (D : Nat) (sc st : Names) (tgt : Expr) (L : Lc) (av : AV) (L' : Lc) : Prop :=
  ∀ (env : Env) (own : List Addr) (A : Around) (c : Cf) (m : Mem) (v : Value), Room A D → Stos st env own → FS X env sc own c m L → Rep c.M av v → ∀ (Q : Unit → Shared → Prop) (E : Value → Shared → Prop), (∀ d, Map.leB own c.M d.M → FS X env sc own d m L' → Q () d.s) → wpAny (model X.prog X.w) A (assign tgt env v) Q E c.s
class inductive NamesT (sc : Names) : List Expr → List Str → Prop
  | nil : NamesT sc [] []
  | cons {x : Str} {p : Pos} {es : List Expr} {xs : List Str} : okB sc x = true → NamesT sc es xs → NamesT sc (.Name x p :: es) (x :: xs)
noncomputable def binds : List Str → List AV → Lc → Lc
  | x :: xs, a :: as, L => binds xs as ((x, a) :: L)
  | _, _, L => L
section
variable {X : Amb} {D : Nat} {sc st : Names} {L L' : Lc} {m m1 m2 : Mem} {P : RP} {rest : List Stmt} {tgt : Expr} {env : Env} {own : List Addr} {A : Around} {c d : Cf}
private theorem Asg.name {x : Str} {p : Pos} {av : AV} (hx : okB st x = true) : Asg X D sc st (.Name x p) L av ((x, av) :: L) := fun env own A c m v R T F r Q E k => by
  rw [PySem.assign_Name]
  exact wpAny_bind (wpAny_standAt (wpAny_bindName (F.store (T x (nameOk hx)) r k)))
private theorem NamesT.len {es : List Expr} {xs : List Str} (h : NamesT st es xs) (env : Env) : (assignEach es env).length = xs.length ∧ (assignEach es env).findIdx? (·.1) = none := by
  induction h with
  | nil => exact ⟨rfl, rfl⟩
  | @cons x p es xs _ h ih =>
    rw [show assignEach (.Name x p :: es) env = (false, assign (.Name x p) env) :: assignEach es env from rfl]
    refine ⟨congrArg (· + 1) ih.1, ?_⟩
    rw [List.findIdx?_cons, ih.2]; rfl
private theorem FS.l0 (F : FS X env sc own c m L) (l : Map.leB own c.M d.M) : c.M.le0 d.M := fun b y e n => l.h b y (fun hb => by
  obtain ⟨o, q⟩ := (F.ow b hb).1
  rw [e] at q; cases q; exact n o rfl) e
private theorem assignNames {es : List Expr} {xs : List Str} (hn : NamesT st es xs) (R : Room A D) (T : Stos st env own) : ∀ {avs : List AV} {vs : List Value} {c : Cf} {L : Lc}, FS X env sc own c m L → Reps c.M avs vs → avs.length = xs.length →
    ∀ {Q : Unit → Shared → Prop} {E : Value → Shared → Prop}, (∀ d, Map.leB own c.M d.M → FS X env sc own d m (binds xs avs L) → Q () d.s) → wpAny (model X.prog X.w) A (assignInOrder ((assignEach es env).map (·.2)) vs) Q E c.s := by
  induction hn with
  | nil =>
    intro avs vs c L F r hl Q E k
    cases avs with
    | nil => rw [r.i_nil]; exact wpAny_pure (k c (.rf _) F)
    | cons _ _ => cases hl
  | @cons x p es xs hx hn ih =>
    intro avs vs c L F r hl Q E k
    cases avs with
    | nil => cases hl
    | cons a avs =>
      cases r.i_cons with
      | @mk v vs r1 r2 =>
        show wpAny _ A (do holding vs (assign (.Name x p) env v); assignInOrder ((assignEach es env).map (·.2)) vs) Q E c.s
        refine wpAny_bind (wpAny_holding (Asg.name hx env own A c m v R T F r1 _ _ fun d l F' => ?_))
        exact ih F' (r2.up0 (F.l0 l)) (Nat.succ.inj hl) fun d2 l2 F2 => k d2 (l.tr l2) F2
private theorem FS.new (F : FS X env sc own c m L) {h' : Heap} {tk : Nat} (hk : ∀ b o, c.s.heap.get? b = some o → h'.get? b = some o) : FS X env sc own ⟨{ c.s with heap := h', toks := tk }, c.M⟩ m L := F.keep (d := ⟨{ c.s with heap := h', toks := tk }, c.M⟩) (.rf _) (F.S.keep fun b o zz e => hk b o e)
private theorem Asg.tup {es : List Expr} {xs : List Str} {avs : List AV} {k : Nat} {p : Pos} (hn : NamesT st es xs) (hl : avs.length = xs.length) : Asg X D sc st (.Tuple es k p) L (.tup avs) (binds xs avs L) := fun env own A c m v R T F r Q E q => by
  cases r.i_tup with
  | @mk a vs n hk rs =>
    refine wpAny_assign_Tuple (items := vs.toArray) R.1 ⟨_, F.S.frz hk, rfl, n, rfl⟩ (by rw [(hn.len env).1, ← hl, ← rs.len]; exact List.size_toArray) (hn.len env).2 fun h' hx' => ?_
    have F2 := F.new (h' := h') (tk := c.s.toks) fun b o e => hx' b o (Nat.ne_of_lt (Heap.lt_size e)) e
    exact assignNames hn R T (c := ⟨{ c.s with heap := h' }, c.M⟩) F2 rs hl q
private theorem EnvOk.upB {M N : Map} (E : EnvOk env sc M L) (l0 : M.le0 N) (hL : ∀ x, M.h env.locals = some x → N.h env.locals = some x) (hc : ∀ n a, env.cells.lookup n = some a → ∀ x, M.h a = some x → N.h a = some x) : EnvOk env sc N L :=
  { E with
    cel := fun x a h => (E.cel x a h).imp fun zz q => q.imp (hc x a h _) (hc x a h _)
    var := fun x av h => (E.var x av h).imp fun zz q => ⟨q.1.up0 l0, by
      cases q.2 with
      | loc a b c d e => exact .loc a (hL _ b) c d e
      | cel a b c d => exact .cel a b (c.imp (hc _ _ b _) (hc _ _ b _)) d⟩ }
private theorem FS.keepB (F : FS X env sc own c m L) (l0 : c.M.le0 d.M) (ho : ∀ a ∈ own, ∀ x, c.M.h a = some x → d.M.h a = some x) (hc : ∀ n a, env.cells.lookup n = some a → ∀ x, c.M.h a = some x → d.M.h a = some x) (h : Hp X d m1) : FS X env sc own d m1 L :=
  have k : ∀ a ∈ own, ∀ o, c.s.heap.get? a = some o → d.s.heap.get? a = some o := fun a ha o e => (F.ow a ha).1.elim fun q e' => by rw [F.S.pin e'] at e; cases e; exact h.pin (ho a ha _ e')
  { F with
    S := h
    N := F.N.upB l0 (ho _ F.L) hc
    ow := fun a ha => ⟨(F.ow a ha).1.imp fun o e => ho a ha _ e, (F.ow a ha).2⟩
    ns := F.ns.imp fun m h => by obtain ⟨o, es, ep, e, r⟩ := h; exact ⟨o, es, ep, k _ F.L o e, r⟩
    cell := fun x a e ha => (F.cell x a e ha).imp fun v h => by obtain ⟨o, e, r⟩ := h; exact ⟨o, k a ha o e, r⟩ }
structure Has (env : Env) (own : List Addr) (C : Map) : Prop where
  o : ∀ a ∈ own, ∃ x, C.h a = some x
  c : ∀ n a, env.cells.lookup n = some a → ∃ x, C.h a = some x
private theorem FS.has (F : FS X env sc own c m L) : Has env own c.M :=
  ⟨fun a ha => (F.ow a ha).1.elim fun o q => ⟨_, q⟩, fun x a h => (F.N.cel x a h).elim fun o q => q.elim (fun q => ⟨_, q⟩) fun q => ⟨_, q⟩⟩
private theorem FS.step {C W : Map} (F : FS X env sc own c m L) (a : Has env own C) (p : Pins C W) (w : W.le c.M) (s : StepW X W c d m1) : FS X env sc own d m1 L :=
  F.keepB (p.l0 w s.l) (fun b hb x => (a.o b hb).elim fun y q => s.l.h b x (p.v b y q)) (fun n b hb x => (a.c n b hb).elim fun y q => s.l.h b x (p.v b y q)) s.h
private theorem forLoop {R : Result → Shared → Prop} {s : Shared} {target : Expr} {it : Value} {body orelse : List Stmt} {env : Env} (I : Nat → Shared → Prop)
    (turn : ∀ n s, I n s → wpAny (model X.prog X.w) A (pyNext it) (fun r s₁ => match r with
      | none => wpAny (model X.prog X.w) A (execs orelse env) (fun f s₃ => R (.ok f) s₃) (notedBy (model X.prog X.w) A env fun e s' => R (.error e) s') s₁
      | some v => wpAny (model X.prog X.w) A (letOwnedTupleGo target it v) (fun zz s₀ => wpAny (model X.prog X.w) A (assign target env v) (fun zz s₂ => wpAny (model X.prog X.w) A (execs body env) (fun f s₃ => match f with
          | .next | .cont => ∃ m, m < n ∧ I m s₃
          | .brk => R (.ok .next) s₃
          | .ret v => R (.ok (.ret v)) s₃) (notedBy (model X.prog X.w) A env fun e s' => R (.error e) s') s₂) (notedBy (model X.prog X.w) A env fun e s' => R (.error e) s') s₀) (notedBy (model X.prog X.w) A env fun e s' => R (.error e) s') s₁) (notedBy (model X.prog X.w) A env fun e s' => R (.error e) s') s)
    (n : Nat) (h : I n s) : codeAny (model X.prog X.w) A (.forLoop target it body orelse env) R s := by
  refine codeAny_loop' rfl I (fun n s hI => ?_) n h
  show wpAny _ _ ((forTurn target it body orelse env).onRaise (fun x => do noteFrame x env; theTreesLotGoes x)) _ _ s
  refine wpAny_noted ?_
  simp only [forTurn]
  refine wpAny_bind (wpAny_standAt (wpAny_bind (wpAny_onRaise (wpAny_mono (turn n s hI) (fun r s₁ h₁ => ?_) fun zz zz h' => wpAny_standAt h'))))
  cases r with
  | none => exact wpAny_pure (.inr ⟨rfl, codeAny_block h₁⟩)
  | some v =>
    refine wpAny_bind (wpAny_mono h₁ (fun zz s₀ h₀ => ?_) fun zz zz h' => h')
    refine wpAny_bind (wpAny_mono h₀ (fun zz s₂ h₂ => wpAny_bind (wpAny_mono h₂ (fun f s₃ h₃ => ?_) fun zz zz h' => h')) fun zz zz h' => h')
    cases f with
    | next => exact wpAny_pure (.inl ⟨rfl, h₃⟩)
    | cont => exact wpAny_pure (.inl ⟨rfl, h₃⟩)
    | brk => exact wpAny_pure h₃
    | ret v => exact wpAny_pure h₃
noncomputable def Loop (J : Lc → Mem → Prop) (P : RP) : RP
  | .next, L, m => J L m
  | .cont, L, m => J L m
  | .brk, L, m => P .next L m
  | .ret v, L, m => P (.ret v) L m
structure ForAt (X : Amb) (D : Nat) (sc : Names) (tgt : Expr) (env : Env) (own : List Addr) (itv : Value) (C M0 : Map) (c2 : Cf) (xs : List AV) (W : Map) (L : Lc) (m : Mem) : Prop where
  l : Map.leB own C c2.M
  l0 : M0.le0 c2.M
  F : FS X env sc own c2 m L
  w : W.le c2.M
  p : Pins C W
  f : Feeds X D tgt itv M0 xs W
inductive Turn (X : Amb) (D : Nat) (sc : Names) (tgt : Expr) (body : List Stmt) (L : Lc) (m : Mem) (x : AV) (P : RP) : Prop
  | mk {L' : Lc} : Asg X D sc sc tgt L x L' → W X D sc body L' m P → Turn X D sc tgt body L m x P
inductive Loops {α : Type} (f : α → AV) (xs : List α) (I : Nat → Lc → Mem → Prop) (F : Cf → List AV → Map → Lc → Mem → Prop) (n : Nat) (s : Shared) : Prop
  | mk {c2 k W L m} : s = c2.s → n = xs.length - k → k ≤ xs.length → I k L m → F c2 ((xs.drop k).map f) W L m → Loops f xs I F n s
private theorem W.for {α : Type} {f : α → AV} {xs : List α} {p : Pos} {iter : Expr} {body : List Stmt} (hi : PI X D sc tgt iter L m (xs.map f) m1) (I : Nat → Lc → Mem → Prop) (h0 : I 0 L m1)
    (hs : ∀ k x L m, xs[k]? = some x → I k L m → Turn X D sc tgt body L m (f x) (Loop (I (k + 1)) (Then X D sc rest P))) (he : ∀ L m, I xs.length L m → W X D sc rest L m P) (hf : ∀ env x, foldedSetIterable iter env x = pure x) : W X D sc (.For tgt iter body [] p :: rest) L m P :=
  .seq fun env own A c T Q E q => by
    refine wpAny_For (hi env A c (T.F.at' T.R) _ _ fun itv d V it => ?_) (hf env)
    have ap := T.F.has
    refine forLoop (Loops f xs I fun c2 xs W L m => ForAt X D sc tgt env own itv c.M d.M c2 xs W L m) (fun n s i => ?_) xs.length (.mk (k := 0) rfl rfl (Nat.zero_le _) h0 ⟨it.l.b own, fun zz zz e zz => e, T.F.keep it.l it.h, it.w, it.p, it.f⟩)
    cases i with
    | @mk c2 k W L m hs' hn' hk i F0 =>
      subst hs'; subst hn'
      have ff := F0.f
      rcases Nat.lt_or_ge k xs.length with hk | hk
      · rw [List.drop_eq_getElem_cons hk] at ff
        refine ff A c2 m _ _ T.R F0.l0 F0.F.S F0.w fun v d1 go => go _ _ _ T.R fun d2 W2 s2 r2 w2 p2 f2 => ?_
        have F2 := F0.F.step ap F0.p F0.w s2
        have p2 := p2.pins F0.p F0.l fun a ha => (F0.F.ow a ha).1.imp' _ fun zz q => q
        cases hs k _ L m (List.getElem?_eq_getElem hk) i with
        | @mk L' ha hb =>
          refine ha env own A d2 m v T.R T.T F2 r2 _ _ fun d3 l3 F3 => hb env own A d3 (T.on F3) _ _ fun v4 d4 fl L4 m4 g => ?_
          have l4 := l3.tr g.l
          have lc : Map.leB own c.M d4.M := (F0.p.on F0.l s2.l).tr l4
          have key : FS X env sc own d4 m4 L4 → I (k + 1) L4 m4 → ∃ m, m < xs.length - k ∧ Loops f xs I (fun c2 xs W L m => ForAt X D sc tgt env own itv c.M d.M c2 xs W L m) m d4.s := fun gF i => ⟨xs.length - (k + 1), Nat.sub_succ_lt_self _ _ hk, .mk rfl rfl hk i
            ⟨lc, fun a x e n => F2.l0 l4 a x ((F0.p.l0 F0.w s2.l) a x (F0.l0 a x e n) n) n, gF, ⟨fun a x e => l4.h a x (fun ha => (ap.o a ha).elim fun y q => by rw [p2.v a y q] at e; cases e) (w2.h a x e), fun i x e => l4.g i x (w2.g i x e)⟩, p2, f2⟩⟩
          cases g.r with
          | next => exact key g.F g.p
          | cont => exact key g.F g.p
          | brk => exact q _ d4 .next L4 m4 ⟨lc, g.F, .next, g.p⟩
          | ret r => exact q _ d4 (.ret _) L4 m4 ⟨lc, g.F, .ret r, g.p⟩
      · rw [List.drop_eq_nil_of_le hk] at ff
        have e : k = xs.length := Nat.le_antisymm ‹_› hk
        subst e
        exact ff A c2 m _ _ T.R F0.l0 F0.F.S F0.w fun d1 s1 => wpAny_execs_nil (q _ d1 .next L m ⟨F0.p.on F0.l s1.l, F0.F.step ap F0.p F0.w s1, .next, he L m i⟩)
inductive Whl (X : Amb) (D : Nat) (sc : Names) (t : Expr) (body rest : List Stmt) (I : Nat → Lc → Mem → Prop) (P : RP) (k : Nat) (L : Lc) (m : Mem) : Prop
  | go {m1 : Mem} : PT X D sc t L m true m1 → W X D sc body L m1 (Loop (fun L m => ∃ j, j < k ∧ I j L m) (Then X D sc rest P)) → Whl X D sc t body rest I P k L m
  | no {m1 : Mem} : PT X D sc t L m false m1 → W X D sc rest L m1 P → Whl X D sc t body rest I P k L m
private theorem W.while {p : Pos} {t : Expr} {body : List Stmt} (I : Nat → Lc → Mem → Prop) (n : Nat) (h0 : I n L m) (hs : ∀ k L m, I k L m → Whl X D sc t body rest I P k L m) : W X D sc (.While t body [] p :: rest) L m P :=
  .seq fun env own A c T Q E q => by
    refine wpAny_While (codeAny_whileLoop (fun k s => ∃ c2 L m, s = c2.s ∧ Map.leB own c.M c2.M ∧ FS X env sc own c2 m L ∧ I k L m) ?_ n ⟨c, L, m, rfl, .rf _, T.F, h0⟩)
    rintro k _ ⟨c2, L, m, rfl, l2, F2, i⟩
    cases hs k L m i with
    | no ht hr => exact ht.go (T.on F2) fun d l F => wpAny_execs_nil (q _ d .next _ _ ⟨l2.tr l, F, .next, hr⟩)
    | go ht hb =>
      exact ht.go (T.on F2) fun d l F => hb env own A d (T.on F) _ _ fun v d4 fl L4 m4 g => by
        have lc := (l2.tr l).tr g.l
        cases g.r with
        | next => exact g.p.elim fun j h => ⟨j, h.1, d4, L4, m4, rfl, lc, g.F, h.2⟩
        | cont => exact g.p.elim fun j h => ⟨j, h.1, d4, L4, m4, rfl, lc, g.F, h.2⟩
        | brk => exact q _ d4 .next L4 m4 ⟨lc, g.F, .next, g.p⟩
        | ret r => exact q _ d4 (.ret _) L4 m4 ⟨lc, g.F, .ret r, g.p⟩
end
end
section
open PySem PySem.W PyProof.Rows PySem.Calls PySem.SeqAt
noncomputable def one (I : Addr) (o : Obj) : Map := ⟨fun a => if a = I then some (.pin o) else none, fun zz => none⟩
private theorem one_at (I : Addr) (o : Obj) : (one I o).h I = some (.pin o) := if_pos rfl
private theorem one_ne {I a : Addr} {o : Obj} (h : (one I o).h a = none) : a ≠ I := fun e => by rw [e, one_at] at h; cases h
private theorem one_no {I a : Addr} {o : Obj} (h : a ≠ I) : (one I o).h a = none := if_neg h
private theorem one_is {I a : Addr} {o : Obj} {x : Cel} (h : (one I o).h a = some x) : a = I ∧ x = .pin o := by
  by_cases e : a = I
  · rw [e, one_at] at h; cases h; exact ⟨e, rfl⟩
  · rw [one_no e] at h; cases h
private theorem one_le {I : Addr} {o : Obj} {M : Map} (h : M.h I = some (.pin o)) : (one I o).le M := ⟨fun a x e => by obtain ⟨rfl, rfl⟩ := one_is e; exact h, fun i x (e : none = some x) => by cases e⟩
private theorem one_pins {C : Map} {I : Addr} {o : Obj} (h : C.h I = none) : Pins C (one I o) := ⟨fun a x e => ⟨o, (one_is e).2⟩, fun a x n => one_no fun e => (by rw [e, h] at n; cases n), fun zz zz zz => rfl⟩
noncomputable def Map.del (M : Map) (a : Addr) : Map := ⟨fun b => if b = a then none else M.h b, M.g⟩
private theorem Map.del_at (M : Map) (a : Addr) : (M.del a).h a = none := if_pos rfl
private theorem Map.del_ne (M : Map) {a b : Addr} (h : b ≠ a) : (M.del a).h b = M.h b := if_neg h
private theorem Map.del_is {M : Map} {a b : Addr} {x : Cel} (h : (M.del a).h b = some x) : b ≠ a ∧ M.h b = some x := by
  by_cases e : b = a
  · rw [e, Map.del_at] at h; cases h
  · exact ⟨e, Map.del_ne M e ▸ h⟩
section
variable {X : Amb} {D : Nat} {sc : Names} {L : Lc} {m m1 : Mem} {tgt iter : Expr} {s : Shared} {M : Map}
private theorem Sep.del (S : Sep X s M m) {a : Addr} {o : Obj} {h' : Heap} {tk : Nat} (ha : M.h a = some (.pin o)) (hb : X.B.h a = none) (hs : ∀ b o, b ≠ a → s.heap.get? b = some o → h'.get? b = some o) : Sep X { s with heap := h', toks := tk } (M.del a) m :=
  have l0 : M.le0 (M.del a) := fun b x e n => by
    rw [Map.del_ne _ fun q => by rw [q, ha] at e; cases e; exact n _ rfl]; exact e
  { S with
    c := fun b x e => (S.c b x (Map.del_is e).2).go l0 (fun o => hs b o (Map.del_is e).1) fun zz zz => rfl
    i := fun b d j e1 e2 => S.i b d j (Map.del_is e1).2 (Map.del_is e2).2
    x := ⟨fun b x e => by rw [Map.del_ne _ fun q => by rw [q, hb] at e; cases e]; exact S.x.h b x e, S.x.g⟩ }
private theorem Sep.btop (S : Sep X s M m) : X.B.h s.heap.objs.size = none := by
  cases q : X.B.h s.heap.objs.size with
  | none => rfl
  | some x => have := S.x.h _ _ q; rw [S.top] at this; cases this
noncomputable abbrev Owned : List String := ["enumerate", "zip", "dict_itemiterator", "dict_reverseitemiterator", "odict_iterator", "itertools.zip_longest", "itertools.pairwise"]
private theorem letOwned_no {I : Addr} {o : Obj} {T : String} {v : Value} {A : Around} {Q : Unit → Shared → Prop} {E : Value → Shared → Prop} (ho : s.heap.get? I = some o) (hc : o.cls = .type T)
    (hT : Owned.contains T = false) (h : Q () s) : wpAny (model X.prog X.w) A (letOwnedTupleGo tgt (.ref I) v) Q E s := by
  have key : wpAny (model X.prog X.w) A (match (Value.ref I, v) with
    | (.ref r, .ref a) => (do
      let o ← load r
      match o.cls, o.data with
      | .type n, .fields vs =>
        if ["enumerate", "zip", "dict_itemiterator", "dict_reverseitemiterator", "odict_iterator", "itertools.zip_longest", "itertools.pairwise"].contains n && vs[0]? == some (rawInt a) then
          rule "for.unpacks-the-owned-tuple"
          updateField r 0 .none
      | _, _ => pure ())
    | _ => pure ()) Q E s := by
    cases v with
    | ref a =>
      dsimp only
      refine wpAny_bind (wpAny_load ho ?_)
      rw [hc]
      cases o.data with
      | fields vs => simp only [hT, Bool.false_and, Bool.false_eq_true, if_false]; exact wpAny_pure h
      | _ => exact wpAny_pure h
    | _ => exact wpAny_pure h
  cases tgt with
  | Tuple es k p => exact key
  | List es p => exact key
  | _ => exact wpAny_pure h
structure WalkOk (X : Amb) (M0 : Map) (I : Addr) (fp : List Addr) (n : Nat) (Pv : Nat → Value → Prop) (St : Nat → Heap → Prop) (xs : List AV) (T : String) : Prop where
  k : ∀ A : Around, A.handled = none → Walks X.prog X.w A I fp [I] n Pv St
  i : ∀ i h, St i h → ∃ o, h.get? I = some o ∧ o.cls = .type T
  t : Owned.contains T = false
  fp : ∀ b ∈ fp, b ≠ I → ∃ o, M0.h b = some (.frz o)
  len : xs.length = n
  x : ∀ (i : Nat) v x, xs[i]? = some x → Pv i v → Rep M0 x v
  b : X.B.h I = none
private theorem feedsOf {M0 : Map} {I : Addr} {fp : List Addr} {n : Nat} {Pv : Nat → Value → Prop} {St : Nat → Heap → Prop} {xs : List AV} {T : String} (K : WalkOk X M0 I fp n Pv St xs T) :
    ∀ (r : List AV) (i : Nat) (h0 : Heap) (o : Obj), xs.drop i = r → i ≤ n → St i h0 → h0.get? I = some o → (∀ b q, M0.h b = some (.frz q) → h0.get? b = some q) → Feeds X D tgt (.ref I) M0 r (one I o) := by
  have frame : ∀ {i : Nat} {h0 : Heap} {o : Obj} {A : Around} {c : Cf} {m : Mem}, Room A D → St i h0 → h0.get? I = some o → (∀ b q, M0.h b = some (.frz q) → h0.get? b = some q) → M0.le0 c.M → Hp X c m → (one I o).le c.M → St i c.s.heap := fun R st ho hk l0 S w =>
    (K.k _ R.1).frame _ _ _ st fun b hb q e => by
      by_cases hbI : b = I
      · subst hbI; rw [ho] at e; cases e; exact S.pin (w.h _ _ (one_at _ _))
      · obtain ⟨q', e'⟩ := K.fp b hb hbI
        have := hk b q' e'; rw [this] at e; cases e
        exact S.frz (l0 _ _ e' Cel.fnp)
  intro r
  induction r with
  | nil =>
    intro i h0 o hr hi st ho hk A c m Q E R l0 S w q
    have hin : i = n := by have := List.drop_eq_nil_iff.mp hr; rw [K.len] at this; exact Nat.le_antisymm hi this
    subst hin
    have hp := w.h _ _ (one_at I o)
    exact (K.k A R.1).done c.s Q E (frame R st ho hk l0 S w) fun h' tk hk' => q ⟨{ c.s with heap := h', toks := tk }, c.M.del I⟩ ⟨⟨fun a x n e => (Map.del_ne _ (one_ne n)).trans e, fun zz zz zz e => e⟩, S.del hp K.b fun b q hb e => hk' b q (by simpa using hb) e⟩
  | cons x r ih =>
    intro i h0 o hr hi st ho hk A c m Q E R l0 S w q
    have hp := w.h _ _ (one_at I o)
    have hxi : xs[i]? = some x := by have : (xs.drop i)[0]? = some x := by rw [hr]; rfl
                                     simpa using this
    have hlt : i < n := K.len ▸ (List.getElem?_eq_some_iff.mp hxi).1
    refine (K.k A R.1).item i c.s Q E hlt (frame R st ho hk l0 S w) fun v h' tk pv st' hk' => ?_
    refine q v ⟨{ c.s with heap := h', toks := tk }, c.M⟩ fun A2 Q2 E2 zz q2 => ?_
    obtain ⟨o', ho', hc'⟩ := K.i _ _ st'
    have S' := S.put (a := I) (x := .pin o') (h' := h') (tk := tk) (mem' := m) (fun y e n => by rw [hp] at e; cases e; exact absurd rfl (n o)) (fun y e => by rw [K.b] at e; cases e) (fun b q hb e => hk' b q (by simpa using hb) e) (fun zz zz zz zz => rfl) nofun (.pin ho')
    have l1 := Map.set_le0 (.pin o') hp
    have l2 : M0.le0 (c.M.set I (.pin o')) := fun a x e n => l1 a x (l0 a x e n) n
    exact letOwned_no (o := o') ho' hc' K.t (q2 ⟨{ c.s with heap := h', toks := tk }, c.M.set I (.pin o')⟩ (one I o') ⟨⟨fun a x n e => (Map.set_ne _ _ (one_ne n)).trans e, fun zz zz zz e => e⟩, S'⟩ ((K.x i v x hxi pv).up0 l2) (one_le (Map.set_at _ _ _)) ⟨fun a x e => ⟨o', (one_is e).2⟩, fun a x zz n => one_no (one_ne n), fun zz zz zz zz => rfl⟩
      (ih (i + 1) h' o' (by rw [← List.drop_drop, hr]; rfl) hlt st' ho' fun b q e => by
        have hbI : b ≠ I := fun z => by have := l0 b _ e Cel.fnp; rw [z, hp] at this; cases this
        exact hk' b q (by simpa using hbI) (S.frz (l0 b _ e Cel.fnp))))
noncomputable def ItV (X : Amb) (D : Nat) (tgt : Expr) (m : Mem) (av : AV) (xs : List AV) : Prop := ∀ (A : Around) (c : Cf) (C : Map) (v : Value), Room A D → C.le c.M → Hp X c m → Rep c.M av v → ∀ (Q E : Value → Shared → Prop), (∀ itv d W, Iter X D tgt C m xs itv d W → Q itv d.s) → wpAny (model X.prog X.w) A (pyIter v) Q E c.s
private theorem PI.of {av : AV} {xs : List AV} (h : PE X D sc iter L m av m1) (hv : ItV X D tgt m1 av xs) : PI X D sc tgt iter L m xs m1 := fun env A c T Q E k => h env A c T _ _ fun v d g => hv A d c.M v T.R g.l g.h g.r Q E k
private theorem Iter.new {c : Cf} {C : Map} {fp : List Addr} {n : Nat} {Pv : Nat → Value → Prop} {St : Nat → Heap → Prop} {xs : List AV} {T : String} {io : Obj} {tk : Nat} (hC : C.le c.M) (S : Hp X c m) (hf : io.isFreed = false)
    (k : ∀ A : Around, A.handled = none → Walks X.prog X.w A c.s.heap.objs.size fp [c.s.heap.objs.size] n Pv St) (hi : ∀ i h, St i h → ∃ o, h.get? c.s.heap.objs.size = some o ∧ o.cls = .type T) (t : Owned.contains T = false)
    (hfp : ∀ b ∈ fp, b ≠ c.s.heap.objs.size → ∃ o, c.M.h b = some (.frz o)) (len : xs.length = n) (hx : ∀ (i : Nat) v x, xs[i]? = some x → Pv i v → Rep c.M x v) (st : St 0 (c.s.heap.push io))
    (hself : ∀ (A : Around) (s2 : Shared) (Q E : Value → Shared → Prop), s2.heap.get? c.s.heap.objs.size = some io → Q (.ref c.s.heap.objs.size) s2 → wpAny (model X.prog X.w) A (pyIter (.ref c.s.heap.objs.size)) Q E s2) :
    Iter X D tgt C m xs (.ref c.s.heap.objs.size) ⟨{ c.s with heap := c.s.heap.push io, toks := tk }, c.M.set c.s.heap.objs.size (.pin io)⟩ (one c.s.heap.objs.size io) :=
  have l := Map.le_set (.pin io) S.top
  have nt : C.h c.s.heap.objs.size = none := by
    cases e : C.h c.s.heap.objs.size with
    | none => rfl
    | some x => have := hC.h _ _ e; rw [S.top] at this; cases this
  { l := hC.tr l
    h := S.newPin io hf tk
    w := one_le (Map.set_at _ _ _)
    p := one_pins nt
    f := feedsOf { k := k, i := hi, t := t, fp := fun b hb n => (hfp b hb n).imp fun o e => l.h _ _ e, len := len, x := fun i v x h1 h2 => (hx i v x h1 h2).up l, b := S.btop } xs 0 _ io rfl (Nat.zero_le _) st (Heap.get?_push_size _ hf) fun b q e => by
          refine push_ne (S.frz ?_)
          rw [Map.set_ne _ _ fun z => by rw [z, Map.set_at] at e; cases e] at e; exact e
    self := fun A e m Q E w S2 h => hself A e.s Q E (S2.pin (w.h _ _ (one_at _ _))) h }
end
end
section
open PySem PySem.W PyProof.Rows PySem.Calls PySem.SeqAt
section
variable {X : Amb} {D : Nat} {sc : Names} {L : Lc} {m m1 : Mem} {tgt iter : Expr}
noncomputable def signs (l : List Nat) : List AV := l.map fun c => .str [c]
noncomputable def upTo (n : Nat) : List AV := (List.range n).map fun (i : Nat) => .int i
private theorem ItV.lst {xs : List AV} : ItV X D tgt m (.lst xs) xs := fun A c C v R hC S r Q E k => by
  cases r.i_lst with
  | @mk a vs n hk rs =>
    have hl : c.s.heap.IsList a vs.toArray := ⟨_, S.frz hk, rfl, n, rfl⟩
    have hne : a ≠ c.s.heap.objs.size := Nat.ne_of_lt (Heap.lt_size (S.frz hk))
    exact wpAny_pyIter_list hl (k _ _ _ (Iter.new (T := "list_iterator") (tk := c.s.toks) hC S rfl (fun A' hA => Walks.list hA _ a hne vs.toArray) (fun i h st => let ⟨o, ho, hc, _⟩ := st.1; ⟨o, ho, hc⟩) (by decide)
      (fun b hb hbn => by
        rcases List.mem_cons.mp hb with e | e
        · exact absurd e hbn
        · rw [List.mem_singleton.mp e]; exact ⟨_, hk⟩) (rs.len.symm.trans (by simp)) (fun i v x hx (pv : vs.toArray[i]? = some v) => rs.at' i x v hx (by simpa using pv)) ⟨⟨_, Heap.get?_push_size _ rfl, rfl, rfl⟩, hl.push _⟩
      (fun A2 s2 Q2 E2 he hq => wpAny_pyIter_listiter ⟨_, he, rfl, rfl⟩ hq)))
private theorem ItV.tup {xs : List AV} : ItV X D tgt m (.tup xs) xs := fun A c C v R hC S r Q E k => by
  cases r.i_tup with
  | @mk a vs n hk rs =>
    have hl : c.s.heap.IsTuple a vs.toArray := ⟨_, S.frz hk, rfl, n, rfl⟩
    have hne : a ≠ c.s.heap.objs.size := Nat.ne_of_lt (Heap.lt_size (S.frz hk))
    exact wpAny_pyIter_tuple hl (k _ _ _ (Iter.new (T := "tuple_iterator") (tk := c.s.toks) hC S rfl (fun A' hA => Walks.tuple hA _ a hne vs.toArray) (fun i h st => let ⟨o, ho, hc, _⟩ := st.1; ⟨o, ho, hc⟩) (by decide)
      (fun b hb hbn => by
        rcases List.mem_cons.mp hb with e | e
        · exact absurd e hbn
        · rw [List.mem_singleton.mp e]; exact ⟨_, hk⟩) (rs.len.symm.trans (by simp)) (fun i v x hx (pv : vs.toArray[i]? = some v) => rs.at' i x v hx (by simpa using pv)) ⟨⟨_, Heap.get?_push_size _ rfl, rfl, rfl⟩, hl.at fun o e => Heap.get?_push_of_some _ e⟩
      (fun A2 s2 Q2 E2 he hq => wpAny_pyIter_tupleiter ⟨_, he, rfl, rfl⟩ hq)))
private theorem signAt {M : Map} {l : List Nat} (i : Nat) (v : Value) (x : AV) (hx : (signs l)[i]? = some x) (h : SignAt ⟨l.toArray⟩ i v) : Rep M x v := by
  obtain ⟨c, u, hc, hv⟩ := h
  unfold signs at hx
  rw [List.getElem?_map] at hx
  obtain ⟨c', h1, h2⟩ := Option.map_eq_some_iff.mp hx
  have hc : l[i]? = some c := by simpa using hc
  rw [h1] at hc; cases hc
  rw [hv, ← h2]; exact .str [_] _
private theorem ItV.str {l : List Nat} : ItV X D tgt m (.str l) (signs l) := fun A c C v R hC S r Q E k => by
  obtain ⟨t, rfl⟩ := r.i_str
  have len : (signs l).length = (⟨l.toArray⟩ : Str).length := List.length_map _
  cases ha : (⟨l.toArray⟩ : Str).cps.all (· < 128) with
  | false =>
    exact wpAny_pyIter_wide ha (k _ _ _ (Iter.new (T := "str_iterator") (tk := c.s.toks) hC S rfl (fun A' hA => Walks.strWide hA _ _ t) (fun i h st => let ⟨o, ho, hc, _⟩ := st; ⟨o, ho, hc⟩) (by decide) (fun b hb hbn => absurd (List.mem_singleton.mp hb) hbn) len signAt ⟨_, Heap.get?_push_size _ rfl, rfl, rfl⟩
      (fun A2 s2 Q2 E2 he hq => wpAny_pyIter_striter_wide ⟨_, he, rfl, rfl⟩ hq)))
  | true =>
    exact wpAny_pyIter_ascii ha (k _ _ _ (Iter.new (T := "str_ascii_iterator") (tk := c.s.toks) hC S rfl (fun A' hA => Walks.strAscii hA _ _ t) (fun i h st => let ⟨o, ho, hc, _⟩ := st; ⟨o, ho, hc⟩) (by decide) (fun b hb hbn => absurd (List.mem_singleton.mp hb) hbn) len signAt ⟨_, Heap.get?_push_size _ rfl, rfl, rfl⟩
      (fun A2 s2 Q2 E2 he hq => wpAny_pyIter_striter_ascii ⟨_, he, rfl, rfl⟩ hq)))
private theorem ItV.rng {n : Nat} (hn : n ≤ 2 ^ 40) : ItV X D tgt m (.rng 0 n) (upTo n) := fun A c C v R hC S r Q E k => by
  cases r.i_rng with
  | @mk a t u w hk =>
    have hsz : Builtin.Range.rangeSize 0 n 1 = (n : Int) := by rw [rangeSize_one]; split <;> lia
    refine wpAny_pyIter_range (S.frz hk) (small_one (by decide) (by decide) (Int.natCast_nonneg _) (by lia)) ?_
    rw [hsz]
    refine k _ _ _ (Iter.new (T := "range_iterator") (tk := c.s.toks) hC S rfl (fun A' hA => Walks.range hA _ 0 1 n) (fun i h st => ⟨_, st, rfl⟩) (by decide) (fun b hb hbn => absurd (List.mem_singleton.mp hb) hbn) (by unfold upTo; simp) (fun i v x hx pv => ?_) ?_ (fun A2 s2 Q2 E2 he hq => wpAny_pyIter_rangeiter he hq))
    · obtain ⟨t, rfl⟩ := pv
      unfold upTo at hx
      rw [List.getElem?_map] at hx
      obtain ⟨j, hj, rfl⟩ := Option.map_eq_some_iff.mp hx
      obtain ⟨hj1, hj2⟩ := List.getElem?_eq_some_iff.mp hj
      rw [List.getElem_range] at hj2
      subst hj2
      simpa using Rep.int _ _
    · simpa using Heap.get?_push_size c.s.heap rfl
private theorem IntVals.fst {kvs : List (Int × Value)} {ks : List (Int × Int)} (h : IntVals kvs ks) : kvs.map (·.1) = ks.map (·.1) := by
  induction h with
  | nil => rfl
  | cons _ ih => rw [List.map_cons, List.map_cons, ih]
private theorem ItV.dct {ks : List (Int × Int)} (hsys : ∃ o, X.B.h sysModules = some (.pin o)) : ItV X D tgt m (.dct ks) (ks.map fun k => .int k.1) := fun A c C v R hC S r Q E k => by
  cases r.i_dct with
  | @mk a o hk hd =>
    obtain ⟨kvs, ⟨es, ep, hc, hdat, hks, hps, hn⟩, hv⟩ := hd.is X.prog X.w
    have hm : c.s.heap.DictAt (intKind X.prog X.w) a kvs ep := ⟨o, es, S.frz hk, hc, hdat, hks, hps, hn⟩
    have hne : a ≠ c.s.heap.objs.size := Nat.ne_of_lt (Heap.lt_size (S.frz hk))
    have hmod : (a == sysModules) = false := by
      refine beq_eq_false_iff_ne.mpr fun e => ?_
      obtain ⟨o', h⟩ := hsys
      have := S.x.h _ _ h
      rw [← e, hk] at this; cases this
    refine wpAny_pyIter_dict hmod hm (k _ _ _ (Iter.new (T := "dict_keyiterator") (tk := c.s.toks) hC S rfl (fun A' hA => Walks.dictKeys hA _ a hne kvs ep) (fun i h st => let ⟨o, ho, hc, _⟩ := st.1; ⟨o, ho, hc⟩) (by decide)
      (fun b hb hbn => by
        rcases List.mem_cons.mp hb with e | e
        · exact absurd e hbn
        · rw [List.mem_singleton.mp e]; exact ⟨_, hk⟩) (by have := congrArg List.length hv.fst; simpa using this.symm) (fun i v x hx pv => ?_) ⟨⟨_, Heap.get?_push_size _ rfl, rfl, rfl⟩, hm.push _⟩ (fun A2 s2 Q2 E2 he hq => wpAny_pyIter_keyiter ⟨_, he, rfl, rfl⟩ hq)))
    obtain ⟨k, y, h1, h2⟩ := pv
    obtain ⟨t, rfl⟩ := Value.isInt_shape h2
    rw [List.getElem?_map] at hx
    obtain ⟨⟨k', z⟩, h3, rfl⟩ := Option.map_eq_some_iff.mp hx
    have e := congrArg (·[i]?) hv.fst
    simp only [List.getElem?_map, h1, h3, Option.map_some] at e
    cases e
    exact .int _ _
private theorem PI.reversed {e : Expr} {p pos : Pos} {xs : List AV} (hg : Glo X.B "reversed" (.type "reversed")) (hes : PA X D sc [e] L m [.lst xs] m1) (hx : sc.lookup ("reversed" : Str) = some .globalImplicit) : PI X D sc tgt (.Call (.Name "reversed" p) [e] [] pos) L m xs.reverse m1 := fun env A c T Q E k => by
  refine evalCallT T hx hg hes fun vs d g => ?_
  cases g.r.i_cons with
  | @mk v vs r1 r2 =>
    cases r2.i_nil
    cases r1.i_lst with
    | @mk a us n hk rs =>
      have hl : d.s.heap.IsList a us.toArray := ⟨_, g.h.frz hk, rfl, n, rfl⟩
      have hne : a ≠ d.s.heap.objs.size := Nat.ne_of_lt (Heap.lt_size (g.h.frz hk))
      have hlen := rs.len
      refine call_reversed_list hl (wpAny_pyIter_revIter (i := ((us.toArray.size : Int) - 1)) (l := a) ⟨_, Heap.get?_push_size _ rfl, rfl, rfl⟩ ?_)
      refine k _ _ _ (Iter.new (tk := d.s.toks) (io := revObj a ((us.toArray.size : Int) - 1)) (T := "list_reverseiterator") g.l g.h rfl (fun A' hA => Walks.listRev hA _ a hne us.toArray) (fun i h st => let ⟨o, ho, hc, _⟩ := st.2.1; ⟨o, ho, hc⟩) (by decide) (fun b hb hbn => ?_) (by simp [hlen]) (fun i v x hx pv => ?_) ⟨Nat.zero_le _, ⟨_, Heap.get?_push_size _ rfl, rfl, by simp [revObj]⟩, hl.push _⟩ (fun A2 s2 Q2 E2 he hq => wpAny_pyIter_revIter ⟨_, he, rfl, rfl⟩ hq))
      · rcases List.mem_cons.mp hb with e | e
        · exact absurd e hbn
        · rw [List.mem_singleton.mp e]; exact ⟨_, hk⟩
      · have hi := (List.getElem?_eq_some_iff.mp hx).1
        rw [List.length_reverse] at hi
        rw [List.getElem?_reverse hi] at hx
        obtain ⟨v', h1, h2⟩ := rs.get hx
        have pv : us.toArray[us.toArray.size - 1 - i]? = some v := pv
        simp only [List.getElem?_toArray, List.size_toArray, hlen] at pv
        rw [h1] at pv; cases pv; exact h2
end
end
section
open PySem PySem.W PyProof.Rows PySem.Calls PySem.SeqAt
noncomputable def relK (sc : Names) (p : Str × NameKind) : NameKind := if (p.2 == NameKind.free && sc.lookup p.1 == some .cell) then .cell else p.2
noncomputable def relN (sc names : Names) : Names := names.map fun p => (p.1, relK sc p)
private theorem relN_eq {env : Env} (scope : Scope) (hk : env.scope.kind = .function) : (relabel scope env).names = relN env.scope.names scope.names := by
  have h : (env.scope.kind == ScopeKind.function) = true := by rw [hk]; rfl
  simp only [relabel, relN, relK, Env.kindOf, h, Bool.and_true]
  refine List.map_congr_left fun p zz => ?_
  split <;> rfl
private theorem relN_lookup (sc : Names) (x : Str) : ∀ names : Names, (relN sc names).lookup x = (names.lookup x).map fun k => relK sc (x, k)
  | [] => rfl
  | (n, k) :: r => by
    show List.lookup x ((n, relK sc (n, k)) :: relN sc r) = _
    rw [List.lookup_cons, List.lookup_cons]
    cases hx : x == n with
    | true => rw [beq_iff_eq.mp hx]; rfl
    | false => exact relN_lookup sc x r
private theorem NmR.rel {a b : Names} (h : NmR a b) (names : Names) : NmR (relN a names) (relN b names) := fun x => by
  rw [relN_lookup, relN_lookup]
  cases names.lookup x with
  | none => exact .inl rfl
  | some k =>
    show some (relK a (x, k)) = some (relK b (x, k)) ∨ (some (relK a (x, k)) = _ ∧ some (relK b (x, k)) = _)
    unfold relK
    rcases h x with e | ⟨e1, e2⟩
    · left; dsimp only; rw [e]
    · dsimp only; rw [e1, e2]; cases k <;> first | exact .inl rfl | exact .inr ⟨rfl, rfl⟩
noncomputable def frC (cells : List (Str × Addr)) (p : Str × NameKind) : Option (Str × Addr) := if p.2 == NameKind.free then (cells.lookup p.1).map fun c => (p.1, c) else none
noncomputable def closL (cells : List (Str × Addr)) (names : Names) (acc : List (Str × Addr)) : List (Str × Addr) := (names.filterMap (frC cells)).reverse ++ acc
private theorem closureFor_eq {env : Env} {scope : Scope} (h : ∀ x, (x, NameKind.free) ∈ scope.names → ∃ c, env.cells.lookup x = some c) : closureFor scope env = pure (closL env.cells scope.names []) := by
  have key : ∀ (f : Str × NameKind → List (Str × Addr) → Sem (ForInStep (List (Str × Addr)))), (∀ n k acc, f (n, k) acc = if k == NameKind.free then (do let c ← cellOf env n; pure (.yield ((n, c) :: acc))) else pure (.yield acc)) →
      ∀ (names : Names) (acc : List (Str × Addr)), (∀ x, (x, NameKind.free) ∈ names → ∃ c, env.cells.lookup x = some c) → (forIn names acc f : Sem _) = pure (closL env.cells names acc) := by
    intro f hf names
    induction names with
    | nil => intro acc _; rfl
    | cons p r ih =>
      obtain ⟨n, k⟩ := p
      intro acc hr
      rw [List.forIn_cons, hf]
      cases hk : k == NameKind.free with
      | true =>
        obtain ⟨c, hc⟩ := hr n (beq_iff_eq.mp hk ▸ List.mem_cons_self)
        have e : closL env.cells ((n, k) :: r) acc = closL env.cells r ((n, c) :: acc) := by
          unfold closL
          rw [List.filterMap_cons, show frC env.cells (n, k) = some (n, c) by unfold frC; rw [if_pos hk, hc]; rfl, List.reverse_cons, List.append_assoc]; rfl
        rw [e, if_pos rfl]
        simp only [cellOf, hc, pure_bind]
        exact ih _ fun x hx => hr x (List.mem_cons_of_mem _ hx)
      | false =>
        have e : closL env.cells ((n, k) :: r) acc = closL env.cells r acc := by
          unfold closL
          rw [List.filterMap_cons, show frC env.cells (n, k) = none by unfold frC; rw [hk]; rfl]
        rw [e, if_neg Bool.false_ne_true, pure_bind]
        exact ih _ fun x hx => hr x (List.mem_cons_of_mem _ hx)
  unfold closureFor
  refine (congrArg (· >>= fun cs => pure cs) (key _ (fun n k acc => ?_) scope.names [] h)).trans (by simp)
  rfl
private theorem mem_closL {cells : List (Str × Addr)} {x : Str} {c : Addr} {names : Names} (h : (x, c) ∈ closL cells names []) : (x, NameKind.free) ∈ names ∧ cells.lookup x = some c := by
  unfold closL at h
  rw [List.append_nil, List.mem_reverse] at h
  obtain ⟨⟨n, k⟩, h1, h2⟩ := List.mem_filterMap.mp h
  unfold frC at h2
  split at h2
  · obtain ⟨d, h3, h4⟩ := Option.map_eq_some_iff.mp h2
    cases h4
    exact ⟨(beq_iff_eq.mp ‹_› : k = .free) ▸ h1, h3⟩
  · cases h2
private theorem closL_mem {cells : List (Str × Addr)} {x : Str} {c : Addr} {names : Names} (h : (x, NameKind.free) ∈ names) (hc : cells.lookup x = some c) : (x, c) ∈ closL cells names [] := by
  unfold closL
  rw [List.append_nil, List.mem_reverse]
  exact List.mem_filterMap.mpr ⟨_, h, by show (cells.lookup x).map _ = _; rw [hc]; rfl⟩
private theorem cellsFrom_sub' {x : Str} {c : Addr} : ∀ {names : Names} {n : Nat}, (x, c) ∈ cellsFrom n names [] → (x, NameKind.cell) ∈ names
  | (y, k) :: r, n, h => by
    unfold cellsFrom at h
    split at h
    · rename_i hk
      rw [cellsFrom_app] at h
      rcases List.mem_append.mp h with h | h
      · exact List.mem_cons_of_mem _ (cellsFrom_sub' h)
      · cases List.mem_singleton.mp h; exact (beq_iff_eq.mp hk : k = .cell) ▸ List.mem_cons_self
    · exact List.mem_cons_of_mem _ (cellsFrom_sub' h)
section
variable {names : Names} {cells : List (Str × Addr)} {n : Nat} {x : Str} {c : Addr}
private theorem comp_cells_mem (h : (x, c) ∈ cellsFrom n names (closL cells names [])) : (x, c) ∈ cellsFrom n names [] ∨ ((x, NameKind.free) ∈ names ∧ cells.lookup x = some c) := by
  rw [cellsFrom_app] at h
  exact (List.mem_append.mp h).imp id mem_closL
private theorem lookup_app {α : Type} {x : Str} {v : α} : ∀ {l r : List (Str × α)}, x ∉ l.map (·.1) → r.lookup x = some v → (l ++ r).lookup x = some v
  | [], _, _, h => h
  | (y, d) :: l, r, hn, h => by
    rw [List.map_cons, List.mem_cons, not_or] at hn
    rw [List.cons_append, List.lookup_cons, show (x == y) = false from beq_eq_false_iff_ne.mpr hn.1]
    exact lookup_app hn.2 h
private theorem lookup_front {α : Type} {x : Str} {v : α} : ∀ {l r : List (Str × α)}, l.lookup x = some v → (l ++ r).lookup x = some v
  | (y, d) :: l, r, h => by
    rw [List.lookup_cons] at h
    rw [List.cons_append, List.lookup_cons]
    cases e : x == y with
    | true => rw [e] at h; exact h
    | false => rw [e] at h; exact lookup_front h
private theorem kind_one (hn : (names.map (·.1)).Nodup) {k k' : NameKind} (h : (x, k) ∈ names) (h' : (x, k') ∈ names) : k = k' := Option.some.inj ((lookup_mem hn h).symm.trans (lookup_mem hn h'))
private theorem lookup_first {α : Type} {x : Str} {v : α} : ∀ {l : List (Str × α)}, (x, v) ∈ l → (∀ d, (x, d) ∈ l → d = v) → l.lookup x = some v
  | (y, d) :: r, h, h' => by
    rw [List.lookup_cons]
    cases e : x == y with
    | true => exact congrArg some (h' d (beq_iff_eq.mp e ▸ List.mem_cons_self))
    | false =>
      refine lookup_first ?_ fun d' hd => h' d' (List.mem_cons_of_mem _ hd)
      rcases List.mem_cons.mp h with h | h
      · cases h; rw [beq_self_eq_true] at e; cases e
      · exact h
private theorem comp_cells_free (hn : (names.map (·.1)).Nodup) (h : (x, NameKind.free) ∈ names) (hc : cells.lookup x = some c) : (cellsFrom n names (closL cells names [])).lookup x = some c := by
  rw [cellsFrom_app]
  refine lookup_app (fun q => ?_) (lookup_first (closL_mem h hc) fun d hd => Option.some.inj ((mem_closL hd).2.symm.trans hc))
  obtain ⟨⟨y, d⟩, h1, rfl⟩ := List.mem_map.mp q
  cases kind_one hn h (cellsFrom_sub' h1)
private theorem comp_cells_cell (hn : (names.map (·.1)).Nodup) (h : (x, NameKind.cell) ∈ names) : ∃ c, (cellsFrom n names (closL cells names [])).lookup x = some c ∧ (x, c) ∈ cellsFrom n names [] :=
  (mem_cellsFrom h).imp fun c q => ⟨by rw [cellsFrom_app]; exact lookup_front (lookup_mem (cellsFrom_nd hn) q), q⟩
end
private theorem newCompEnv {M : Model} {A : Around} {E : Value → Shared → Prop} {s : Shared} {scope : Scope} {env : Env} {cl : List (Str × Addr)} {g : Addr} {qual : Str} {Q : Env → Shared → Prop}
    (h : Q { scope := scope, locals := s.heap.objs.size, globals := g, cells := cellsFrom (s.heap.objs.size + 1) scope.names cl, qual := qual, func := none, code := env.code, frame := env.frame, builtins := env.builtins }
      { s with heap := pushCells (s.heap.push { cls := .type "dict", data := .dict #[] }) scope.names }) :
    wpAny M A (newFunctionEnv scope g cl [] qual none .none (some env)) Q E s := by
  simp only [newFunctionEnv, Option.isSome_some, if_true]
  refine wpAny_bind (wpAny_alloc ?_)
  refine wpAny_bind (wpAny_layCells _ (fun name kind cells => by cases hkc : kind == NameKind.cell <;> simp [hkc]) _ _ _ _ ?_)
  rw [show ({ s with heap := s.heap.push { cls := .type "dict", data := .dict #[] } } : Shared).heap.objs.size = s.heap.objs.size + 1 from Heap.size_push ..]
  simp only [List.forIn_nil]
  exact wpAny_bind (wpAny_pure (wpAny_pure h))
structure CompOk (sc names : Names) : Prop where
  nd : (names.map (·.1)).Nodup
  fr : ∀ x, (x, NameKind.free) ∈ names → sc.lookup x = some .cell ∨ sc.lookup x = some .free
  dbg : names.lookup ("__debug__" : Str) = none
  cld : names.lookup ("__classdict__" : Str) = none
noncomputable def compOkB (sc names : Names) : Bool := decide (names.map (·.1)).Nodup && names.all (fun p => p.2 != .free || sc.lookup p.1 == some .cell || sc.lookup p.1 == some .free) && (names.lookup ("__debug__" : Str)).isNone && (names.lookup ("__classdict__" : Str)).isNone
private theorem compOk {sc names : Names} (h : compOkB sc names = true) : CompOk sc names := by
  unfold compOkB at h
  simp only [Bool.and_eq_true, Option.isNone_iff_eq_none, decide_eq_true_eq] at h
  refine ⟨h.1.1.1, fun x hx => ?_, h.1.2, h.2⟩
  have := List.all_eq_true.mp h.1.1.2 _ hx
  simpa using this
noncomputable def seen (names : Names) (L : Lc) : Lc := L.filter fun p => names.lookup p.1 == some .free
noncomputable def seenOk (names : Names) (L : Lc) : Bool := names.all fun p => p.2 != .free || (L.lookup p.1).isSome
private theorem seen_lookup {names : Names} {x : Str} {v : AV} : ∀ {L : Lc}, (seen names L).lookup x = some v → L.lookup x = some v ∧ names.lookup x = some .free
  | (y, w) :: L, h => by
    unfold seen at h
    rw [List.lookup_cons]
    rw [List.filter_cons] at h
    cases e : names.lookup y == some .free with
    | true =>
      rw [if_pos e, List.lookup_cons] at h
      cases q : x == y with
      | true => rw [q] at h; exact ⟨h, beq_iff_eq.mp q ▸ beq_iff_eq.mp e⟩
      | false => rw [q] at h; exact seen_lookup h
    | false =>
      rw [if_neg (by rw [e]; exact Bool.false_ne_true)] at h
      have := seen_lookup h
      cases q : x == y with
      | true => have e' := this.2; rw [beq_iff_eq.mp q] at e'; rw [e'] at e; cases e
      | false => exact this
noncomputable def compEnv (scope : Scope) (env : Env) (C : Addr) : Env := { scope := relabel scope env, locals := C, globals := env.globals, cells := cellsFrom (C + 1) scope.names (closL env.cells scope.names []), qual := env.qual, func := none, code := env.code, frame := env.frame, builtins := env.builtins }
noncomputable def compOwn (scope : Scope) (C : Addr) : List Addr := C :: (cellsFrom (C + 1) scope.names []).map (·.2)
noncomputable def compHeap (scope : Scope) (h : Heap) : Heap := pushCells (h.push { cls := .type "dict", data := .dict #[] }) scope.names
private theorem compHeap_keeps {scope : Scope} {h : Heap} {b : Addr} {o : Obj} (e : h.get? b = some o) : (compHeap scope h).get? b = some o := pushCells_keeps _ _ b o (Heap.get?_push_of_some _ e)
section
variable {X : Amb} {D : Nat} {sc : Names} {env : Env} {m : Mem} {L : Lc} {scope : Scope} {c : Cf}
private theorem seen_cells {M : Map} (ok : CompOk sc scope.names) (N : EnvOk env sc M L) (hf : seenOk scope.names L = true) {x : Str} (hx : (x, NameKind.free) ∈ scope.names) : ∃ c, env.cells.lookup x = some c := by
  obtain ⟨v, hv⟩ := Option.isSome_iff_exists.mp (show (L.lookup x).isSome = true from List.all_eq_true.mp hf _ hx)
  obtain ⟨u, _, z⟩ := N.var x v hv
  cases z with
  | loc k => have k := N.names.back k nofun; rcases ok.fr x hx with h | h <;> rw [h] at k <;> cases k
  | cel _ h => exact ⟨_, h⟩
private theorem compKind {M : Map} (N : EnvOk env sc M L) (C : Addr) (x : Str) : (compEnv scope env C).kindOf x = (scope.names.lookup x).map fun k => relK env.scope.names (x, k) := by
  unfold Env.kindOf compEnv; dsimp only
  rw [relN_eq scope N.kind, relN_lookup]
private theorem compEnter (ok : CompOk sc scope.names) (N : EnvOk env sc c.M L) (S : Hp X c m) (hk : scope.kind = .function) : ∀ own, compOwn scope c.s.heap.objs.size = own →
    (∀ a ∈ own, c.s.heap.objs.size ≤ a ∧ c.M.h a = none) ∧ FS X (compEnv scope env c.s.heap.objs.size) (relN sc scope.names) own ⟨{ c.s with heap := compHeap scope c.s.heap }, c.M.pins (compHeap scope c.s.heap) own⟩ m (seen scope.names L) := by
  rintro own rfl
  have hC : (compHeap scope c.s.heap).get? c.s.heap.objs.size = some { cls := .type "dict", data := .dict #[] } := pushCells_keeps _ _ _ _ (Heap.get?_push_size _ rfl)
  have okc := cellsFrom_ok scope.names (c.s.heap.push { cls := .type "dict", data := .dict #[] }) (c.s.heap.objs.size + 1) [] ⟨fun zz zz hm => (nomatch hm), List.Pairwise.nil⟩ (by rw [Heap.size_push]; exact Nat.le_refl _)
  rw [Heap.size_push] at okc
  have inown : ∀ n b, (n, b) ∈ cellsFrom (c.s.heap.objs.size + 1) scope.names [] → b ∈ compOwn scope c.s.heap.objs.size := fun n b h => List.mem_cons_of_mem _ (List.mem_map_of_mem (f := (·.2)) h)
  have ownd : ∀ a ∈ compOwn scope c.s.heap.objs.size, (c.s.heap.objs.size ≤ a ∧ c.M.h a = none) ∧ ∃ o, (compHeap scope c.s.heap).get? a = some o := fun a ha => by
    have fr (hl : c.s.heap.objs.size ≤ a) : c.M.h a = none := S.fresh (by
      cases e : c.s.heap.get? a with
      | none => rfl
      | some o => exact absurd (Heap.lt_size e) (Nat.not_lt.mpr hl))
    rcases List.mem_cons.mp ha with h | h
    · subst h; exact ⟨⟨Nat.le_refl _, fr (Nat.le_refl _)⟩, _, hC⟩
    · obtain ⟨⟨n, b⟩, h1, h2⟩ := List.mem_map.mp h
      subst h2
      obtain ⟨⟨o, h3, _⟩, h4⟩ := okc.empty n b h1
      exact ⟨⟨Nat.le_of_lt h4, fr (Nat.le_of_lt h4)⟩, o, h3⟩
  have S1 : Sep X { c.s with heap := compHeap scope c.s.heap } c.M m := S.keep (tk := c.s.toks) fun b o zz e => compHeap_keeps e
  have le := Map.le_pins (M := c.M) (own := compOwn scope c.s.heap.objs.size) (h := compHeap scope c.s.heap) fun a ha => (ownd a ha).1.2
  have pin : ∀ a ∈ compOwn scope c.s.heap.objs.size, ∃ o, (c.M.pins (compHeap scope c.s.heap) (compOwn scope c.s.heap.objs.size)).h a = some (.pin o) := fun a ha => (ownd a ha).2.imp fun o e => Map.pins_in ha e
  have old : ∀ a x, c.M.h a = some x → a ∉ compOwn scope c.s.heap.objs.size := fun a x e ha => by rw [(ownd a ha).1.2] at e; cases e
  have mem : ∀ x b, (compEnv scope env c.s.heap.objs.size).cells.lookup x = some b → (x, b) ∈ cellsFrom (c.s.heap.objs.size + 1) scope.names [] ∨ ((x, NameKind.free) ∈ scope.names ∧ env.cells.lookup x = some b) := fun x b h => comp_cells_mem (mem_of_lookup h)
  have mine : ∀ x b, (compEnv scope env c.s.heap.objs.size).cells.lookup x = some b → b ∈ compOwn scope c.s.heap.objs.size → (x, b) ∈ cellsFrom (c.s.heap.objs.size + 1) scope.names [] := fun x b h hb => (mem x b h).elim id fun q => (N.cel x b q.2).elim fun o e => e.elim (fun e => absurd hb (old b _ e)) fun e => absurd hb (old b _ e)
  exact ⟨fun a ha => (ownd a ha).1, {
    S := S1.pins fun a ha => (ownd a ha).1.2
    N := {
      names := relN_eq scope N.kind ▸ N.names.rel scope.names
      kind := hk
      gl := N.gl
      bu := N.bu
      dbg := by rw [relN_lookup, ok.dbg]; rfl
      cld := by rw [relN_lookup, ok.cld]; rfl
      cel := fun x b h => (mem x b h).elim (fun h => (pin b (inown x b h)).imp fun o e => .inr e) fun h => (N.cel x b h.2).imp fun o e => e.up le
      var := fun x av h => by
        obtain ⟨h, hf⟩ := seen_lookup h
        have hm := mem_of_lookup hf
        obtain ⟨v, r, z⟩ := N.var x av h
        refine ⟨v, r.up le, ?_⟩
        cases z with
        | loc k => have k := N.names.back k nofun; rcases ok.fr x hm with h | h <;> rw [h] at k <;> cases k
        | cel k h1 h2 h3 =>
          refine .cel ?_ (comp_cells_free ok.nd hm h1) (h2.up le) h3
          rw [compKind N, hf]
          show some (relK env.scope.names (x, .free)) = _ ∨ some (relK env.scope.names (x, .free)) = _
          unfold relK
          split
          · exact .inl rfl
          · exact .inr rfl }
    ow := fun a ha => ⟨pin a ha, by
      cases e : X.B.h a with
      | none => rfl
      | some y => exact absurd ha (old a y (S.x.h _ _ e))⟩
    ns := ⟨_, _, #[], 0, hC, rfl, fun e he => by simp at he, fun zz => rfl⟩
    L := List.mem_cons_self
    cell := fun x b h hb => ⟨_, (okc.empty x b (mine x b h hb)).1⟩
    cL := fun x b h hb => Nat.ne_of_gt (okc.empty x b (mine x b h hb)).2
    inj := fun x y b hx hy hb => name_of_addr okc.apart (mine x b hx hb) (mine y b hy hb) }⟩
private theorem compStos {M : Map} (ok : CompOk sc scope.names) (N : EnvOk env sc M L) (C : Addr) : Stos scope.names (compEnv scope env C) (compOwn scope C) := fun x h => by
  have hk := compKind (scope := scope) N C x
  rcases h with h | h
  · exact .inl (by rw [hk, h]; rfl)
  · obtain ⟨b, h1, h2⟩ := comp_cells_cell (n := C + 1) (cells := env.cells) ok.nd (mem_of_lookup h)
    exact .inr ⟨by rw [hk, h]; rfl, b, h1, List.mem_cons_of_mem _ (List.mem_map_of_mem (f := (·.2)) h2)⟩
end
end
section
open PySem PySem.W PyProof.Rows PySem.Calls PySem.SeqAt
noncomputable def PTs (X : Amb) (D : Nat) (sc : Names) (ifs : List Expr) (L : Lc) (m : Mem) (b : Bool) (m' : Mem) : Prop :=
  ∀ (env : Env) (A : Around) (c : Cf), At X D sc env A c L m → ∀ Q E, (∀ d, Gt X c m' d → Q b d.s) → wpAny (model X.prog X.w) A (forIn ifs true fun c r => if r = true then do let ok ← isTrue c env (eval c env); pure (ForInStep.yield ok) else pure (ForInStep.yield r)) Q E c.s
structure AsgC (X : Amb) (D : Nat) (sc names : Names) (tgt : Expr) (L : Lc) (av : AV) (L' : Lc) : Prop where
  a : Asg X D sc names tgt L av L'
  s : ∀ x v, L.lookup x = some v → L'.lookup x = some v
structure AccAt {β : Type} (AccO : β → Map → Obj → Prop) (b : β) (M : Map) (a : Addr) (o : Obj) : Prop where
  h : M.h a = some (.pin o)
  a : AccO b M o
noncomputable def Mono {β : Type} (AccO : β → Map → Obj → Prop) : Prop := ∀ b M N o, AccO b M o → M.le0 N → AccO b N o
structure Own1 (X : Amb) (env : Env) (own : List Addr) (a : Addr) : Prop where
  no : a ∉ own
  ce : ∀ x, env.cells.lookup x ≠ some a
  b : X.B.h a = none
noncomputable def Emit {β : Type} (X : Amb) (D : Nat) (sc : Names) (AccO : β → Map → Obj → Prop) (emit : Addr → Env → Sem Unit) (L : Lc) (m : Mem) (b b' : β) (m' : Mem) : Prop :=
  ∀ (env : Env) (own : List Addr) (A : Around) (c : Cf) (a : Addr) (o : Obj), Room A D → FS X env sc own c m L → Own1 X env own a → AccAt AccO b c.M a o →
    ∀ (Q : Unit → Shared → Prop) (E : Value → Shared → Prop), (∀ d o', Map.leB [a] c.M d.M → FS X env sc own d m' L → AccAt AccO b' d.M a o' → Q () d.s) → wpAny (model X.prog X.w) A (emit a env) Q E c.s
class inductive CL {β : Type} (X : Amb) (D : Nat) (sc names : Names) (tgt : Expr) (ifs : List Expr) (L : Lc) (AccO : β → Map → Obj → Prop) (emit : Addr → Env → Sem Unit) : List AV → β → Mem → β → Mem → Prop
  | nil {b m} : CL X D sc names tgt ifs L AccO emit [] b m b m
  | turn {x r b m L' q m2 b' m3 bF mF} : AsgC X D sc names tgt L x L' → PTs X D sc ifs L' m q m2 → Emit X D sc AccO (fun a env => if q = true then emit a env else pure ()) L' m2 b b' m3 → CL X D sc names tgt ifs L AccO emit r b' m3 bF mF → CL X D sc names tgt ifs L AccO emit (x :: r) b m bF mF
noncomputable def Map.sub (M W : Map) : Map := ⟨fun a => (W.h a).elim (M.h a) fun zz => none, fun i => (W.g i).elim (M.g i) fun zz => none⟩
private theorem Map.sub_h {M W : Map} {a : Addr} (h : W.h a = none) : (M.sub W).h a = M.h a := congrArg (fun o => Option.elim o (M.h a) fun zz => none) h
private theorem Map.sub_g {M W : Map} {i : Nat} (h : W.g i = none) : (M.sub W).g i = M.g i := congrArg (fun o => Option.elim o (M.g i) fun zz => none) h
private theorem Map.sub_W {M W : Map} {a : Addr} {x : Cel} (h : (M.sub W).h a = some x) : W.h a = none := by
  cases e : W.h a with
  | none => rfl
  | some y => have h : (W.h a).elim (M.h a) (fun zz => none) = some x := h; rw [e] at h; cases h
private theorem Map.sub_Wg {M W : Map} {a : Nat} {x : GenState} (h : (M.sub W).g a = some x) : W.g a = none := by
  cases e : W.g a with
  | none => rfl
  | some y => have h : (W.g a).elim (M.g a) (fun zz => none) = some x := h; rw [e] at h; cases h
private theorem Map.sub_le {M W : Map} : (M.sub W).le M := ⟨fun zz zz e => (Map.sub_h (Map.sub_W e)) ▸ e, fun zz zz e => (Map.sub_g (Map.sub_Wg e)) ▸ e⟩
structure CAt {β : Type} (X : Amb) (D : Nat) (sc : Names) (tgt : Expr) (env : Env) (own : List Addr) (itv : Value) (C M0 : Map) (a : Addr) (AccO : β → Map → Obj → Prop) (L : Lc) (c : Cf) (r : List AV) (W : Map) (b : β) (o : Obj) (m : Mem) : Prop where
  l : Map.leB (a :: own) C c.M
  l0 : M0.le0 c.M
  F : FS X env sc own c m L
  w : W.le c.M
  p : Pins C W
  f : Feeds X D tgt itv M0 r W
  a : AccAt AccO b c.M a o
structure CSpec (X : Amb) (e : Expr) (tgt : Expr) (ifs : List Expr) (newAcc : Sem Value) (obj0 : Obj) (emit : Addr → Env → Sem Unit) (p : Pos) : Prop where
  turn : ∀ itv a env, compTurn e 0 itv (.ref a) env = (do
      standAt p
      match ← pyNext itv with
      | none => pure (.done .next)
      | some v =>
        letOwnedTupleGo tgt itv v
        assign tgt env v
        let mut ok := true
        for c in ifs do
          if ok then ok ← isTrue c env (eval c env)
        if ok then
          emit a env
        again (.compLoop e 0 itv (.ref a) env))
  den : ∀ itv a env (A : Around) (Q : PySem.Fin → Shared → Prop) (E : Value → Shared → Prop) (s : Shared), wpAny (model X.prog X.w) A ((compTurn e 0 itv (.ref a) env).onRaise (fun x => do noteFrame x env; theTreesLotGoes x)) Q E s →
      wpAny (model X.prog X.w) (A.under (.compLoop e 0 itv (.ref a) env)) ((model X.prog X.w).den (.compLoop e 0 itv (.ref a) env)) Q E s
  quiet : ∀ itv a env, (Code.compLoop e 0 itv (.ref a) env).quiet = true
  start : ∀ (A : Around) (R : Result → Shared → Prop) (s : Shared) (it : Value) (a : Addr) (env : Env), codeAny (model X.prog X.w) A (.compLoop e 0 it (.ref a) env) R s →
      wpAny (model X.prog X.w) A (pyIter it) (fun it' s' => codeAny (model X.prog X.w) A (.compLoop e 0 it' (.ref a) env) R s') (notedBy (model X.prog X.w) A env fun x s' => R (.error x) s') s →
      codeAny (model X.prog X.w) A (.compStart e 0 it (.ref a) env) R s
  new : ∀ (A : Around) (Q E : Value → Shared → Prop) (s : Shared), Q (.ref s.heap.objs.size) { s with heap := s.heap.push obj0 } → wpAny (model X.prog X.w) A newAcc Q E s
  live : obj0.isFreed = false
inductive CInv {β : Type} (X : Amb) (D : Nat) (sc names : Names) (tgt : Expr) (ifs : List Expr) (emit : Addr → Env → Sem Unit) (env : Env) (own : List Addr) (itv : Value) (C M0 : Map) (a : Addr) (AccO : β → Map → Obj → Prop) (L : Lc) (bF : β) (mF : Mem) (n : Nat) (s : Shared) : Prop
  | mk {c r W b o m} : s = c.s → n = r.length → CL X D sc names tgt ifs L AccO emit r b m bF mF → CAt X D sc tgt env own itv C M0 a AccO L c r W b o m → CInv X D sc names tgt ifs emit env own itv C M0 a AccO L bF mF n s
section
variable {β : Type} {X : Amb} {D : Nat} {sc names : Names} {tgt iter : Expr} {ifs : List Expr} {AccO : β → Map → Obj → Prop} {emit : Addr → Env → Sem Unit} {L : Lc} {bF : β} {m mF : Mem} {e : Expr} {newAcc : Sem Value} {obj0 : Obj} {p : Pos}
private theorem jp_if {M : Model} {A : Around} {q : Bool} {x : Sem Unit} {k : Sem PySem.Fin} {Q : PySem.Fin → Shared → Prop} {E : Value → Shared → Prop} {s : Shared} (h : wpAny M A (if q = true then x else pure ()) (fun zz s' => wpAny M A k Q E s') E s) : wpAny M A (if q = true then x >>= fun zz => k else k) Q E s := by
  cases q with
  | true => exact wpAny_bind h
  | false => exact (pure_bind () fun zz => k) ▸ wpAny_bind h
private theorem Emit.skip {b : β} : Emit X D sc AccO (fun a env => if false = true then emit a env else pure ()) L m b b m := fun env own A c a o R F o1 ac Q E k => wpAny_pure (k c o (.rf _) F ac)
private theorem PTs.nil : PTs X D sc [] L m true m := fun env A c T Q E k => wpAny_tests_nil (k c ⟨.rf _, T.S⟩)
private theorem PTs.one {t : Expr} {b : Bool} (h : PT X D sc t L m b mF) : PTs X D sc [t] L m b mF := fun env A c T Q E k => wpAny_tests_one (h env A c T Q E k)
private theorem AccAt.up (mono : Mono AccO) {b : β} {M N : Map} {a : Addr} {o : Obj} (h : AccAt AccO b M a o) (l : M.le0 N) (e : N.h a = some (.pin o)) : AccAt AccO b N a o := ⟨e, mono _ _ _ _ h.a l⟩
private theorem compLoop (S : CSpec X e tgt ifs newAcc obj0 emit p) (mono : Mono AccO) {env : Env} {own : List Addr} {itv : Value} {a : Addr} {A : Around} (R : Room A D) (T : Stos names env own) {C M0 : Map} (ap : Has env own C) (aC : ∃ x, C.h a = some x) (o1 : Own1 X env own a) {RR : Result → Shared → Prop}
    (hR : ∀ d o, Map.leB (a :: own) C d.M → FS X env sc own d mF L → AccAt AccO bF d.M a o → RR (.ok .next) d.s) {n : Nat} {s : Shared} (h : CInv X D sc names tgt ifs emit env own itv C M0 a AccO L bF mF n s) : codeAny (model X.prog X.w) A (.compLoop e 0 itv (.ref a) env) RR s := by
  refine codeAny_loop (S.quiet _ _ _) (CInv X D sc names tgt ifs emit env own itv C M0 a AccO L bF mF) (fun n s i => ?_) n h
  cases i with
  | @mk c r W b o m hs hn cl F0 =>
    subst hs; subst hn
    refine S.den _ _ _ A _ _ _ (wpAny_noted ?_)
    rw [S.turn]
    refine wpAny_bind (wpAny_standAt (wpAny_bind ?_))
    have ff := F0.f
    have Wa : W.h a = none := aC.elim fun x q => F0.p.v a x q
    cases cl with
    | nil => exact ff A c _ _ _ R F0.l0 F0.F.S F0.w fun d s => wpAny_pure (hR d o (F0.p.on F0.l s.l) (F0.F.step ap F0.p F0.w s) (F0.a.up mono (F0.p.l0 F0.w s.l) (s.l.h a _ Wa F0.a.h)))
    | @turn x r b _ L' q m2 b' m3 _ _ ha ht he cl =>
      refine ff A c _ _ _ R F0.l0 F0.F.S F0.w fun v d1 go => wpAny_bind (go _ _ _ R fun d2 W2 s2 r2 w2 p2 f2 => wpAny_bind ?_)
      have F2 := F0.F.step ap F0.p F0.w s2
      have p3 := p2.pins F0.p F0.l fun b hb => (List.mem_cons.mp hb).elim (fun e => e ▸ ⟨_, F0.a.h⟩) fun hb => (F0.F.ow b hb).1.imp' _ fun zz q => q
      have a2 := F0.a.up mono (F0.p.l0 F0.w s2.l) (s2.l.h a _ Wa F0.a.h)
      refine ha.a env own A d2 _ v R T F2 r2 _ _ fun d3 l3 F3 => wpAny_bind (ht env A d3 (F3.at' R) _ _ fun d4 g => ?_)
      have l4 := l3.tr (g.l.b own)
      have a4 := a2.up mono (F2.l0 l4) (l4.h a _ o1.no a2.h)
      refine jp_if (he env own A d4 a o R (F3.keep g.l g.h) o1 a4 _ _ fun d5 o5 l5 F5 a5 => ?_)
      have lz : d4.M.le0 d5.M := fun b x e n => l5.h b x (fun hb => by rw [List.mem_singleton.mp hb, a4.h] at e; cases e; exact n o rfl) e
      have l6 : Map.leB (a :: own) d2.M d5.M := ⟨fun b x n e => l5.h b x (fun q => n (by rw [List.mem_singleton.mp q]; exact List.mem_cons_self)) (l4.h b x (fun q => n (List.mem_cons_of_mem _ q)) e), fun i x e => l5.g i x (l4.g i x e)⟩
      exact wpAny_pure ⟨rfl, _, Nat.lt_succ_self _, .mk rfl rfl cl ⟨(F0.p.on F0.l s2.l).tr l6,
        fun b x e n => lz b x (F2.l0 l4 b x ((F0.p.l0 F0.w s2.l) b x (F0.l0 b x e n) n) n) n, F5.weak ha.s, ⟨fun b x e => l6.h b x (fun hb => (List.mem_cons.mp hb).elim (fun q => by rw [q] at e; rw [aC.elim fun x q => p3.v a x q] at e; cases e) fun hb => (ap.o b hb).elim fun y q => by rw [p3.v b y q] at e; cases e) (w2.h b x e), fun i x e => l6.g i x (w2.g i x e)⟩, p3, f2, a5⟩⟩
private theorem compBlock (S : CSpec X e tgt ifs newAcc obj0 emit p) (mono : Mono AccO) {scope : Scope} {b0 : β} {xs : List AV} {m1 : Mem} (a0 : ∀ M, AccO b0 M obj0) (ok : CompOk sc scope.names) (hk : scope.kind = .function) (hi : PI X D sc tgt iter L m xs m1)
    (cl : CL X D (relN sc scope.names) scope.names tgt ifs (seen scope.names L) AccO emit xs b0 m1 bF mF) {env : Env} {A : Around} {c : Cf} (T : At X D sc env A c L m) {RR : Value → Addr → Result → Shared → Prop} {E : Value → Shared → Prop}
    (hR : ∀ a C d o oC, c.M.le d.M → Hp X d mF → AccAt AccO bF d.M a o → d.M.h C = some (.pin oC) → (∃ f, d.s.heap.Ns C f) → a ≠ C → c.M.h a = none → c.M.h C = none → X.B.h a = none → X.B.h C = none → (∀ x b, env.cells.lookup x = some b → b ≠ C) → RR (.ref a) C (.ok .next) d.s) :
    wpAny (model X.prog X.w) A (eval iter env) (fun x s₁ => wpAny (model X.prog X.w) A (pyIter x) (fun it s₂ => wpAny (model X.prog X.w) A newAcc (fun acc s₃ =>
      wpAny (model X.prog X.w) A (newFunctionEnv scope env.globals (closL env.cells scope.names []) [] env.qual none .none (some env)) (fun cenv s₄ =>
        codeAny (model X.prog X.w) A (.compStart e 0 it acc { cenv with scope := relabel scope env }) (RR acc cenv.locals) s₄) E s₃) E s₂) E s₁) E c.s := by
  refine hi env A c T _ _ fun itv d W it => S.new A _ _ _ (newCompEnv ?_)
  dsimp only
  have ha := it.h.top
  have ac := it.h.newPin obj0 S.live d.s.toks
  have la := Map.le_set (.pin obj0) ha
  obtain ⟨fr, F⟩ := compEnter (scope := scope) (c := ⟨{ d.s with heap := d.s.heap.push obj0, toks := d.s.toks }, d.M.set d.s.heap.objs.size (.pin obj0)⟩) ok (T.N.up (it.l.tr la)) ac hk _ rfl
  have hsz : (d.s.heap.push obj0).objs.size = d.s.heap.objs.size + 1 := Heap.size_push ..
  generalize hown : compOwn scope (d.s.heap.push obj0).objs.size = own at fr F
  have lp := Map.le_pins (own := own) (h := compHeap scope (d.s.heap.push obj0)) fun a ha => (fr a ha).2
  have dn : ∀ b ∈ own, d.M.h b = none := fun b hb => by
    cases e : d.M.h b with
    | none => rfl
    | some x => have := la.h _ _ e; rw [(fr b hb).2] at this; cases this
  have cn : ∀ b x, c.M.h b = some x → b ∉ own ∧ b ≠ d.s.heap.objs.size := fun b x e => ⟨fun hb => (by have := it.l.h _ _ e; rw [dn b hb] at this; cases this), fun q => (by have := it.l.h _ _ e; rw [q, ha] at this; cases this)⟩
  have Wn : ∀ b, d.M.h b = none → W.h b = none := fun b h => by
    cases e : W.h b with
    | none => rfl
    | some x => have := it.w.h _ _ e; rw [h] at this; cases this
  have M3a := Map.pins_out (h := compHeap scope (d.s.heap.push obj0)) (M := d.M.set d.s.heap.objs.size (.pin obj0)) (own := own) (a := d.s.heap.objs.size)
  generalize (d.M.set d.s.heap.objs.size (.pin obj0)).pins (compHeap scope (d.s.heap.push obj0)) own = M3 at F lp M3a
  have no : d.s.heap.objs.size ∉ own := fun h => absurd (fr _ h).1 (by show ¬ (d.s.heap.push obj0).objs.size ≤ _; rw [hsz]; exact Nat.not_succ_le_self _)
  have mem : ∀ x b, (compEnv scope env (d.s.heap.push obj0).objs.size).cells.lookup x = some b → b ∈ own ∨ ∃ y, c.M.h b = some y := fun x b h => (comp_cells_mem (mem_of_lookup h)).imp (fun h => hown ▸ List.mem_cons_of_mem _ (List.mem_map_of_mem (f := (·.2)) h)) fun h => (T.N.cel x b h.2).elim fun o q => q.elim (fun q => ⟨_, q⟩) fun q => ⟨_, q⟩
  have hC0 : (d.s.heap.push obj0).objs.size ∈ own := hown ▸ List.mem_cons_self
  have keepC : ∀ b x, c.M.h b = some x → (M3.sub W).h b = some x := fun b x e => (Map.sub_h (it.p.v b x e)).trans (lp.h _ _ (la.h _ _ (it.l.h _ _ e)))
  have loop := compLoop (names := scope.names) (itv := itv) (a := d.s.heap.objs.size) (M0 := d.M) (C := M3.sub W) (RR := RR (.ref d.s.heap.objs.size) (d.s.heap.push obj0).objs.size) S mono T.R (hown ▸ compStos ok (T.N.up (it.l.tr la)) _)
    ⟨fun b hb => (F.ow b hb).1.elim fun o e => ⟨_, (Map.sub_h (Wn b (dn b hb))).trans e⟩, fun n b h => (mem n b h).elim (fun hb => (F.ow b hb).1.elim fun o e => ⟨_, (Map.sub_h (Wn b (dn b hb))).trans e⟩) fun q => q.imp fun y e => keepC b y e⟩
    ⟨_, (Map.sub_h (Wn _ ha)).trans ((M3a no).trans (Map.set_at _ _ _))⟩ ⟨no, fun x h => (mem x _ h).elim no fun ⟨y, e⟩ => (cn _ _ e).2 rfl, it.h.btop⟩
    (fun d' o l' F' a' => (F'.ow _ hC0).1.elim fun oC hC => hR _ _ d' o oC ⟨fun b x e => l'.h b x (fun hb => (List.mem_cons.mp hb).elim (cn b x e).2 (cn b x e).1) (keepC b x e), fun i x e => l'.g i x ((Map.sub_g (it.p.g i x e)).trans (lp.g _ _ (la.g _ _ (it.l.g _ _ e))))⟩
      F'.S a' hC F'.ns (by rw [hsz]; exact Nat.ne_of_lt (Nat.lt_succ_self _)) (by
        cases e : c.M.h d.s.heap.objs.size with
        | none => rfl
        | some x => exact absurd rfl (cn _ _ e).2) (by
        cases e : c.M.h (d.s.heap.push obj0).objs.size with
        | none => rfl
        | some x => exact absurd hC0 (cn _ _ e).1) it.h.btop (F'.ow _ hC0).2 fun x b h q => (T.N.cel x b h).elim fun o e => e.elim (fun e => (cn _ _ e).1 (q ▸ hC0)) fun e => (cn _ _ e).1 (q ▸ hC0))
    (.mk (c := ⟨{ d.s with heap := compHeap scope (d.s.heap.push obj0) }, M3⟩) rfl rfl cl ⟨⟨fun b x zz e => Map.sub_le.h b x e, fun i x e => Map.sub_le.g i x e⟩, (la.tr lp).l0, F, (it.w.tr la).tr lp, ⟨it.p.p, fun b x e => Map.sub_W e, fun i x e => Map.sub_Wg e⟩, it.f, ⟨(M3a no).trans (Map.set_at _ _ _), a0 _⟩⟩)
  exact S.start A _ _ itv _ _ loop (it.self A ⟨{ d.s with heap := compHeap scope (d.s.heap.push obj0) }, M3⟩ _ _ _ ((it.w.tr la).tr lp) F.S loop)
end
end
section
open PySem PySem.W PyProof.Rows PySem.Calls PySem.SeqAt
noncomputable def AccL (ys : List AV) (M : Map) (o : Obj) : Prop := ∃ ws n, o = lo ws n ∧ Reps M ys ws
noncomputable def emitL (elt : Expr) (a : Addr) (env : Env) : Sem Unit := do let _ ← call (.builtin "list.append") [.ref a, ← eval elt env]
private theorem AccL.mono : Mono AccL := fun zz zz zz zz h l => h.imp fun zz h => h.imp fun zz h => ⟨h.1, h.2.up0 l⟩
section
variable {X : Amb} {D : Nat} {sc : Names} {L : Lc} {m m1 m2 mF : Mem} {tgt iter elt : Expr} {ifs : List Expr} {scope : Scope} {pos p p' : Pos} {P : RP} {rest : List Stmt}
private theorem FS.acc {env : Env} {own : List Addr} {c : Cf} {a : Addr} {o o' : Obj} {h' : Heap} {tk : Nat} (F : FS X env sc own c m L) (o1 : Own1 X env own a) (ha : c.M.h a = some (.pin o)) (hs : ∀ b q, b ≠ a → c.s.heap.get? b = some q → h'.get? b = some q) (ho : h'.get? a = some o') :
    FS X env sc own ⟨{ c.s with heap := h', toks := tk }, c.M.set a (.pin o')⟩ m L :=
  F.keepB (d := ⟨{ c.s with heap := h', toks := tk }, c.M.set a (.pin o')⟩) (Map.set_le0 _ ha) (fun b hb x e => (Map.set_ne _ _ fun (q : b = a) => o1.no (q ▸ hb)).trans e) (fun n b hb x e => (Map.set_ne _ _ fun (q : b = a) => o1.ce n (q ▸ hb)).trans e)
    (F.S.put (fun y e n => by rw [ha] at e; cases e; exact absurd rfl (n o)) (fun y e => by rw [o1.b] at e; cases e) hs (fun zz zz zz zz => rfl) nofun (.pin ho))
private theorem Map.set_leB {M : Map} {a : Addr} (x : Cel) : Map.leB [a] M (M.set a x) := .set x List.mem_cons_self
private theorem emit_list {y : AV} {ys : List AV} (h : PE X D sc elt L m y m1) (hz : ys.length ≤ 2 ^ 23) : Emit X D sc AccL (fun a env => if true = true then emitL elt a env else pure ()) L m ys (ys ++ [y]) m1 := fun env own A c a o R FF o1 ac Q E k =>
  wpAny_bind (h env A c (FF.at' R) _ _ fun v d g => wpAny_bind (by
    obtain ⟨ws, n, rfl, ra⟩ := ac.a
    have ha := g.l.h _ _ ac.h
    have h1 := g.h.pin ha
    have ra := ra.up g.l
    refine call_meets F.slot_list_append ⟨_, h1, rfl⟩ F.entry_list_append (F.args_list_append_2 _ _) (PySem.list_append _ ws.toArray n _ (le24 (ra.sz hz))) ⟨h1, wpAny_pure ?_⟩
    have h2 := IsL.update (h := d.s.heap) (l := a) (items := ws.toArray) (n := n) h1 (fun xs => xs.push v)
    exact k ⟨{ d.s with heap := _, toks := d.s.toks }, _⟩ _ ⟨fun b x n e => Map.set_leB _ |>.h b x n (g.l.h b x e), fun i x e => g.l.g i x e⟩ ((FF.keep g.l g.h).acc o1 ha (fun b q hb e => ((Heap.SameBut.update ..).2 b hb).trans e) h2)
      ⟨Map.set_at _ _ _, ws ++ [v], _, (by rw [List.push_toArray]), (ra.app (.one g.r)).up0 (Map.set_le0 _ ha)⟩))
private theorem specL : CSpec X (.ListComp elt [⟨tgt, iter, ifs, 0⟩] scope pos) tgt ifs (newList []) (lo []) (emitL elt) iter.pos where
  turn := fun itv a env => compTurn_list elt tgt iter ifs scope pos itv (.ref a) env
  den := fun itv a env A Q E s h => h
  quiet := fun zz zz zz => rfl
  start := fun A R s it a env h0 h => codeAny_compStart_list h0 h
  new := fun A Q E s h => wpAny_newObj_type h
  live := rfl
private theorem CompOk.names {names : Names} (ok : CompOk sc names) : ∀ y ∈ names, y.2 = .local → names.lookup y.1 = some .local := fun y hy h => lookup_mem ok.nd (h ▸ hy)
private theorem Sep.done {s : Shared} {M : Map} {a C : Addr} {o oC : Obj} {h' : Heap} (S : Sep X s M m) (ha : M.h a = some (.pin o)) (hb : X.B.h a = none) (hC : M.h C = some (.pin oC)) (hbC : X.B.h C = none) (ne : a ≠ C) (hs : Heap.SameBut C s.heap h') : Sep X { s with heap := h' } ((M.set a (.frz o)).del C) m :=
  (S.put (x := .frz o) (h' := s.heap) (tk := s.toks) (mem' := m) (fun y e n => by rw [ha] at e; cases e; exact absurd rfl (n o)) (fun y e => by rw [hb] at e; cases e) (fun zz zz zz e => e) (fun zz zz zz zz => rfl) nofun (.frz (S.pin ha))).del (tk := s.toks) ((Map.set_ne _ _ ne.symm).trans hC) hbC fun b o hb e => (hs.2 b hb).trans e
private theorem Map.done_le {M N : Map} {a C : Addr} {x : Cel} (l : M.le N) (ha : M.h a = none) (hC : M.h C = none) : M.le ((N.set a x).del C) :=
  ⟨fun b y e => (Map.del_ne _ fun q => by rw [q, hC] at e; cases e).trans ((Map.set_ne _ _ fun q => by rw [q, ha] at e; cases e).trans (l.h b y e)), l.g⟩
private theorem Map.del_le0 {M : Map} {a : Addr} {o : Obj} (h : M.h a = some (.pin o)) : M.le0 (M.del a) := fun b x e n => by
  rw [Map.del_ne _ fun q => by rw [q, h] at e; cases e; exact n _ rfl]; exact e
private theorem Map.done_le0 {M : Map} {a C : Addr} {x : Cel} {o oC : Obj} (ha : M.h a = some (.pin o)) (hC : M.h C = some (.pin oC)) (ne : a ≠ C) : M.le0 ((M.set a x).del C) := fun b y e n => Map.del_le0 ((Map.set_ne _ _ ne.symm).trans hC) b y (Map.set_le0 x ha b y e n) n
structure CNames (sc : Names) (scope : Scope) (iter : Expr) (L : Lc) : Prop where
  ok : CompOk sc scope.names
  kind : scope.kind = .function
  seen : seenOk scope.names L = true
  set : ∀ env x, foldedSetIterable iter env x = pure x
private theorem CNames.mk' (h : (compOkB sc scope.names && (scope.kind == .function && seenOk scope.names L)) = true) (set : ∀ env x, foldedSetIterable iter env x = pure x) : CNames sc scope iter L := by
  rw [Bool.and_eq_true, Bool.and_eq_true] at h
  exact ⟨compOk h.1, beq_iff_eq.mp h.2.1, h.2.2, set⟩
private theorem PE.lc {xs ys : List AV} (n : CNames sc scope iter L) (hi : PI X D sc tgt iter L m xs m1) (cl : CL X D (relN sc scope.names) scope.names tgt ifs (seen scope.names L) AccL (emitL elt) xs [] m1 ys mF) : PE X D sc (.ListComp elt [⟨tgt, iter, ifs, 0⟩] scope pos) L m (.lst ys) mF := fun env A c T Q E k => by
  rw [eval_ListComp]
  refine wpAny_comprehension_free (use := Option.none) rfl (n.set env) (closureFor_eq fun x hx => seen_cells n.ok T.N n.seen hx) n.kind n.ok.names (compBlock (RR := fun acc C => compPost (model X.prog X.w) A E Option.none Q acc C) (specL (pos := pos)) AccL.mono (fun zz => ⟨[], 0, rfl, .nil⟩) n.ok n.kind hi cl T ?_)
  intro a C d o oC l S ac hC ns ne na nC ba bC _
  refine ns.imp fun f hf => ⟨hf, fun h' hs => ?_⟩
  obtain ⟨ws, j, rfl, ra⟩ := ac.a
  exact k _ ⟨{ d.s with heap := h' }, _⟩ ⟨Map.done_le l na nC, S.done ac.h ba hC bC ne hs, .lstOf ((Map.del_ne _ ne).trans (Map.set_at _ _ _)) (ra.up0 (Map.done_le0 ac.h hC ne))⟩
private theorem W.lcSwap {x : Str} {xs ys : List AV} (n : CNames sc scope iter L) (hi : PI X D sc tgt iter L m xs m1) (cl : CL X D (relN sc scope.names) scope.names tgt ifs (seen scope.names L) AccL (emitL elt) xs [] m1 ys mF)
    (hsw : ∀ env : Env, NmR env.scope.names sc → env.scope.kind = .function → swapsWith (.ListComp elt [⟨tgt, iter, ifs, 0⟩] scope pos) (some (.Name x p')) p.line env = pure true) (hx : okB sc x = true) (h : W X D sc rest ((x, .lst ys) :: L) mF P) :
    W X D sc (.Assign [.Name x p'] (.ListComp elt [⟨tgt, iter, ifs, 0⟩] scope pos) p :: rest) L m P := .seq fun env own A c T Q E k => by
  rw [exec_Assign_Name_used _ _ _ _ (hsw env T.F.N.names T.F.N.kind)]
  refine wpAny_bind (wpAny_standAt (wpAny_bind ?_))
  show wpAny _ A (do let _ ← comprehension (.ListComp elt [⟨tgt, iter, ifs, 0⟩] scope pos) scope env _ (newList []) false (eval iter env) (some (assign (.Name x p') env))) _ _ c.s
  refine wpAny_bind (wpAny_mono (wpAny_comprehension_free (use := some (assign (.Name x p') env)) (Q := fun zz s' => Q .next s') rfl (n.set env) (closureFor_eq fun x hx => seen_cells n.ok T.F.N n.seen hx) n.kind n.ok.names
    (compBlock (RR := fun acc C => compPost (model X.prog X.w) A E (some (assign (.Name x p') env)) (fun zz s' => Q .next s') acc C) (specL (pos := pos)) AccL.mono (fun zz => ⟨[], 0, rfl, .nil⟩) n.ok n.kind hi cl (T.F.at' T.R) ?_)) (fun zz s' hq => wpAny_pure (wpAny_pure hq)) fun zz zz e => e)
  intro a C d o oC l S ac hC ns ne na nC ba bC ceC
  obtain ⟨ws, j, rfl, ra⟩ := ac.a
  have no : ∀ b ∈ own, b ≠ a ∧ b ≠ C := fun b hb => (T.F.ow b hb).1.elim fun o e => ⟨fun q => (by rw [q, na] at e; cases e), fun q => (by rw [q, nC] at e; cases e)⟩
  have la : c.M.le (d.M.set a (.frz (lo ws j))) := ⟨fun b y e => (Map.set_ne _ _ fun q => by rw [q, na] at e; cases e).trans (l.h b y e), l.g⟩
  have S1 : Sep X d.s (d.M.set a (.frz (lo ws j))) mF := S.put (x := .frz (lo ws j)) (h' := d.s.heap) (tk := d.s.toks) (mem' := mF) (fun y e n => by rw [ac.h] at e; cases e; exact absurd rfl (n _)) (fun y e => by rw [ba] at e; cases e) (fun zz zz zz e => e) (fun zz zz zz zz => rfl) nofun (.frz (S.pin ac.h))
  have F1 := T.F.keep (d := ⟨d.s, d.M.set a (.frz (lo ws j))⟩) la S1
  have hC1 : (d.M.set a (.frz (lo ws j))).h C = some (.pin oC) := (Map.set_ne _ _ ne.symm).trans hC
  show wpAny _ A (assign (.Name x p') env (.ref a)) _ _ _
  refine wpAny_assign_Name (F1.store (T.T x (nameOk hx)) (.lstOf (Map.set_at _ _ _) (ra.up0 (Map.set_le0 _ ac.h))) fun e l2 F2 => ?_)
  have hC2 := l2.h C _ (fun h => (no C h).2 rfl) hC1
  obtain ⟨f, o', es, ep, q1, q2⟩ := ns
  cases (S.pin hC).symm.trans q1
  refine ⟨f, ⟨_, es, ep, F2.S.pin hC2, q2⟩, fun h' hs => ?_⟩
  have l3 : Map.leB own c.M (e.M.del C) := ⟨fun b y nb q => (Map.del_ne _ fun z => by rw [z, nC] at q; cases q).trans (l2.h b y nb (la.h b y q)), fun i y q => l2.g i y (la.g i y q)⟩
  exact k _ ⟨{ e.s with heap := h' }, e.M.del C⟩ .next _ _ ⟨l3, F2.keepB (d := ⟨{ e.s with heap := h' }, e.M.del C⟩) (Map.del_le0 hC2) (fun b hb y q => (Map.del_ne _ (no b hb).2).trans q) (fun i b hb y q => (Map.del_ne _ (ceC i b hb)).trans q) (F2.S.del (tk := e.s.toks) hC2 bC fun b o hb q => (hs.2 b hb).trans q), .next, h⟩
end
end
section
open PySem PySem.W PyProof.Rows PySem.Calls PySem.SeqAt
noncomputable def storedI (ks : List (Int × Int)) (k v : Int) : List (Int × Int) := if ks.any (fun kv => kv.1 = k) then ks.map (fun kv => if kv.1 = k then (kv.1, v) else kv) else ks ++ [(k, v)]
section
variable {kvs : List (Int × Value)} {ks : List (Int × Int)} {k v : Int} {t : Tok}
private theorem IntVals.len (h : IntVals kvs ks) : kvs.length = ks.length := by
  induction h with
  | nil => rfl
  | cons _ ih => exact congrArg (· + 1) ih
private theorem IntVals.any' (h : IntVals kvs ks) : kvs.any (fun kv => kv.1 = k) = ks.any (fun kv => kv.1 = k) := by
  induction h with
  | nil => rfl
  | cons _ ih => rw [List.any_cons, List.any_cons, ih]
private theorem IntVals.upd (h : IntVals kvs ks) : IntVals (kvs.map fun kv => if kv.1 = k then (kv.1, .int v t) else kv) (ks.map fun kv => if kv.1 = k then (kv.1, v) else kv) := by
  induction h with
  | nil => exact .nil
  | @cons k' _ _ _ _ _ ih =>
    rw [List.map_cons, List.map_cons]
    by_cases e : k' = k
    · rw [if_pos e, if_pos e]; exact .cons ih
    · rw [if_neg e, if_neg e]; exact .cons ih
private theorem IntVals.snoc (h : IntVals kvs ks) : IntVals (kvs ++ [(k, .int v t)]) (ks ++ [(k, v)]) := by
  induction h with
  | nil => exact .cons .nil
  | cons _ ih => exact .cons ih
private theorem IntVals.stored (h : IntVals kvs ks) : IntVals (PySem.stored kvs k (.int v t)) (storedI ks k v) := by
  unfold PySem.stored storedI
  rw [h.any']
  split
  · exact h.upd
  · exact h.snoc
end
private theorem pairsAny {prog prog' : Program} {w w' : World} {l : List DictEntry} {kvs : List (Int × Value)} (h : PySem.Pairs (intKind prog w) l kvs) : PySem.Pairs (intKind prog' w') l kvs := by
  induction h with
  | nil => exact .nil
  | cons h1 h2 _ ih => exact .cons h1 h2 ih
private theorem IntDict.of {prog : Program} {w : World} {o : Obj} {kvs : List (Int × Value)} {ks : List (Int × Int)} (h : o.IsDictOf (intKind prog w) kvs) (hv : IntVals kvs ks) : IntDict o ks := by
  obtain ⟨es, ep, hc, hd, hk, hp, hn⟩ := h
  exact ⟨es, ep, kvs, hc, hd, fun zz zz => hk, fun zz zz => pairsAny hp, hn, hv⟩
noncomputable def AccD (ks : List (Int × Int)) (_ : Map) (o : Obj) : Prop := IntDict o ks
noncomputable def emitD (kx vx : Expr) (a : Addr) (env : Env) : Sem Unit := do
  let kv ← eval kx env
  let vv ← holding [kv] (eval vx env)
  standAt { kx.pos with endLine := vx.pos.endLine, endCol := vx.pos.endCol }
  holding [kv, vv] (dictSet a kv vv)
section
variable {X : Amb} {D : Nat} {sc : Names} {L : Lc} {m m1 m2 mF : Mem} {tgt iter kx vx : Expr} {ifs : List Expr} {scope : Scope} {pos : Pos}
private theorem emit_dict {k v : Int} {ks : List (Int × Int)} (h1 : PE X D sc kx L m (.int k) m1) (h2 : PE X D sc vx L m1 (.int v) m2) (hz : ks.length ≤ 2 ^ 23) : Emit X D sc AccD (fun a env => if true = true then emitD kx vx a env else pure ()) L m ks (storedI ks k v) m2 := fun env own A c a o R FF o1 ac Q E kk =>
  wpAny_bind (h1 env A c (FF.at' R) _ _ fun w d g => wpAny_bind (wpAny_holding (h2 env A d ((FF.keep g.l g.h).at' R) _ _ fun u d2 g2 => wpAny_bind (wpAny_standAt (wpAny_holding (by
    obtain ⟨t, rfl⟩ := g.r.i_int
    obtain ⟨t2, rfl⟩ := g2.r.i_int
    have le := g.l.tr g2.l
    have ha := le.h _ _ ac.h
    obtain ⟨kvs, hd, hv⟩ := IntDict.is ac.a X.prog X.w
    refine wpAny_dictSet_pairs (knd := intKind X.prog X.w) (k := k) (intKind_is _ _ _ _) (Heap.dictOf_iff.mpr ⟨o, g2.h.pin ha, hd⟩) (fun h' hd' hs' => ?_) (by rw [hv.len]; exact le24 hz)
    obtain ⟨o', ho', hd'⟩ := Heap.dictOf_iff.mp hd'
    exact kk ⟨{ d2.s with heap := h', toks := d2.s.toks + 1 }, _⟩ _ ⟨fun b x n e => Map.set_leB _ |>.h b x n (le.h b x e), fun i x e => le.g i x e⟩ ((FF.keep le g2.h).acc o1 ha (fun b q hb e => (hs'.2 b hb).trans e) ho') ⟨Map.set_at _ _ _, IntDict.of hd' hv.stored⟩))))))
private theorem specD : CSpec X (.DictComp kx vx [⟨tgt, iter, ifs, 0⟩] scope pos) tgt ifs newDict { cls := .type "dict", data := .dict #[] } (emitD kx vx) iter.pos where
  turn := fun itv a env => compTurn_dict kx vx tgt iter ifs scope pos itv a env
  den := fun itv a env A Q E s h => h
  quiet := fun zz zz zz => rfl
  start := fun A R s it a env h0 h => codeAny_compStart_dict h0 h
  new := fun A Q E s h => wpAny_newObj_type h
  live := rfl
private theorem accD0 (X : Amb) : IntDict { cls := .type "dict", data := .dict #[] } [] := by
  obtain ⟨o, ho, hd⟩ := Heap.dictOf_iff.mp (Heap.DictOf.new (knd := intKind X.prog X.w) (default : Heap))
  rw [Heap.get?_push_size _ rfl] at ho; cases ho
  exact IntDict.of hd .nil
private theorem PE.dc {xs : List AV} {ys : List (Int × Int)} (n : CNames sc scope iter L) (hi : PI X D sc tgt iter L m xs m1) (cl : CL X D (relN sc scope.names) scope.names tgt ifs (seen scope.names L) AccD (emitD kx vx) xs [] m1 ys mF) : PE X D sc (.DictComp kx vx [⟨tgt, iter, ifs, 0⟩] scope pos) L m (.dct ys) mF := fun env A c T Q E k => by
  rw [arm_eval_DictComp]
  refine wpAny_comprehension_free (use := Option.none) rfl (n.set env) (closureFor_eq fun x hx => seen_cells n.ok T.N n.seen hx) n.kind n.ok.names (compBlock (RR := fun acc C => compPost (model X.prog X.w) A E Option.none Q acc C) (specD (pos := pos)) (fun zz zz zz zz h zz => h) (fun zz => accD0 X) n.ok n.kind hi cl T ?_)
  intro a C d o oC l S ac hC ns ne na nC ba bC _
  refine ns.imp fun f hf => ⟨hf, fun h' hs => ?_⟩
  exact k _ ⟨{ d.s with heap := h' }, _⟩ ⟨Map.done_le l na nC, S.done ac.h ba hC bC ne hs, .dct ((Map.del_ne _ ne).trans (Map.set_at _ _ _)) ac.a⟩
end
end
section
open PySem PySem.W PyProof.Rows PySem.Calls PySem.SeqAt
set_option backward.match.sparseCases false
noncomputable def notStar : Expr → Bool
  | .Starred _ _ => false
  | _ => true
noncomputable def notCall : Expr → Bool
  | .Call _ _ _ _ => false
  | _ => true
noncomputable def plainL (es : List Expr) : Bool := es.all notStar && decide (es.length < 29)
section
variable (X : Amb) (D : Nat)
noncomputable def Fn (x : Str) (m : Mem) (avs : List AV) (r : AV) (m' : Mem) : Prop :=
  ∀ (sc : Names) (L : Lc) (m0 : Mem) (p : Pos) (es : List Expr) (pos : Pos), sc.lookup x = some .globalImplicit → PA X D sc es L m0 avs m → PE X D sc (.Call (.Name x p) es [] pos) L m0 r m'
noncomputable def FnV (f : AV) (m : Mem) (avs : List AV) (r : AV) (m' : Mem) : Prop :=
  ∀ (sc : Names) (L : Lc) (m0 : Mem) (x : Str) (p : Pos) (es : List Expr) (pos : Pos), L.lookup x = some f → PA X D sc es L m0 avs m → PE X D sc (.Call (.Name x p) es [] pos) L m0 r m'
noncomputable def Mt (name : Str) (m1 m2 : Mem) (a : AV) (avs : List AV) (r : AV) (m3 : Mem) : Prop :=
  ∀ (sc : Names) (L : Lc) (m : Mem) (o : Expr) (es : List Expr) (apos pos : Pos), (∀ env, attributeBase o name env (eval o env) = eval o env) → Few es pos → (apos.endLine == pos.line) = true → PE X D sc o L m a m1 → PA X D sc es L m1 avs m2 → PE X D sc (.Call (.Attribute o name apos) es [] pos) L m r m3
noncomputable def GloV (x : Str) (av : AV) : Prop := ∃ v, Glo X.B x v ∧ ∀ M, X.B.le M → Rep M av v
end
structure Cx where
  X : Amb
  D : Nat
  sc : Names
  mu : List Nat
noncomputable def bd (x : Str) (v : AV) (L : Lc) : Lc := (x, v) :: L
noncomputable def sn (m : Mem) (x : AObj) : Mem := m ++ [x]
inductive IsV {α : Type} (v : α) (m : Mem) : α → Mem → Prop
  | mk : IsV v m v m
section
variable (G : Cx)
inductive BinK (op : Value → Value → Sem Value) (m : Mem) (x y : AV) (K : AV → Prop) : Prop
  | mk {r} : Bin G.X G.D op m x y r → K r → BinK op m x y K
inductive BinKM (op : Value → Value → Sem Value) (m : Mem) (x y : AV) (K : AV → Mem → Prop) : Prop
  | mk {r m3} : BinM G.X G.D op m x y r m3 → K r m3 → BinKM op m x y K
inductive BinT (op : Value → Value → Sem Value) (m : Mem) (x y : AV) (K : Bool → Prop) : Prop
  | mk {b} : Bin G.X G.D op m x y (.bool b) → K b → BinT op m x y K
inductive UnK (op : Value → Sem Value) (m : Mem) (x : AV) (K : AV → Prop) : Prop
  | mk {r} : Un G.X G.D op m x r → K r → UnK op m x K
inductive TruK (m : Mem) (x : AV) (K : Bool → Prop) : Prop
  | mk {b} : Tru G.X m x b → K b → TruK m x K
inductive SubK (m : Mem) (x y : AV) (K : AV → Prop) : Prop
  | mk {r} : Sub G.X G.D m x y r → K r → SubK m x y K
inductive SlcK (m : Mem) (l u st : Option Int) (x : AV) (K : AV → Prop) : Prop
  | mk {r} : Slc G.X m l u st x r → K r → SlcK m l u st x K
inductive FnK (x : Str) (m : Mem) (xs : List AV) (K : AV → Mem → Prop) : Prop
  | mk {r m2} : Fn G.X G.D x m xs r m2 → K r m2 → FnK x m xs K
inductive FnVK (f : AV) (m : Mem) (xs : List AV) (K : AV → Mem → Prop) : Prop
  | mk {r m2} : FnV G.X G.D f m xs r m2 → K r m2 → FnVK f m xs K
inductive MtK (name : Str) (m1 m2 : Mem) (a : AV) (xs : List AV) (K : AV → Mem → Prop) : Prop
  | mk {r m3} : Mt G.X G.D name m1 m2 a xs r m3 → K r m3 → MtK name m1 m2 a xs K
inductive GloK (x : Str) (K : AV → Prop) : Prop
  | mk {av} : GloV G.X x av → K av → GloK x K
end
inductive IfE (q : Bool) (A B K : AV → Mem → Prop) : Prop
  | mk (v m) : (q = true → A v m) → (q = false → B v m) → K v m → IfE q A B K
inductive AndK (a : Bool) (A K : Bool → Prop) : Prop
  | mk {b} : (a = true → A b) → K (a && b) → AndK a A K
inductive OrK (a : Bool) (A K : Bool → Prop) : Prop
  | mk {b} : (a = false → A b) → K (a || b) → OrK a A K
inductive IfS (q : Bool) (A B : Prop) : Prop
  | mk : (q = true → A) → (q = false → B) → IfS q A B
inductive NoneK (A : Prop) : AV → Prop
  | mk : A → NoneK A .none
private theorem IfS.d {p : Prop} [Decidable p] {A B : Prop} (h : p → A) (k : ¬ p → B) : IfS (decide p) A B := ⟨fun e => h (of_decide_eq_true e), fun e => k (of_decide_eq_false e)⟩
private theorem IfS.n {p : Prop} [Decidable p] {A B : Prop} (h : ¬ p → A) (k : p → B) : IfS (!decide p) A B := ⟨fun e => h (of_decide_eq_false (by rw [← Bool.not_not (decide p), e]; rfl)), fun e => k (of_decide_eq_true (by rw [← Bool.not_not (decide p), e]; rfl))⟩
private theorem IfS.t {q : Bool} {A B : Prop} (e : q = true) (h : A) : IfS q A B := ⟨fun zz => h, fun e' => by rw [e] at e'; cases e'⟩
private theorem IfS.f {q : Bool} {A B : Prop} (e : q = false) (h : B) : IfS q A B := ⟨fun e' => (by rw [e] at e'; cases e'), fun zz => h⟩
noncomputable def toI : AV → Option Int
  | .int i => some i
  | _ => none
noncomputable def i2 (op : Operator) (a b : Int) : Option Int := match op with
  | .Add => some (a + b)
  | .Sub => some (a - b)
  | _ => none
noncomputable def c2 (op : CmpOp) (a b : Int) : Option Bool := match op with
  | .Lt => some (decide (a < b))
  | .LtE => some (decide (a ≤ b))
  | .Gt => some (decide (b < a))
  | .Eq => some (decide (a = b))
  | .NotEq => some (!decide (a = b))
  | _ => none
noncomputable def on2 {α : Type} (f : Int → Int → Option α) (x y : AV) : Option α := (toI x).elim none fun a => (toI y).elim none fun b => f a b
section
variable (G : Cx)
noncomputable def binP (op : Operator) (m : Mem) (x y : AV) (K : AV → Prop) : Prop := (on2 (i2 op) x y).elim (BinK G (binaryOp op) m x y K) fun c => K (.int c)
noncomputable def iopP (op : Operator) (m : Mem) (x y : AV) (K : AV → Prop) : Prop := (on2 (i2 op) x y).elim (BinK G (inplaceOp op) m x y K) fun c => K (.int c)
noncomputable def cmpP (op : CmpOp) (m : Mem) (x y : AV) (K : AV → Prop) : Prop := (on2 (c2 op) x y).elim (BinK G (compareOp op) m x y K) fun c => K (.bool c)
noncomputable def cmpT (op : CmpOp) (m : Mem) (x y : AV) (K : Bool → Prop) : Prop := (on2 (c2 op) x y).elim (BinT G (compareOp op) m x y K) K
noncomputable def t1 : AV → Option Bool
  | .bool b => some b
  | .int i => some (i != 0)
  | .none => some false
  | _ => none
noncomputable def truP (m : Mem) (x : AV) (K : Bool → Prop) : Prop := (t1 x).elim (TruK G m x K) K
noncomputable def isGlo (sc : Names) (x : Str) : Bool := sc.lookup x == some .globalImplicit
noncomputable def okM (o : Expr) (es : List Expr) (apos pos : Pos) : Bool := plainL es && (notCall o && (apos.endLine == pos.line))
noncomputable def nilL : List Expr → Bool
  | [] => true
  | _ => false
noncomputable def OkE (e : Expr) (L : Lc) (m : Mem) (K : AV → Mem → Prop) : Prop := ∃ v m', PE G.X G.D G.sc e L m v m' ∧ K v m'
noncomputable def OkT (e : Expr) (L : Lc) (m : Mem) (K : Bool → Mem → Prop) : Prop := ∃ b m', PT G.X G.D G.sc e L m b m' ∧ K b m'
noncomputable abbrev EvE := Expr → Lc → Mem → (AV → Mem → Prop) → Prop
noncomputable abbrev EvL := List Expr → Lc → Mem → (List AV → Mem → Prop) → Prop
noncomputable def kR (K : AV → Mem → Prop) (m : Mem) (r : AV) : Prop := K r m
noncomputable def kQ (K : Bool → Mem → Prop) (m : Mem) (r : Bool) : Prop := K r m
noncomputable def kB2 (op : Operator) (p : Pos) (K : AV → Mem → Prop) (x y : AV) (m2 : Mem) : Prop := cond (decide (p.line + 100000 ∈ G.mu)) (BinKM G (binaryOp op) m2 x y K) (binP G op m2 x y (kR K m2))
noncomputable def kB1 (ev : EvE) (op : Operator) (b : Expr) (p : Pos) (L : Lc) (K : AV → Mem → Prop) (x : AV) (m1 : Mem) : Prop := ev b L m1 (kB2 G op p K x)
noncomputable def kU (op : UnaryOp) (K : AV → Mem → Prop) (x : AV) (m1 : Mem) : Prop := UnK G (unaryOp op) m1 x (kR K m1)
noncomputable def kC2 (op : CmpOp) (K : AV → Mem → Prop) (x y : AV) (m2 : Mem) : Prop := cmpP G op m2 x y (kR K m2)
noncomputable def kC1 (ev : EvE) (op : CmpOp) (b : Expr) (L : Lc) (K : AV → Mem → Prop) (x : AV) (m1 : Mem) : Prop := ev b L m1 (kC2 G op K x)
noncomputable def kIv (ev : EvE) (a : Expr) (L : Lc) (m1 : Mem) (v : AV) (m' : Mem) : Prop := ev a L m1 (IsV v m')
noncomputable def kIf (ev : EvE) (a b : Expr) (L : Lc) (K : AV → Mem → Prop) (q : Bool) (m1 : Mem) : Prop := IfE q (kIv ev a L m1) (kIv ev b L m1) K
noncomputable def kTu (K : AV → Mem → Prop) (xs : List AV) (m1 : Mem) : Prop := K (.tup xs) m1
noncomputable def kLi (p : Pos) (es : List Expr) (K : AV → Mem → Prop) (xs : List AV) (m1 : Mem) : Prop := cond (decide (p.line ∈ G.mu) || nilL es) (K (.mref m1.length) (sn m1 (.lst xs))) (K (.lst xs) m1)
noncomputable def kP (K : Option Int → Mem → Prop) (x : AV) (m1 : Mem) : Prop := (toI x).elim False fun i => K (some i) m1
noncomputable abbrev EvP := Option Expr → Lc → Mem → (Option Int → Mem → Prop) → Prop
noncomputable def kS3 (K : AV → Mem → Prop) (x : AV) (i1 i2 : Option Int) (m3 : Mem) : Prop := SlcK G m3 i1 i2 none x (kR K m3)
noncomputable def kS2 (ev : EvP) (u : Option Expr) (L : Lc) (K : AV → Mem → Prop) (x : AV) (i1 : Option Int) (m2 : Mem) : Prop := ev u L m2 (kS3 G K x i1)
noncomputable def kS1 (ev : EvP) (l u : Option Expr) (L : Lc) (K : AV → Mem → Prop) (x : AV) (m1 : Mem) : Prop := ev l L m1 (kS2 G ev u L K x)
noncomputable def kZ4 (K : AV → Mem → Prop) (x : AV) (i1 i2 : Option Int) (s : AV) (m4 : Mem) : Prop := (toI s).elim False fun k => SlcK G m4 i1 i2 (some k) x (kR K m4)
noncomputable def kZ3 (ee : EvE) (st : Expr) (L : Lc) (K : AV → Mem → Prop) (x : AV) (i1 i2 : Option Int) (m3 : Mem) : Prop := ee st L m3 (kZ4 G K x i1 i2)
noncomputable def kZ2 (ee : EvE) (ev : EvP) (u : Option Expr) (st : Expr) (L : Lc) (K : AV → Mem → Prop) (x : AV) (i1 : Option Int) (m2 : Mem) : Prop := ev u L m2 (kZ3 G ee st L K x i1)
noncomputable def kZ1 (ee : EvE) (ev : EvP) (l u : Option Expr) (st : Expr) (L : Lc) (K : AV → Mem → Prop) (x : AV) (m1 : Mem) : Prop := ev l L m1 (kZ2 G ee ev u st L K x)
noncomputable def kX2 (K : AV → Mem → Prop) (x y : AV) (m2 : Mem) : Prop := SubK G m2 x y (kR K m2)
noncomputable def kX1 (ev : EvE) (b : Expr) (L : Lc) (K : AV → Mem → Prop) (x : AV) (m1 : Mem) : Prop := ev b L m1 (kX2 G K x)
noncomputable def kCa (L : Lc) (x : Str) (K : AV → Mem → Prop) (xs : List AV) (m1 : Mem) : Prop := (L.lookup x).elim (cond (isGlo G.sc x) (FnK G x m1 xs K) False) fun f => FnVK G f m1 xs K
noncomputable def kA2 (name : Str) (m1 : Mem) (a : AV) (K : AV → Mem → Prop) (xs : List AV) (m2 : Mem) : Prop := MtK G name m1 m2 a xs K
noncomputable def kA1 (evs : EvL) (name : Str) (es : List Expr) (L : Lc) (K : AV → Mem → Prop) (a : AV) (m1 : Mem) : Prop := evs es L m1 (kA2 G name m1 a K)
noncomputable def kE2 (K : List AV → Mem → Prop) (x : AV) (xs : List AV) (m2 : Mem) : Prop := K (x :: xs) m2
noncomputable def kE1 (evs : EvL) (es : List Expr) (L : Lc) (K : List AV → Mem → Prop) (x : AV) (m1 : Mem) : Prop := evs es L m1 (kE2 K x)
noncomputable def kN (K : Bool → Mem → Prop) (b : Bool) (m1 : Mem) : Prop := K (!b) m1
noncomputable def kD2 (op : CmpOp) (K : Bool → Mem → Prop) (x y : AV) (m2 : Mem) : Prop := cmpT G op m2 x y (kQ K m2)
noncomputable def kD1 (ev : EvE) (op : CmpOp) (b : Expr) (L : Lc) (K : Bool → Mem → Prop) (x : AV) (m1 : Mem) : Prop := ev b L m1 (kD2 G op K x)
noncomputable def kV (K : Bool → Mem → Prop) (v : AV) (m1 : Mem) : Prop := truP G m1 v (kQ K m1)
noncomputable abbrev EvB := BoolOp → List Expr → Lc → Mem → (Bool → Mem → Prop) → Prop
noncomputable def kBv (ev : EvB) (op : BoolOp) (es : List Expr) (L : Lc) (m1 : Mem) (b : Bool) : Prop := ev op es L m1 (IsV b m1)
noncomputable def kBo (ev : EvB) (op : BoolOp) (es : List Expr) (L : Lc) (K : Bool → Mem → Prop) (a : Bool) (m1 : Mem) : Prop := cond (nilL es) (K a m1) (match op with
  | .And => AndK a (kBv ev .And es L m1) (kQ K m1)
  | .Or => OrK a (kBv ev .Or es L m1) (kQ K m1))
mutual
noncomputable def wpE : Nat → Expr → Lc → Mem → (AV → Mem → Prop) → Prop
  | 0, e, L, m, K => OkE G e L m K
  | n + 1, e, L, m, K => match e with
    | .Constant (.int i) _ _ => K (.int i) m
    | .Constant (.str s) _ _ => K (.str s.cps.toList) m
    | .Constant (.bool b) _ _ => K (.bool b) m
    | .Constant .none _ _ => K .none m
    | .Name x _ => (L.lookup x).elim (cond (isGlo G.sc x) (GloK G x (fun av => K av m)) False) fun av => K av m
    | .BinOp a op b p => wpE n a L m (kB1 G (wpE n) op b p L K)
    | .UnaryOp op a _ => wpE n a L m (kU G op K)
    | .Compare a [op] [b] _ => cond (behindInMarks op b) False (wpE n a L m (kC1 G (wpE n) op b L K))
    | .IfExp t a b _ => wpT n t L m (kIf (wpE n) a b L K)
    | .Tuple es _ _ => cond (plainL es) (wpEs n es L m (kTu K)) False
    | .List es p => cond (plainL es) (wpEs n es L m (kLi G p es K)) False
    | .Subscript a (.Slice l u none _) _ => wpE n a L m (kS1 G (wpP n) l u L K)
    | .Subscript a (.Slice l u (some st) _) _ => wpE n a L m (kZ1 G (wpE n) (wpP n) l u st L K)
    | .Subscript a b _ => wpE n a L m (kX1 G (wpE n) b L K)
    | .Call (.Name x p) es [] pos => cond (plainL es) (wpEs n es L m (kCa G L x K)) False
    | .Call (.Attribute o name apos) es [] pos => cond (okM o es apos pos) (wpE n o L m (kA1 G (wpEs n) name es L K)) False
    | e => OkE G e L m K
noncomputable def wpEs : Nat → List Expr → Lc → Mem → (List AV → Mem → Prop) → Prop
  | 0, _, _, _, _ => False
  | n + 1, [], _, m, K => K [] m
  | n + 1, e :: es, L, m, K => wpE n e L m (kE1 (wpEs n) es L K)
noncomputable def wpP : Nat → Option Expr → Lc → Mem → (Option Int → Mem → Prop) → Prop
  | 0, _, _, _, _ => False
  | n + 1, none, _, m, K => K none m
  | n + 1, some e, L, m, K => wpE n e L m (kP K)
noncomputable def wpT : Nat → Expr → Lc → Mem → (Bool → Mem → Prop) → Prop
  | 0, e, L, m, K => OkT G e L m K
  | n + 1, e, L, m, K => match e with
    | .UnaryOp .Not a _ => wpT n a L m (kN K)
    | .BoolOp op es _ => wpB n op es L m K
    | .Compare a [op] [b] _ => cond (behindInMarks op b) False (wpE n a L m (kD1 G (wpE n) op b L K))
    | .Name x p => wpE n (.Name x p) L m (kV G K)
    | .Attribute a b c => wpE n (.Attribute a b c) L m (kV G K)
    | .Call a b c d => wpE n (.Call a b c d) L m (kV G K)
    | .BinOp a b c d => wpE n (.BinOp a b c d) L m (kV G K)
    | e => OkT G e L m K
noncomputable def wpB : Nat → BoolOp → List Expr → Lc → Mem → (Bool → Mem → Prop) → Prop
  | 0, _, _, _, _, _ => False
  | n + 1, op, es, L, m, K => match es with
    | [] => K (op == .And) m
    | e :: es => wpT n e L m (kBo (wpB n) op es L K)
end
end
end
section
open PySem PySem.W PyProof.Rows PySem.Calls PySem.SeqAt
private theorem star_c {e : Expr} (h : notStar e = true) (es : List Expr) (env : Env) : starEach (e :: es) env = (false, eval e env) :: starEach es env := by
  cases e <;> first | rfl | cases h
private theorem base_c {o : Expr} (h : notCall o = true) (name : Str) (env : Env) : attributeBase o name env (eval o env) = eval o env := by
  cases o <;> first | rfl | cases h
private theorem plain_pl {es : List Expr} (h : es.all notStar = true) : Pl es := by
  induction es with
  | nil => exact .nil
  | cons e es ih =>
    rw [List.all_cons, Bool.and_eq_true] at h
    exact .cons (star_c h.1 es) (ih h.2)
private theorem starB {es : List Expr} (h : es.all notStar = true) (pos : Pos) (env : Env) : (backTo pos (starEach es env)).all (fun x => !x.1) = true := by
  induction es with
  | nil => rfl
  | cons e es ih =>
    rw [List.all_cons, Bool.and_eq_true] at h
    rw [star_c h.1]
    exact Bool.and_eq_true_iff.mpr ⟨rfl, ih h.2⟩
private theorem plainAll {es : List Expr} (h : plainL es = true) : es.all notStar = true := (Bool.and_eq_true_iff.mp h).1
private theorem few_c {es : List Expr} (h : plainL es = true) (pos : Pos) : Few es pos := fun env => by
  have := of_decide_eq_true (Bool.and_eq_true_iff.mp h).2
  rw [starB (plainAll h)]
  exact decide_eq_true (by show es.length + 0 + 0 < 30; exact Nat.le_succ_of_le this)
private theorem plainSz {es : List Expr} (h : plainL es = true) : es.length ≤ 2 ^ 24 :=
  Nat.le_trans (Nat.le_of_lt (of_decide_eq_true (Bool.and_eq_true_iff.mp h).2)) (by decide)
section
variable {G : Cx}
private theorem elim_ok {α : Type} {o : Option α} {A : Prop} {B : α → Prop} (h : o.elim A B) : (o = none ∧ A) ∨ ∃ c, o = some c ∧ B c := by
  cases o with
  | none => exact .inl ⟨rfl, h⟩
  | some c => exact .inr ⟨c, rfl, h⟩
private theorem cond_t {b : Bool} {A : Prop} (h : cond b A False) : b = true ∧ A := by
  cases b with
  | true => exact ⟨rfl, h⟩
  | false => exact h.elim
private theorem cond_f {b : Bool} {A : Prop} (h : cond b False A) : b = false ∧ A := by
  cases b with
  | true => exact h.elim
  | false => exact ⟨rfl, h⟩
private theorem cond_e {b : Bool} {A B : Prop} (h : cond b A B) : (b = true ∧ A) ∨ (b = false ∧ B) := by
  cases b with
  | true => exact .inl ⟨rfl, h⟩
  | false => exact .inr ⟨rfl, h⟩
private theorem toI_ok {x : AV} {i : Int} (h : toI x = some i) : x = .int i := by
  cases x <;> cases h
  rfl
private theorem on2_ok {α : Type} {f : Int → Int → Option α} {x y : AV} {c : α} (h : on2 f x y = some c) : ∃ a b, x = .int a ∧ y = .int b ∧ f a b = some c := by
  unfold on2 at h
  cases ha : toI x with
  | none => rw [ha] at h; cases h
  | some a =>
    cases hb : toI y with
    | none => rw [ha, hb] at h; cases h
    | some b => rw [ha, hb] at h; exact ⟨a, b, toI_ok ha, toI_ok hb, h⟩
private theorem i2_ok {op : Operator} {a b c : Int} (e : i2 op a b = some c) : (op = .Add ∧ c = a + b) ∨ (op = .Sub ∧ c = a - b) := by
  cases op <;> cases e
  · exact .inl ⟨rfl, rfl⟩
  · exact .inr ⟨rfl, rfl⟩
private theorem binP_ok {op : Operator} {m : Mem} {x y : AV} {K : AV → Prop} (h : binP G op m x y K) : BinK G (binaryOp op) m x y K := by
  rcases elim_ok h with h | ⟨c, e, h⟩
  · exact h.2
  · obtain ⟨a, b, rfl, rfl, e⟩ := on2_ok e
    rcases i2_ok e with ⟨rfl, rfl⟩ | ⟨rfl, rfl⟩
    · exact ⟨.add, h⟩
    · exact ⟨.sub, h⟩
private theorem iopP_ok {op : Operator} {m : Mem} {x y : AV} {K : AV → Prop} (h : iopP G op m x y K) : BinK G (inplaceOp op) m x y K := by
  rcases elim_ok h with h | ⟨c, e, h⟩
  · exact h.2
  · obtain ⟨a, b, rfl, rfl, e⟩ := on2_ok e
    rcases i2_ok e with ⟨rfl, rfl⟩ | ⟨rfl, rfl⟩
    · exact ⟨.iadd, h⟩
    · exact ⟨.isub, h⟩
private theorem c2_ok (hD : 4 ≤ G.D) {op : CmpOp} {m : Mem} {x y : AV} {c : Bool} (e : on2 (c2 op) x y = some c) : Bin G.X G.D (compareOp op) m x y (.bool c) := by
  obtain ⟨a, b, rfl, rfl, e⟩ := on2_ok e
  cases op <;> cases e
  · exact .eqI hD
  · exact .neI hD
  · exact .lt
  · exact .le
  · exact .gt
private theorem cmpP_ok (hD : 4 ≤ G.D) {op : CmpOp} {m : Mem} {x y : AV} {K : AV → Prop} (h : cmpP G op m x y K) : BinK G (compareOp op) m x y K :=
  (elim_ok h).elim (fun h => h.2) fun ⟨_, e, h⟩ => ⟨c2_ok hD e, h⟩
private theorem cmpT_ok (hD : 4 ≤ G.D) {op : CmpOp} {m : Mem} {x y : AV} {K : Bool → Prop} (h : cmpT G op m x y K) : BinT G (compareOp op) m x y K :=
  (elim_ok h).elim (fun h => h.2) fun ⟨_, e, h⟩ => ⟨c2_ok hD e, h⟩
private theorem truP_ok {m : Mem} {x : AV} {K : Bool → Prop} (h : truP G m x K) : TruK G m x K := by
  rcases elim_ok h with h | ⟨c, e, h⟩
  · exact h.2
  · refine ⟨?_, h⟩
    cases x <;> cases e
    · exact .none
    · exact .bool
    · exact .int
private theorem OkE.go {e : Expr} {L : Lc} {m : Mem} {K : AV → Mem → Prop} (h : OkE G e L m K) {Z : Prop} (k : ∀ v m', PE G.X G.D G.sc e L m v m' → K v m' → Z) : Z := h.elim fun v h => h.elim fun m' h => k v m' h.1 h.2
private theorem OkE.mk {e : Expr} {L : Lc} {m m' : Mem} {v : AV} {K : AV → Mem → Prop} (h : PE G.X G.D G.sc e L m v m') (k : K v m') : OkE G e L m K := ⟨v, m', h, k⟩
private theorem OkT.go {e : Expr} {L : Lc} {m : Mem} {K : Bool → Mem → Prop} (h : OkT G e L m K) {Z : Prop} (k : ∀ v m', PT G.X G.D G.sc e L m v m' → K v m' → Z) : Z := h.elim fun v h => h.elim fun m' h => k v m' h.1 h.2
private theorem OkT.mk {e : Expr} {L : Lc} {m m' : Mem} {v : Bool} {K : Bool → Mem → Prop} (h : PT G.X G.D G.sc e L m v m') (k : K v m') : OkT G e L m K := ⟨v, m', h, k⟩
variable (G)
noncomputable def OkEs (es : List Expr) (L : Lc) (m : Mem) (K : List AV → Mem → Prop) : Prop := ∃ v m', PEs G.X G.D G.sc es L m v m' ∧ v.length = es.length ∧ K v m'
noncomputable def OkP (e : Option Expr) (L : Lc) (m : Mem) (K : Option Int → Mem → Prop) : Prop := ∃ v m', PP G.X G.D G.sc e L m v m' ∧ K v m'
variable {G}
private theorem OkEs.go {e : List Expr} {L : Lc} {m : Mem} {K : List AV → Mem → Prop} (h : OkEs G e L m K) {Z : Prop} (k : ∀ v m', PEs G.X G.D G.sc e L m v m' → v.length = e.length → K v m' → Z) : Z := h.elim fun v h => h.elim fun m' h => k v m' h.1 h.2.1 h.2.2
private theorem OkP.go {e : Option Expr} {L : Lc} {m : Mem} {K : Option Int → Mem → Prop} (h : OkP G e L m K) {Z : Prop} (k : ∀ v m', PP G.X G.D G.sc e L m v m' → K v m' → Z) : Z := h.elim fun v h => h.elim fun m' h => k v m' h.1 h.2
variable (G)
structure WpOk (n : Nat) : Prop where
  e : ∀ e L m K, wpE G n e L m K → OkE G e L m K
  es : ∀ es L m K, es.all notStar = true → wpEs G n es L m K → OkEs G es L m K
  p : ∀ e L m K, wpP G n e L m K → OkP G e L m K
  t : ∀ e L m K, wpT G n e L m K → OkT G e L m K
  b : ∀ op es L m K p, wpB G n op es L m K → OkT G (.BoolOp op es p) L m K
variable {G}
variable {L : Lc} {m m1 : Mem}
private theorem PE.globV {x : Str} {p : Pos} {av : AV} (hx : G.sc.lookup x = some .globalImplicit) (h : GloV G.X x av) : PE G.X G.D G.sc (.Name x p) L m av m :=
  h.elim fun zz q => .glob hx q.1 q.2
private theorem WpOk.zero : WpOk G 0 where
  e := fun zz zz zz zz h => h
  es := fun zz zz zz zz zz h => h.elim
  p := fun zz zz zz zz h => h.elim
  t := fun zz zz zz zz h => h
  b := fun zz zz zz zz zz zz h => h.elim
private theorem WpOk.succE (hD : 4 ≤ G.D) {n : Nat} (o : WpOk G n) {e : Expr} {K : AV → Mem → Prop} (h : wpE G (n + 1) e L m K) : OkE G e L m K := by
  cases e with
  | Constant c k p =>
    cases c with
    | int i => exact ⟨_, _, .int, h⟩
    | str s => exact ⟨_, _, .str, h⟩
    | bool b => exact ⟨_, _, .bool, h⟩
    | none => exact ⟨_, _, .none, h⟩
    | _ => exact h
  | Name x p =>
    rcases elim_ok h with h | ⟨c, e, h⟩
    · obtain ⟨hx, h⟩ := cond_t h.2
      cases h with
      | mk h1 h2 => exact .mk (.globV (beq_iff_eq.mp hx) h1) h2
    · exact ⟨_, _, .var e, h⟩
  | BinOp a op b p =>
    refine (o.e _ _ _ _ h).go fun x m1 ha h => ?_
    refine (o.e _ _ _ _ h).go fun y m2 hb h => ?_
    unfold kB2 at h
    cases q : decide (p.line + 100000 ∈ G.mu) with
    | true =>
      rw [q] at h
      cases h with
      | mk hr h => exact .mk (.bin ha hb hr) h
    | false =>
      rw [q] at h
      cases binP_ok h with
      | mk hr h => exact .mk (.bin ha hb hr) h
  | UnaryOp op a p =>
    refine (o.e _ _ _ _ h).go fun x m1 ha h => ?_
    cases h with
    | mk hr h => exact .mk (.un ha hr) h
  | Compare a ops cs p =>
    match ops, cs, h with
    | [op], [b], h =>
      obtain ⟨hs, h⟩ := cond_f h
      refine (o.e _ _ _ _ h).go fun x m1 ha h => ?_
      refine (o.e _ _ _ _ h).go fun y m2 hb h => ?_
      cases cmpP_ok hD h with
      | mk hr h => exact .mk (.cmp ha hb hr hs) h
    | [], _, h => exact h
    | _ :: _ :: _, _, h => exact h
    | [_], [], h => exact h
    | [_], _ :: _ :: _, h => exact h
  | IfExp t a b p =>
    refine (o.t _ _ _ _ h).go fun q m1 ht h => ?_
    cases h with
    | mk v m' h1 h2 h =>
      cases q with
      | true =>
        refine (o.e _ _ _ _ (h1 rfl)).go fun zz zz h1 e => ?_
        cases e
        exact .mk (.ifT ht h1) h
      | false =>
        refine (o.e _ _ _ _ (h2 rfl)).go fun zz zz h1 e => ?_
        cases e
        exact .mk (.ifF ht h1) h
  | Tuple es k p =>
    obtain ⟨hs, h⟩ := cond_t h
    refine (o.es _ _ _ _ (plainAll hs) h).go fun xs m1 h1 hl h => ?_
    exact ⟨_, _, .tup h1 (hl ▸ plainSz hs), h⟩
  | List es p =>
    obtain ⟨hs, h⟩ := cond_t h
    refine (o.es _ _ _ _ (plainAll hs) h).go fun xs m1 h1 hl h => ?_
    rcases cond_e h with h | h
    · exact ⟨_, _, .lstM h1 (hl ▸ plainSz hs), h.2⟩
    · exact ⟨_, _, .lst h1 (hl ▸ plainSz hs), h.2⟩
  | Subscript a b p =>
    have plain (hs : Plain b) (h : wpE G n a L m fun x m1 => wpE G n b L m1 fun y m2 => SubK G m2 x y fun r => K r m2) : OkE G (.Subscript a b p) L m K := by
      refine (o.e _ _ _ _ h).go fun x m1 ha h => ?_
      refine (o.e _ _ _ _ h).go fun y m2 hb h => ?_
      cases h with
      | mk hr h => exact .mk (.sub ha hb hr hs) h
    cases b with
    | Slice l u st q =>
      cases st with
      | none =>
        refine (o.e _ _ _ _ h).go fun x m1 ha h => ?_
        refine (o.p _ _ _ _ h).go fun i1 m2 hl h => ?_
        refine (o.p _ _ _ _ h).go fun i2 m3 hu h => ?_
        cases h with
        | mk hr h => exact .mk (.slice ha hl hu .none hr (fun zz zz => ⟨_, rfl⟩)) h
      | some st =>
        refine (o.e _ _ _ _ h).go fun x m1 ha h => ?_
        refine (o.p _ _ _ _ h).go fun i1 m2 hl h => ?_
        refine (o.p _ _ _ _ h).go fun i2 m3 hu h => ?_
        refine (o.e _ _ _ _ h).go fun s m4 hs h => ?_
        rcases elim_ok h with h | ⟨k, e, h⟩
        · exact h.2.elim
        · cases toI_ok e
          cases h with
          | mk hr h => exact .mk (.slice ha hl hu (.some hs) hr (fun zz zz => ⟨_, rfl⟩)) h
    | _ => exact plain (fun zz zz => rfl) h
  | Call f es kws pos =>
    cases kws with
    | cons _ _ => cases f <;> exact h
    | nil =>
      cases f with
      | Name x p =>
        obtain ⟨hs, h⟩ := cond_t h
        refine (o.es _ _ _ _ (plainAll hs) h).go fun xs m1 h1 hl h => ?_
        have ha : PA G.X G.D G.sc es L m xs m1 := ⟨h1, plain_pl (plainAll hs)⟩
        rcases elim_ok h with h | ⟨c, e, h⟩
        · obtain ⟨hx, h⟩ := cond_t h.2
          cases h with
          | mk h2 h => exact .mk (h2 _ _ _ _ _ _ (beq_iff_eq.mp hx) ha) h
        · cases h with
          | mk h2 h => exact .mk (h2 _ _ _ _ _ _ _ e ha) h
      | Attribute a name apos =>
        obtain ⟨hs, h⟩ := cond_t h
        unfold okM at hs
        rw [Bool.and_eq_true, Bool.and_eq_true] at hs
        refine (o.e _ _ _ _ h).go fun x m1 ha h => ?_
        refine (o.es _ _ _ _ (plainAll hs.1) h).go fun xs m2 h1 hl h => ?_
        cases h with
        | mk h2 h => exact .mk (h2 _ _ _ _ _ _ _ (base_c hs.2.1 _) (few_c hs.1 _) hs.2.2 ha ⟨h1, plain_pl (plainAll hs.1)⟩) h
      | _ => exact h
  | _ => exact h
private theorem WpOk.val {n : Nat} (o : WpOk G n) {e : Expr} {K : Bool → Mem → Prop} (he : ∀ env whole, isTrue e env whole = (do let v ← whole; standAt e.pos; holding [v] (truthy v)))
    (h : wpE G n e L m fun v m1 => truP G m1 v fun b => K b m1) : OkT G e L m K := by
  refine (o.e _ _ _ _ h).go fun v m1 h1 h => ?_
  cases truP_ok h with
  | mk h2 h => exact .mk (.val h1 h2 he) h
private theorem WpOk.succT (hD : 4 ≤ G.D) {n : Nat} (o : WpOk G n) {e : Expr} {K : Bool → Mem → Prop} (h : wpT G (n + 1) e L m K) : OkT G e L m K := by
  cases e with
  | UnaryOp op a p =>
    cases op with
    | Not =>
      refine (o.t _ _ _ _ h).go fun b m1 ha h => ?_
      exact ⟨_, _, .not ha, h⟩
    | _ => exact h
  | BoolOp op es p => exact o.b _ _ _ _ _ _ h
  | Compare a ops cs p =>
    match ops, cs, h with
    | [op], [b], h =>
      obtain ⟨hs, h⟩ := cond_f h
      refine (o.e _ _ _ _ h).go fun x m1 ha h => ?_
      refine (o.e _ _ _ _ h).go fun y m2 hb h => ?_
      cases cmpT_ok hD h with
      | mk hr h => exact .mk (.cmp ha hb hr hs) h
    | [], _, h => exact h
    | _ :: _ :: _, _, h => exact h
    | [_], [], h => exact h
    | [_], _ :: _ :: _, h => exact h
  | Name _ _ => exact o.val (fun zz zz => rfl) h
  | Attribute _ _ _ => exact o.val (fun zz zz => rfl) h
  | Call _ _ _ _ => exact o.val (fun zz zz => rfl) h
  | BinOp _ _ _ _ => exact o.val (fun zz zz => rfl) h
  | _ => exact h
private theorem WpOk.succB {n : Nat} (o : WpOk G n) {op : BoolOp} {es : List Expr} {K : Bool → Mem → Prop} (p : Pos) (h : wpB G (n + 1) op es L m K) : OkT G (.BoolOp op es p) L m K := by
  cases es with
  | nil =>
    cases op with
    | And => exact ⟨_, _, .andNil, h⟩
    | Or => exact ⟨_, _, .orNil, h⟩
  | cons e es =>
    refine (o.t _ _ _ _ h).go fun a m1 h1 h => ?_
    cases es with
    | nil =>
      cases op with
      | And =>
        cases a with
        | true => exact ⟨_, _, .andT h1 .andNil, h⟩
        | false => exact ⟨_, _, .andF h1, h⟩
      | Or =>
        cases a with
        | true => exact ⟨_, _, .orT h1, h⟩
        | false => exact ⟨_, _, .orF h1 .orNil, h⟩
    | cons e2 es =>
      cases op with
      | And =>
        cases h with
        | mk hr h =>
          cases a with
          | false => exact .mk (.andF h1) h
          | true =>
            refine (o.b _ _ _ _ _ p (hr rfl)).go fun zz zz h2 e => ?_
            cases e
            exact .mk (.andT h1 h2) h
      | Or =>
        cases h with
        | mk hr h =>
          cases a with
          | true => exact .mk (.orT h1) h
          | false =>
            refine (o.b _ _ _ _ _ p (hr rfl)).go fun zz zz h2 e => ?_
            cases e
            exact .mk (.orF h1 h2) h
private theorem wpOk (hD : 4 ≤ G.D) : ∀ n, WpOk G n
  | 0 => .zero
  | n + 1 => { e := fun zz zz zz zz => (wpOk hD n).succE hD, t := fun zz zz zz zz => (wpOk hD n).succT hD, b := fun zz zz zz zz zz p => (wpOk hD n).succB p
               p := fun e L m K h => by
                 cases e with
                 | none => exact ⟨_, _, .none, h⟩
                 | some e =>
                   refine ((wpOk hD n).e _ _ _ _ h).go fun x m1 h1 h => ?_
                   rcases elim_ok h with h | ⟨i, e, h⟩
                   · exact h.2.elim
                   · exact ⟨_, _, .some (toI_ok e ▸ h1), h⟩
               es := fun es L m K hs h => by
                 cases es with
                 | nil => exact ⟨_, _, .nil, rfl, h⟩
                 | cons e es =>
                   rw [List.all_cons, Bool.and_eq_true] at hs
                   refine ((wpOk hD n).e _ _ _ _ h).go fun x m1 h1 h => ?_
                   refine ((wpOk hD n).es _ _ _ _ hs.2 h).go fun xs m2 h2 hl h => ?_
                   exact ⟨_, _, .cons' (star_c hs.1 es) h1 h2, congrArg (· + 1) hl, h⟩ }
end
end
section
open PySem PySem.W PyProof.Rows PySem.Calls PySem.SeqAt
set_option backward.match.sparseCases false in
noncomputable def notComp : Expr → Bool
  | .ListComp _ _ _ _ => false
  | .SetComp _ _ _ _ => false
  | .DictComp _ _ _ _ _ => false
  | _ => true
private theorem noSwap_c {e : Expr} (h : notComp e = true) : NoSwap e := by
  cases e <;> first | exact fun zz zz zz => rfl | cases h
set_option backward.match.sparseCases false in
noncomputable def nameOf : Expr → Option Str
  | .Name x _ => some x
  | _ => none
private theorem nameOf_c {e : Expr} {x : Str} (h : nameOf e = some x) : ∃ p, e = .Name x p := by
  cases e <;> cases h
  exact ⟨_, rfl⟩
noncomputable def oneOf : List Expr → Option Expr
  | [e] => some e
  | _ => none
private theorem oneOf_c {es : List Expr} {e : Expr} (h : oneOf es = some e) : es = [e] := by
  match es, h with
  | [_], h => cases h; rfl
noncomputable def Nxt (W : Lc → Mem → Prop) (P : RP) : RP
  | .next, L, m => W L m
  | fl, L, m => P fl L m
noncomputable abbrev EvS := List Stmt → Lc → Mem → RP → Prop
noncomputable def kSe (wS : EvS) (rest : List Stmt) (x : Str) (L : Lc) (P : RP) (av : AV) (m1 : Mem) : Prop := wS rest (bd x av L) m1 P
noncomputable def kAr (wS : EvS) (rest : List Stmt) (x : Str) (L : Lc) (m1 : Mem) (P : RP) (r : AV) : Prop := wS rest (bd x r L) m1 P
noncomputable def kAg (G : Cx) (wS : EvS) (op : Operator) (rest : List Stmt) (x : Str) (a : AV) (L : Lc) (P : RP) (b : AV) (m1 : Mem) : Prop := iopP G op m1 a b (kAr wS rest x L m1 P)
noncomputable def kEx (wS : EvS) (rest : List Stmt) (L : Lc) (P : RP) (v : AV) (m1 : Mem) : Prop := NoneK (wS rest L m1 P) v
noncomputable def kRt (L : Lc) (P : RP) (v : AV) (m1 : Mem) : Prop := P (.ret v) L m1
noncomputable def kNx (wS : EvS) (rest : List Stmt) (P : RP) (L : Lc) (m : Mem) : Prop := wS rest L m P
noncomputable def kIS (wS : EvS) (a b rest : List Stmt) (L : Lc) (P : RP) (q : Bool) (m1 : Mem) : Prop := IfS q (wS a L m1 (Nxt (kNx wS rest P) P)) (wS b L m1 (Nxt (kNx wS rest P) P))
section
variable (G : Cx) (k : Nat)
noncomputable def wpS : Nat → List Stmt → Lc → Mem → RP → Prop
  | 0, sts, L, m, P => W G.X G.D G.sc sts L m P
  | n + 1, sts, L, m, P => match sts with
    | [] => P .next L m
    | st :: rest => match st with
      | .Assign ts e _ => ((oneOf ts).bind nameOf).elim (W G.X G.D G.sc (st :: rest) L m P) fun x => cond (okB G.sc x && notComp e) (wpE G k e L m (kSe (wpS n) rest x L P)) (W G.X G.D G.sc (st :: rest) L m P)
      | .AugAssign t op e _ => (nameOf t).elim (W G.X G.D G.sc (st :: rest) L m P) fun x => (L.lookup x).elim False fun a => cond (okB G.sc x) (wpE G k e L m (kAg G (wpS n) op rest x a L P)) False
      | .Expr e _ => cond (notComp e) (wpE G k e L m (kEx (wpS n) rest L P)) False
      | .Return e _ => e.elim (P (.ret .none) L m) fun e => wpE G k e L m (kRt L P)
      | .Continue _ => P .cont L m
      | .If t a b _ => wpT G k t L m (kIS (wpS n) a b rest L P)
      | _ => W G.X G.D G.sc (st :: rest) L m P
end
section
variable {G : Cx} {k : Nat} {L : Lc} {m : Mem} {P : RP}
private theorem W.to {sts rest : List Stmt} {n : Nat} (o : ∀ {sts : List Stmt} {L : Lc} {m : Mem} {P : RP}, wpS G k n sts L m P → W G.X G.D G.sc sts L m P)
    (h : wpS G k n sts L m (Nxt (fun L m => wpS G k n rest L m P) P)) : W G.X G.D G.sc sts L m (Then G.X G.D G.sc rest P) :=
  (o h).mono fun fl L m q => by
    cases fl with
    | next => exact o q
    | _ => exact q
private theorem wpS_ok (hD : 4 ≤ G.D) : ∀ {n : Nat} {sts : List Stmt} {L : Lc} {m : Mem} {P : RP}, wpS G k n sts L m P → W G.X G.D G.sc sts L m P
  | 0, _, _, _, _, h => h
  | n + 1, [], _, _, _, h => .nil h
  | n + 1, st :: rest, L, m, P, h => by
    cases st with
    | Assign ts e p =>
      rcases elim_ok h with q | ⟨x, hx, q⟩
      · exact q.2
      · rcases cond_e q with ⟨hc, q1⟩ | ⟨_, q1⟩
        · rw [Bool.and_eq_true] at hc
          obtain ⟨t, ht, hx⟩ := Option.bind_eq_some_iff.mp hx
          cases oneOf_c ht
          obtain ⟨p', rfl⟩ := nameOf_c hx
          exact ((wpOk hD k).e _ _ _ _ q1).go fun v m1 h1 h => .set h1 (noSwap_c hc.2) hc.1 (wpS_ok hD h)
        · exact q1
    | AugAssign t op e p =>
      rcases elim_ok h with q | ⟨x, hx, q⟩
      · exact q.2
      · rcases elim_ok q with q | ⟨a, ha, q⟩
        · exact q.2.elim
        · obtain ⟨hc, q⟩ := cond_t q
          obtain ⟨p', rfl⟩ := nameOf_c hx
          exact ((wpOk hD k).e _ _ _ _ q).go fun v m1 h1 h => by
            cases iopP_ok h with
            | mk hr h => exact .aug ha h1 hr hc (wpS_ok hD h)
    | Expr e p =>
      obtain ⟨hc, h⟩ := cond_t h
      exact ((wpOk hD k).e _ _ _ _ h).go fun v m1 h1 h => by
        cases h with
        | mk h => exact .expr h1 (noSwap_c hc) (wpS_ok hD h)
    | Return e p =>
      cases e with
      | none => exact .retN h
      | some e => exact ((wpOk hD k).e _ _ _ _ h).go fun v m1 h1 h => .ret h1 h
    | Continue p => exact .cont h
    | If t a b p =>
      exact ((wpOk hD k).t _ _ _ _ h).go fun q m1 h1 h => by
        cases h with
        | mk ha hb => exact .ifs h1 (fun e => .to (wpS_ok hD) (ha e)) fun e => .to (wpS_ok hD) (hb e)
    | _ => exact h
end
end
section
open PySem PySem.W PyProof.Rows PySem.Calls PySem.SeqAt
section
variable {X : Amb} {D : Nat} {m m1 m2 m3 : Mem} {x : Str} {avs : List AV} {r : AV}
private theorem Fn.b {id : String} (hg : Glo X.B x (.builtin id)) (ho : Call X D (opB id) m avs r m1) : Fn X D x m avs r m1 := fun zz zz zz zz zz zz hx ha => .callB hg ha ho hx
private theorem Fn.t {id : String} (hg : Glo X.B x (.type id)) (ho : Call X D (opT id) m avs r m1) : Fn X D x m avs r m1 := fun zz zz zz zz zz zz hx ha => .callT hg ha ho hx
private theorem Fn.f {F : Fd} {q : Str} {cl : List (Str × Addr)} {dv : Value} {a : Addr} (hg : Glo X.B x (.ref a)) (hF : FnAt X.B F q cl dv a) (ho : Call X D (opF a) m avs r m1) : Fn X D x m avs r m1 := fun zz zz zz zz zz zz hx ha => .call hg hF ha ho hx
private theorem Mt.of {name : Str} {T id : String} {a : AV} (mo : MethOk T name id) (hk : IsOf T m1 a) (ho : Call X D (opB id) m2 (a :: avs) r m3) : Mt X D name m1 m2 a avs r m3 := fun zz zz zz zz zz zz zz hb hf hl h1 h2 => .meth mo h1 hk h2 ho hb hf hl
structure FnG (X : Amb) (F : Fd) (a : Addr) : Prop where
  g : Glo X.B F.name (.ref a)
  f : FnAt X.B F F.name [] .none a
noncomputable def KeptA (m : Mem) (r r' : AV) (m' : Mem) : Prop := ∀ M, Kept M m r' r m'
private theorem FnG.mk' {F : Fd} {a : Addr} (hf : FnG X F a) (lim : NoLim X.B) (hD : 4 ≤ D) {ps : List Str} (mu : List Nat) (ok : fnOkB ps F.scope = true) (hbind : ∀ doc pm cd ct, BindN (fnXD F F.name [] .none doc pm cd ct) ps [] []) (hl : avs.length = ps.length)
    (hb : wpS ⟨X, D, F.scope.names, mu⟩ 40 40 F.body (ps.zip avs) m (Ret (KeptA m r))) : Fn X (D + 1) F.name m avs r m :=
  .f hf.g hf.f ((hf.f.call lim (fnOk ok) hbind hl (wpS_ok (G := ⟨X, D, F.scope.names, mu⟩) hD hb)).keep fun zz zz M h => h M)
private theorem KeptA.of {r' : AV} {g : Mem} (h : ∀ M, Frz M m.length (m ++ g) r' r) : KeptA m r r' (m ++ g) := fun M => .mk (h M)
private theorem KeptA.same (h : ∀ M, Frz M m.length m r r) : KeptA m r r m := fun M => by
  have := Kept.mk (M := M) (m := m) (g := []) (r' := r) (r := r)
  rw [List.append_nil] at this
  exact this (h M)
private theorem KeptA.s {l : List Nat} : KeptA m (.str l) (.str l) m := .same fun zz => .str l
private theorem KeptA.i {i : Int} : KeptA m (.int i) (.int i) m := .same fun zz => .int i
private theorem KeptA.b {b : Bool} : KeptA m (.bool b) (.bool b) m := .same fun zz => .bool b
private theorem KeptA.sn1 {x : AObj} {r' : AV} (h : ∀ M, Frz M m.length (sn m x) r' r) : KeptA m r r' (sn m x) := .of h
private theorem KeptA.sn2 {x y : AObj} {r' : AV} (h : ∀ M, Frz M m.length (sn (sn m x) y) r' r) : KeptA m r r' (sn (sn m x) y) := by
  have e : sn (sn m x) y = m ++ [x, y] := List.append_assoc m [x] [y]
  rw [e] at h ⊢
  exact .of h
private theorem KeptA.s1 {l : List Nat} {x : AObj} : KeptA m (.str l) (.str l) (sn m x) := .of fun zz => .str l
private theorem sn_get (m : Mem) (x : AObj) : (sn m x)[m.length]? = some x := get_app0 m [x]
private theorem sn_set (m : Mem) (x y : AObj) : (sn m x).set m.length y = sn m y := set_app0 m [x] y
private theorem sn_len (m : Mem) (x : AObj) : (sn m x).length = m.length + 1 := by unfold sn; rw [List.length_append]; rfl
private theorem sn_get1 (m : Mem) (x y : AObj) : (sn (sn m x) y)[m.length]? = some x := by
  unfold sn; rw [List.append_assoc]; exact get_app0 m _
private theorem sn_set1 (m : Mem) (x y z : AObj) : (sn (sn m x) y).set m.length z = sn (sn m z) y := by
  unfold sn; rw [List.append_assoc, set_app0, List.append_assoc]; rfl
end
section
variable {X : Amb} {D : Nat} {m m1 m2 m3 : Mem} {name : Str} {id : String} {avs : List AV} {r : AV} {i : Nat} {xs ys : List AV} {x : AV}
private theorem Mt.l (slot : Slot "list" name id) (ty : typeOf (.builtin id) = pure (.type "method_descriptor")) (e : m1[i]? = some (.lst ys)) (ho : Call X D (opB id) m2 (.mref i :: avs) r m3) : Mt X D name m1 m2 (.mref i) avs r m3 := .of ⟨F.plainAttrs_list, slot, ty⟩ (.mref e) ho
private theorem Mt.f (slot : Slot "list" name id) (ty : typeOf (.builtin id) = pure (.type "method_descriptor")) (ho : Call X D (opB id) m2 (.lst ys :: avs) r m3) : Mt X D name m1 m2 (.lst ys) avs r m3 := .of ⟨F.plainAttrs_list, slot, ty⟩ .lst ho
private theorem Mt.s {l : List Nat} (slot : Slot "str" name id) (ty : typeOf (.builtin id) = pure (.type "method_descriptor")) (ho : Call X D (opB id) m2 (.str l :: avs) r m3) : Mt X D name m1 m2 (.str l) avs r m3 := .of ⟨F.plainAttrs_str, slot, ty⟩ .str ho
private theorem Mt.append (e1 : m1[i]? = some (.lst ys)) (e : m2[i]? = some (.lst xs)) (hz : xs.length ≤ 2 ^ 23) (hm : m2.set i (.lst (xs ++ [x])) = m3) : Mt X D "append" m1 m2 (.mref i) [x] .none m3 := hm ▸ .l F.slot_list_append F.type_list_append e1 (.append e hz)
private theorem Mt.appendN {m : Mem} (hz : xs.length ≤ 2 ^ 23) : Mt X D "append" (sn m (.lst xs)) (sn m (.lst xs)) (.mref m.length) [x] .none (sn m (.lst (xs ++ [x]))) := .append (sn_get _ _) (sn_get _ _) hz (sn_set _ _ _)
private theorem Mt.pop (e : m2[i]? = some (.lst (xs ++ [x]))) (e1 : m1[i]? = some (.lst ys)) (hz : xs.length ≤ 2 ^ 23) (hm : m2.set i (.lst xs) = m3) : Mt X D "pop" m1 m2 (.mref i) [] x m3 := hm ▸ .l F.slot_list_pop F.type_list_pop e1 (.pop e hz)
private theorem Mt.pop0 (e : m2[i]? = some (.lst (x :: xs))) (e1 : m1[i]? = some (.lst ys)) (hz : xs.length ≤ 2 ^ 23) (hm : m2.set i (.lst xs) = m3) : Mt X D "pop" m1 m2 (.mref i) [.int 0] x m3 := hm ▸ .l F.slot_list_pop F.type_list_pop e1 (.pop0 e hz)
private theorem Mt.extend (e1 : m1[i]? = some (.lst ys)) {zs : List AV} (e : m2[i]? = some (.lst xs)) (hz : xs.length + zs.length ≤ 2 ^ 23) (hm : m2.set i (.lst (xs ++ zs)) = m3) : Mt X D "extend" m1 m2 (.mref i) [.lst zs] .none m3 := hm ▸ .l F.slot_list_extend F.type_list_extend e1 (.extend e hz)
private theorem Mt.reverse (e : m1[i]? = some (.lst xs)) (hz : xs.length ≤ 2 ^ 23) (hm : m1.set i (.lst xs.reverse) = m3) : Mt X D "reverse" m1 m1 (.mref i) [] .none m3 := hm ▸ .l F.slot_list_reverse F.type_list_reverse e (.reverse e hz)
private theorem Mt.count {l : List Nat} {c : Nat} : Mt X D "count" m1 m2 (.str l) [.str [c]] (.int (l.count c)) m2 := .s F.slot_str_count F.type_str_count .count
private theorem Mt.join {zs : List (List Nat)} (hz : (zs.map List.length).sum ≤ 2 ^ 24) : Mt X D "join" m1 m2 (.str []) [.lst (zs.map .str)] (.str zs.flatten) m2 := .s F.slot_str_join F.type_str_join (.join hz)
private theorem Mt.join' {zs : List (List Nat)} (h : xs = zs.map .str) (hz : (zs.map List.length).sum ≤ 2 ^ 24) : Mt X D "join" m1 m2 (.str []) [.lst xs] (.str zs.flatten) m2 := h ▸ .join hz
private theorem Mt.joinM {zs : List (List Nat)} (e : m2[i]? = some (.lst (zs.map .str))) (hz : (zs.map List.length).sum ≤ 2 ^ 24) : Mt X D "join" m1 m2 (.str []) [.mref i] (.str zs.flatten) m2 := .s F.slot_str_join F.type_str_join (.joinM e hz)
private theorem Mt.bits {a : Int} : Mt X D "bit_length" m1 m2 (.int a) [] (.int (Builtin.Int.intBits a)) m2 := .of ⟨F.plainAttrs_int, F.slot_int_bit_length, F.type_int_bit_length⟩ .int .bits
private theorem Mt.index {zs : List (List Nat)} {y : List Nat} {j : Nat} (hz : zs.length ≤ 2 ^ 23) (hj : zs[j]? = some y) (hf : ∀ i z, i < j → zs[i]? = some z → z ≠ y) : Mt X D "index" m1 m2 (.lst (zs.map .str)) [.str y] (.int j) m2 := .f F.slot_list_index F.type_list_index (.index hz hj hf)
end
end
section
open PySem PySem.W PyProof.Rows PySem.Calls PySem.SeqAt
noncomputable def Sub0 (L0 L : Lc) : Prop := ∀ x v, L0.lookup x = some v → L.lookup x = some v
private theorem Sub0.nil {L : Lc} : Sub0 [] L := nofun
private theorem Sub0.cons {x : Str} {v : AV} {L0 L : Lc} (h : L.lookup x = some v) (r : Sub0 L0 L) : Sub0 (bd x v L0) L := fun y w q =>
  (lookup_set q).elim (fun e => e.1 ▸ e.2 ▸ h) fun e => r y w e.2
private theorem Sub0.rf : ∀ {L0 L : Lc}, L0.map (fun p => L.lookup p.1) = L0.map (fun p => some p.2) → Sub0 L0 L
  | [], _, _ => .nil
  | (_, _) :: _, _, h => .cons (List.cons.inj h).1 (.rf (List.cons.inj h).2)
inductive Cut {σ : Type} (I : σ → Prop) (Lf : σ → Lc) (mf : σ → Mem) (L : Lc) (m : Mem) : Prop
  | mk (s : σ) : I s → m = mf s → Sub0 (Lf s) L → Cut I Lf mf L m
section
variable {G : Cx} {L : Lc} {m m1 : Mem} {P : RP} {e : Expr} {av : AV} {k : Nat}
private theorem PE.wp (hD : 4 ≤ G.D) (h : wpE G k e L m (IsV av m1)) : PE G.X G.D G.sc e L m av m1 :=
  ((wpOk hD k).e _ _ _ _ h).go fun zz zz h1 h => by cases h; exact h1
private theorem PT.wp {b : Bool} (hD : 4 ≤ G.D) (h : wpT G k e L m (IsV b m1)) : PT G.X G.D G.sc e L m b m1 :=
  ((wpOk hD k).t _ _ _ _ h).go fun zz zz h1 h => by cases h; exact h1
noncomputable def TurnW (G : Cx) (tgt : Expr) (body : List Stmt) (L : Lc) (m : Mem) (x : AV) (P : RP) : Prop := ∃ L', Asg G.X G.D G.sc G.sc tgt L x L' ∧ wpS G 40 40 body L' m P
noncomputable def LoopW (G : Cx) (rest : List Stmt) (P : RP) (J : Lc → Mem → Prop) : RP := Loop J (Nxt (kNx (wpS G 40 40) rest P) P)
private theorem W.loop (hD : 4 ≤ G.D) {sts rest : List Stmt} {J J' : Lc → Mem → Prop} (h : wpS G 40 40 sts L m (LoopW G rest P J)) (hJ : ∀ L m, J L m → J' L m) : W G.X G.D G.sc sts L m (Loop J' (Then G.X G.D G.sc rest P)) := (wpS_ok hD h).mono fun fl L m q => by
  cases fl with
  | next => exact hJ _ _ q
  | cont => exact hJ _ _ q
  | brk => exact wpS_ok hD q
  | ret v => exact q
private theorem W.forP {tgt iter : Expr} {body rest : List Stmt} {p : Pos} {α σ : Type} {f : α → AV} {xs : List α} (hD : 4 ≤ G.D) (hi : PI G.X G.D G.sc tgt iter L m (xs.map f) m1) (Lf : Nat → σ → Lc) (mf : Nat → σ → Mem) (I : Nat → σ → Prop) (h0 : Cut (I 0) (Lf 0) (mf 0) L m1)
    (hs : ∀ k x s, xs[k]? = some x → I k s → TurnW G tgt body (Lf k s) (mf k s) (f x) (LoopW G rest P (Cut (I (k + 1)) (Lf (k + 1)) (mf (k + 1))))) (he : ∀ s, I xs.length s → wpS G 40 40 rest (Lf xs.length s) (mf xs.length s) P) (hf : ∀ env x, foldedSetIterable iter env x = pure x) : W G.X G.D G.sc (.For tgt iter body [] p :: rest) L m P :=
  .for hi (fun k => Cut (I k) (Lf k) (mf k)) h0 (fun k x L m hx i => by
    cases i with
    | mk s i e z => exact e ▸ (hs k x s hx i).elim fun L' h => .mk (fun env own A c m v R T F r Q E q => h.1 env own A c m v R T (F.weak z) r Q E q) (.loop hD h.2 fun zz zz h => h)) (fun L m i => by
    cases i with
    | mk s i e z => exact e ▸ (wpS_ok hD (he s i)).weak z) hf
private theorem W.forW {tgt iter : Expr} {body rest : List Stmt} {p : Pos} {α σ : Type} {f : α → AV} {xs : List α} (hD : 4 ≤ G.D) (hi : wpE G 40 iter L m (IsV av m1)) (hv : ItV G.X G.D tgt m1 av (xs.map f)) (Lf : Nat → σ → Lc) (mf : Nat → σ → Mem) (I : Nat → σ → Prop) (h0 : Cut (I 0) (Lf 0) (mf 0) L m1)
    (hs : ∀ k x s, xs[k]? = some x → I k s → TurnW G tgt body (Lf k s) (mf k s) (f x) (LoopW G rest P (Cut (I (k + 1)) (Lf (k + 1)) (mf (k + 1))))) (he : ∀ s, I xs.length s → wpS G 40 40 rest (Lf xs.length s) (mf xs.length s) P) (hf : ∀ env x, foldedSetIterable iter env x = pure x) : W G.X G.D G.sc (.For tgt iter body [] p :: rest) L m P :=
  .forP hD (.of (.wp hD hi) hv) Lf mf I h0 hs he hf
noncomputable def kWh (q : Bool) (w : Mem → RP → Prop) (P : RP) (b : Bool) (m' : Mem) : Prop := b = q ∧ w m' P
inductive WhlW (G : Cx) (t : Expr) (body rest : List Stmt) (J : Lc → Mem → Prop) (P : RP) (L : Lc) (m : Mem) : Prop
  | go : wpT G 40 t L m (kWh true (wpS G 40 40 body L) (LoopW G rest P J)) → WhlW G t body rest J P L m
  | no : wpT G 40 t L m (kWh false (wpS G 40 40 rest L) P) → WhlW G t body rest J P L m
noncomputable def Less {σ : Type} (I : Nat → σ → Prop) (Lf : σ → Lc) (mf : σ → Mem) (k : Nat) (L : Lc) (m : Mem) : Prop := ∃ j, j < k ∧ Cut (I j) Lf mf L m
private theorem PT.weak {L0 : Lc} {b : Bool} (h : PT G.X G.D G.sc e L0 m b m1) (s : Sub0 L0 L) : PT G.X G.D G.sc e L m b m1 := fun env A c T => h env A c ⟨T.R, { T.N with var := fun x v e => T.N.var x v (s x v e) }, T.S⟩
private theorem W.whileW {t : Expr} {body rest : List Stmt} {p : Pos} {σ : Type} (hD : 4 ≤ G.D) (Lf : σ → Lc) (mf : σ → Mem) (I : Nat → σ → Prop) (n : Nat) (h0 : Cut (I n) Lf mf L m) (hs : ∀ k s, I k s → WhlW G t body rest (Less I Lf mf k) P (Lf s) (mf s)) : W G.X G.D G.sc (.While t body [] p :: rest) L m P :=
  .while (fun k => Cut (I k) Lf mf) n h0 fun k L m i => by
    cases i with
    | mk s i e z =>
      subst e
      cases hs k s i with
      | go h => exact ((wpOk hD 40).t _ _ _ _ h).go fun b m' h1 h => .go ((h.1 ▸ h1).weak z) ((W.loop hD h.2 fun zz zz h => h).weak z)
      | no h => exact ((wpOk hD 40).t _ _ _ _ h).go fun b m' h1 h => .no ((h.1 ▸ h1).weak z) ((wpS_ok hD h.2).weak z)
private theorem ItV.rng' {tgt : Expr} {n : Nat} (hn : n ≤ 2 ^ 40) : ItV G.X G.D tgt m (.rng 0 n) ((List.range n).map fun (i : Nat) => .int i) := .rng hn
private theorem ItV.str' {tgt : Expr} {l : List Nat} : ItV G.X G.D tgt m (.str l) (l.map fun c => .str [c]) := .str
end
end
section
open PySem PySem.W PyProof.Rows PySem.Calls PySem.SeqAt
section
variable {G : Cx} {L : Lc} {m m1 m2 mF : Mem} {tgt iter elt : Expr} {ifs : List Expr} {scope : Scope} {pos p p' : Pos} {P : RP} {rest : List Stmt} {K : AV → Mem → Prop} {av : AV}
private theorem seen_sub {names : Names} {x : Str} {v : AV} (hx : okB names x = true) : ∀ y w, (seen names L).lookup y = some w → (bd x v (seen names L)).lookup y = some w := fun y w h => by
  show List.lookup y ((x, v) :: _) = _
  rw [List.lookup_cons]
  cases e : y == x with
  | true =>
    have := (seen_lookup h).2
    rw [beq_iff_eq.mp e] at this
    rcases nameOk hx with q | q <;> rw [this] at q <;> cases q
  | false => exact h
section
variable {X : Amb} {D : Nat}
private theorem AsgC.name {sc names : Names} {x : Str} {p : Pos} {av : AV} (hx : okB names x = true) : AsgC X D sc names (.Name x p) (seen names L) av (bd x av (seen names L)) := ⟨.name hx, seen_sub hx⟩
end
noncomputable def Cx.inner (G : Cx) (names : Names) : Cx := ⟨G.X, G.D, relN G.sc names, G.mu⟩
noncomputable def wpI (G : Cx) (ifs : List Expr) (L : Lc) (m : Mem) (K : Bool → Mem → Prop) : Prop := match ifs with
  | [] => K true m
  | [t] => wpT G 40 t L m K
  | _ => False
private theorem wpI_ok (hD : 4 ≤ G.D) {K : Bool → Mem → Prop} (h : wpI G ifs L m K) : ∃ b m', PTs G.X G.D G.sc ifs L m b m' ∧ K b m' := by
  match ifs, h with
  | [], h => exact ⟨_, _, .nil, h⟩
  | [t], h => exact ((wpOk hD 40).t _ _ _ _ h).go fun b m' h1 h => ⟨_, _, .one h1, h⟩
noncomputable def TurnL (G : Cx) (names : Names) (tgt elt : Expr) (ifs : List Expr) (L : Lc) (x : AV) (m : Mem) (K : AV → Mem → Prop) (S : Mem → Prop) : Prop :=
  ∃ L', AsgC G.X G.D G.sc names tgt L x L' ∧ ∃ q m2, PTs G.X G.D G.sc ifs L' m q m2 ∧ (q = true → OkE G elt L' m2 K) ∧ (q = false → S m2)
private theorem turnsL {α : Type} {f : α → AV} {xs : List α} {names : Names} (I : Nat → List AV → Mem → Prop) (hz : xs.length ≤ 2 ^ 23)
    (hs : ∀ k x ys m, xs[k]? = some x → I k ys m → TurnL G names tgt elt ifs L (f x) m (fun y m3 => I (k + 1) (ys ++ [y]) m3) fun m2 => I (k + 1) ys m2) :
    ∀ (r : List α) (k : Nat) (ys : List AV) (m : Mem), xs.drop k = r → ys.length ≤ k → I k ys m → ∃ zs mF, CL G.X G.D G.sc names tgt ifs L AccL (emitL elt) (r.map f) ys m zs mF ∧ I (k + r.length) zs mF
  | [], k, ys, m, _, _, i => ⟨ys, m, .nil, i⟩
  | x :: r, k, ys, m, hr, hl, i => by
    have hx : xs[k]? = some x := by
      have : (xs.drop k)[0]? = some x := by rw [hr]; rfl
      simpa using this
    have hk := (List.getElem?_eq_some_iff.mp hx).1
    have hr' : xs.drop (k + 1) = r := by rw [← List.drop_drop, hr]; rfl
    have nx : k + 1 + r.length = k + (x :: r).length := by rw [List.length_cons]; lia
    obtain ⟨L', ha, q, m2, ht, h⟩ := hs k x ys m hx i
    cases q with
    | true =>
      refine (h.1 rfl).go fun y m3 he i => ?_
      obtain ⟨zs, mF, cl, i⟩ := turnsL I hz hs r (k + 1) (ys ++ [y]) m3 hr' (by rw [List.length_append]; exact Nat.succ_le_succ hl) i
      exact ⟨zs, mF, .turn ha ht (emit_list he (Nat.le_trans hl (Nat.le_trans (Nat.le_of_lt hk) hz))) cl, nx ▸ i⟩
    | false =>
      obtain ⟨zs, mF, cl, i⟩ := turnsL I hz hs r (k + 1) ys m2 hr' (Nat.le_succ_of_le hl) (h.2 rfl)
      exact ⟨zs, mF, .turn ha ht .skip cl, nx ▸ i⟩
private theorem turns0 {α : Type} {f : α → AV} {xs : List α} {names : Names} (I : Nat → List AV → Mem → Prop) (hz : xs.length ≤ 2 ^ 23) (h0 : I 0 [] m1)
    (hs : ∀ k x ys m, xs[k]? = some x → I k ys m → TurnL G names tgt elt ifs L (f x) m (fun y m3 => I (k + 1) (ys ++ [y]) m3) fun m2 => I (k + 1) ys m2) : ∃ zs mF, CL G.X G.D G.sc names tgt ifs L AccL (emitL elt) (xs.map f) [] m1 zs mF ∧ I xs.length zs mF :=
  (turnsL I hz hs xs 0 [] m1 rfl (Nat.le_refl _) h0).imp fun ys h => h.imp fun mF h => ⟨h.1, (by have := h.2; rwa [Nat.zero_add] at this)⟩
noncomputable def wpL (G : Cx) (names : Names) (tgt elt : Expr) (ifs : List Expr) (L : Lc) (x : AV) (m : Mem) (K : AV → Mem → Prop) (S : Mem → Prop) : Prop :=
  ∃ L', AsgC G.X G.D G.sc names tgt L x L' ∧ wpI G ifs L' m fun q m2 => IfS q (wpE G 40 elt L' m2 K) (S m2)
private theorem wpL_ok (hD : 4 ≤ G.D) {names : Names} {x : AV} {S : Mem → Prop} (h : wpL G names tgt elt ifs L x m K S) : TurnL G names tgt elt ifs L x m K S :=
  h.imp fun L' h => ⟨h.1, (wpI_ok hD h.2).imp fun b h => h.imp fun m2 h => ⟨h.1, fun q => by
    cases h.2 with
    | mk h1 _ => exact (wpOk hD 40).e _ _ _ _ (h1 q), fun q => by
    cases h.2 with
    | mk _ h2 => exact h2 q⟩⟩
noncomputable abbrev CNm (sc : Names) (scope : Scope) (L : Lc) : Prop := (compOkB sc scope.names && (scope.kind == .function && seenOk scope.names L)) = true
noncomputable abbrev CSt (iter : Expr) : Prop := ∀ (env : Env) x, foldedSetIterable iter env x = pure x
private theorem OkE.lc (hD : 4 ≤ G.D) {α : Type} {f : α → AV} {xs : List α} (hn : CNm G.sc scope L) (set : CSt iter) (hi : wpE G 40 iter L m (IsV av m1)) (hv : ItV G.X G.D tgt m1 av (xs.map f)) (I : Nat → List AV → Mem → Prop) (hz : xs.length ≤ 2 ^ 23) (h0 : I 0 [] m1)
    (hs : ∀ k x ys m, xs[k]? = some x → I k ys m → wpL (G.inner scope.names) scope.names tgt elt ifs (seen scope.names L) (f x) m (fun y m3 => I (k + 1) (ys ++ [y]) m3) fun m2 => I (k + 1) ys m2)
    (he : ∀ ys m', I xs.length ys m' → K (.lst ys) m') : OkE G (.ListComp elt [⟨tgt, iter, ifs, 0⟩] scope pos) L m K :=
  (turns0 (G := G.inner scope.names) I hz h0 fun k x ys m hx i => wpL_ok (G := G.inner scope.names) hD (hs k x ys m hx i)).elim fun ys h => h.elim fun mF h => .mk (.lc (.mk' hn set) (.of (.wp hD hi) hv) h.1) (he _ _ h.2)
private theorem OkE.map (hD : 4 ≤ G.D) {α : Type} {f : α → AV} {xs : List α} (hn : CNm G.sc scope L) (set : CSt iter) (hi : wpE G 40 iter L m (IsV av m1)) (hv : ItV G.X G.D tgt m1 av (xs.map f)) (hz : xs.length ≤ 2 ^ 23) (g : α → AV)
    (hs : ∀ x, x ∈ xs → ∃ L', AsgC G.X G.D (relN G.sc scope.names) scope.names tgt (seen scope.names L) (f x) L' ∧ wpE (G.inner scope.names) 40 elt L' m1 (IsV (g x) m1))
    (he : K (.lst (xs.map g)) m1) : OkE G (.ListComp elt [⟨tgt, iter, [], 0⟩] scope pos) L m K :=
  (turns0 (G := G.inner scope.names) (ifs := []) (L := seen scope.names L) (elt := elt) (m1 := m1) (fun k ys m => ys = (xs.take k).map g ∧ m = m1) hz ⟨rfl, rfl⟩ fun k x ys m hx i => by
    obtain ⟨rfl, rfl⟩ := i
    refine (hs x (List.mem_of_getElem? hx)).imp fun L' h => ⟨h.1, true, m, .nil, fun zz => OkE.go ((wpOk (G := G.inner scope.names) hD 40).e _ _ _ _ h.2) fun y m3 h1 h2 => ?_, nofun⟩
    cases h2
    exact .mk h1 ⟨by rw [List.take_add_one, hx, List.map_append]; rfl, rfl⟩).elim fun ys h => h.elim fun mF h => .mk (.lc (.mk' hn set) (.of (.wp hD hi) hv) h.1) (by rw [h.2.1, h.2.2, List.take_length]; exact he)
private theorem OkE.filter (hD : 4 ≤ G.D) {α : Type} {f : α → AV} {xs : List α} {t : Expr} (hn : CNm G.sc scope L) (set : CSt iter) (hi : wpE G 40 iter L m (IsV av m1)) (hv : ItV G.X G.D tgt m1 av (xs.map f)) (hz : xs.length ≤ 2 ^ 23) (p : α → Bool) (g : α → AV)
    (hs : ∀ x, x ∈ xs → ∃ L', AsgC G.X G.D (relN G.sc scope.names) scope.names tgt (seen scope.names L) (f x) L' ∧ wpT (G.inner scope.names) 40 t L' m1 (IsV (p x) m1) ∧ (p x = true → wpE (G.inner scope.names) 40 elt L' m1 (IsV (g x) m1)))
    (he : K (.lst ((xs.filter p).map g)) m1) : OkE G (.ListComp elt [⟨tgt, iter, [t], 0⟩] scope pos) L m K :=
  (turns0 (G := G.inner scope.names) (ifs := [t]) (L := seen scope.names L) (elt := elt) (m1 := m1) (fun k ys m => ys = ((xs.take k).filter p).map g ∧ m = m1) hz ⟨rfl, rfl⟩ fun k x ys m hx i => (hs x (List.mem_of_getElem? hx)).elim fun L' h => by
    obtain ⟨rfl, rfl⟩ := i
    have e : (xs.take (k + 1)).filter p = (xs.take k).filter p ++ [x].filter p := by rw [List.take_add_one, hx, List.filter_append]; rfl
    refine ⟨L', h.1, _, _, .one (.wp (G := G.inner scope.names) hD h.2.1), fun e1 => OkE.go ((wpOk (G := G.inner scope.names) hD 40).e _ _ _ _ (h.2.2 e1)) fun y m3 h3 h4 => ?_, fun e1 => ⟨?_, rfl⟩⟩
    · cases h4
      exact .mk h3 ⟨by rw [e, List.filter_cons_of_pos e1, List.map_append]; rfl, rfl⟩
    · rw [e, List.filter_cons_of_neg (by rw [e1]; exact Bool.false_ne_true)]; exact congrArg _ (List.append_nil _).symm).elim fun ys h => h.elim fun mF h => .mk (.lc (.mk' hn set) (.of (.wp hD hi) hv) h.1) (by rw [h.2.1, h.2.2, List.take_length]; exact he)
end
end
section
open PySem PySem.W PyProof.Rows PySem.Calls PySem.SeqAt
noncomputable def envWith (sc : Names) : Env := { scope := { (default : Scope) with kind := .function, names := sc }, locals := 0, globals := 0, cells := [], qual := "", func := none, code := .none, frame := none, builtins := 0 }
private theorem NmR.loc {a b : Names} (h : NmR a b) (x : Str) : (a.lookup x == some NameKind.local) = (b.lookup x == some NameKind.local) := by
  rcases h x with e | ⟨e1, e2⟩
  · rw [e]
  · rw [e1, e2]; rfl
private theorem swStores {sc : Names} {es : List Expr} {k : Nat} {tp : Pos} {v : Expr} {r : Sem (Option (List Str))} (h : swappedStores [.Tuple es k tp] v (envWith sc) = r) (env : Env) (h1 : NmR env.scope.names sc) (h2 : env.scope.kind = .function) : swappedStores [.Tuple es k tp] v env = r := by
  refine Eq.trans ?_ h
  have hb : env.blockKind = (envWith sc).blockKind := by unfold Env.blockKind; rw [h2]; rfl
  cases v with
  | Tuple vs a b =>
    unfold swappedStores
    dsimp only
    rw [hb]
    generalize hF : List.filterMap _ es = N1
    generalize hG : List.filterMap _ es = N2
    have e : N1 = N2 := by
      subst hF; subst hG
      refine congrArg (List.filterMap · es) (funext fun x => ?_)
      cases x with
      | Name id pos =>
        have := h1.loc id
        show (if (env.scope.names.lookup id == some NameKind.local && _) = true then _ else _) = _
        rw [this]; rfl
      | _ => rfl
    rw [e]
  | _ => rfl
section
variable {X : Amb} {D : Nat} {sc : Names} {L L' : Lc} {m m1 : Mem} {P : RP} {rest : List Stmt} {es : List Expr} {k : Nat} {tp p : Pos} {e : Expr}
private theorem W.asg {av : AV} (hw : swappedStores [.Tuple es k tp] e (envWith sc) = pure none) (hs : notComp e = true) (he : PE X D sc e L m av m1) (hg : Asg X D sc sc (.Tuple es k tp) L av L') (h : W X D sc rest L' m1 P) : W X D sc (.Assign [.Tuple es k tp] e p :: rest) L m P :=
  .seq fun env own A c T Q E q => Assign_Tuple (he.go T fun v d l F r => hg env own A d m1 v T.R T.T F r _ _ fun d2 l2 F2 => q _ d2 .next _ _ ⟨l.tr l2, F2, .next, h⟩) (noSwap_c hs (some (.Tuple es k tp)) p.line env) (swStores hw env T.F.N.names T.F.N.kind)
private theorem bindNames {env : Env} {own : List Addr} {A : Around} {xs : List Str} (hx : ∀ x ∈ xs, Sto env own x) : ∀ {avs : List AV} {vs : List Value} {c : Cf} {L : Lc}, FS X env sc own c m L → Reps c.M avs vs → avs.length = xs.length →
    ∀ {Q : Unit → Shared → Prop} {E : Value → Shared → Prop}, (∀ d, Map.leB own c.M d.M → FS X env sc own d m (binds xs avs L) → Q () d.s) → wpAny (model X.prog X.w) A (assignInOrder (xs.map fun n => bindName env n) vs) Q E c.s := by
  induction xs with
  | nil =>
    intro avs vs c L F r hl Q E k
    cases avs with
    | nil => rw [r.i_nil]; exact wpAny_pure (k c (.rf _) F)
    | cons _ _ => cases hl
  | cons x xs ih =>
    intro avs vs c L F r hl Q E k
    cases avs with
    | nil => cases hl
    | cons a avs =>
      cases r.i_cons with
      | @mk v vs r1 r2 =>
        show wpAny _ A (do holding vs (bindName env x v); assignInOrder (xs.map fun n => bindName env n) vs) Q E c.s
        exact wpAny_bind (wpAny_holding (wpAny_bindName (F.store (hx x List.mem_cons_self) r1 fun d l F1 => ih (fun y hy => hx y (List.mem_cons_of_mem _ hy)) F1 (r2.up0 (F.l0 l)) (Nat.succ.inj hl) fun d2 l2 F2 => k d2 (l.tr l2) F2)))
private theorem FS.rev {env : Env} {own : List Addr} {A : Around} {d : Cf} {v : Value} {xs : List Str} {avs : List AV} (F : FS X env sc own d m L) (r : Rep d.M (.tup avs) v) (hl : avs.length = xs.length) (hx : ∀ x ∈ xs, Sto env own x) (hA : A.handled = none) {Q : Unit → Shared → Prop} {E : Value → Shared → Prop}
    (q : ∀ e, Map.leB own d.M e.M → FS X env sc own e m (binds xs.reverse avs.reverse L) → Q () e.s) : wpAny (model X.prog X.w) A (unpackItems v xs.length none) (fun items s₂ => wpAny (model X.prog X.w) A (assignInOrder (xs.reverse.map fun n => bindName env n) items.reverse) Q E s₂) E d.s := by
  cases r.i_tup with
  | @mk b vs n hk rs =>
    have hlen : xs.length = vs.toArray.size := hl.symm.trans rs.len.symm
    rw [hlen]
    refine unpackItems_tuple hA ⟨_, F.S.frz hk, rfl, n, rfl⟩ fun h' hx' => ?_
    have F2 := F.new (h' := h') (tk := d.s.toks) fun b o e => hx' b o (Nat.ne_of_lt (Heap.lt_size e)) e
    exact bindNames (fun x hm => hx x (List.mem_reverse.mp hm)) F2 rs.reverse (by rw [List.length_reverse, List.length_reverse]; exact hl) q
private theorem W.asgRev {xs : List Str} {avs : List AV} (hw : swappedStores [.Tuple es k tp] e (envWith sc) = pure (some xs)) (hs : notComp e = true) (hx : xs.all (okB sc) = true) (hl : avs.length = xs.length) (he : PE X D sc e L m (.tup avs) m1) (h : W X D sc rest (binds xs.reverse avs.reverse L) m1 P) : W X D sc (.Assign [.Tuple es k tp] e p :: rest) L m P :=
  .seq fun env own A c T Q E q => Assign_Tuple_swapped (he.go T fun v d l F r => F.rev r hl (fun x hm => T.T x (nameOk (List.all_eq_true.mp hx x hm))) T.R.1 fun d2 l2 F3 => q .next d2 .next _ _ ⟨l.tr l2, F3, .next, h⟩) (noSwap_c hs (some (.Tuple es k tp)) p.line env) (swStores hw env T.F.N.names T.F.N.kind)
end
inductive TupK (n : Nat) (K : List AV → Prop) : AV → Prop
  | mk {avs : List AV} : avs.length = n → K avs → TupK n K (.tup avs)
section
variable {G : Cx} {L L' : Lc} {m m1 : Mem} {P : RP} {rest : List Stmt} {es : List Expr} {k : Nat} {tp p : Pos} {e : Expr}
private theorem W.tup {xs : List Str} (hD : 4 ≤ G.D) (hw : swappedStores [.Tuple es k tp] e (envWith G.sc) = pure none) (hs : notComp e = true) (hn : NamesT G.sc es xs) (h : wpE G 40 e L m fun av m1 => TupK xs.length (fun avs => wpS G 40 40 rest (binds xs avs L) m1 P) av) : W G.X G.D G.sc (.Assign [.Tuple es k tp] e p :: rest) L m P :=
  ((wpOk hD 40).e _ _ _ _ h).go fun v m' h1 h => by
    cases h with
    | mk hl h => exact .asg hw hs h1 (.tup hn hl) (wpS_ok hD h)
private theorem W.tupR {xs : List Str} (hD : 4 ≤ G.D) (hw : swappedStores [.Tuple es k tp] e (envWith G.sc) = pure (some xs)) (hs : notComp e = true) (hx : xs.all (okB G.sc) = true) (h : wpE G 40 e L m fun av m1 => TupK xs.length (fun avs => wpS G 40 40 rest (binds xs.reverse avs.reverse L) m1 P) av) : W G.X G.D G.sc (.Assign [.Tuple es k tp] e p :: rest) L m P :=
  ((wpOk hD 40).e _ _ _ _ h).go fun v m' h1 h => by
    cases h with
    | mk hl h => exact .asgRev hw hs hx hl h1 (wpS_ok hD h)
end
end
section
open PySem PySem.W PyProof.Rows PySem.Calls PySem.SeqAt
private theorem storedI_len (ks : List (Int × Int)) (k v : Int) : (storedI ks k v).length ≤ ks.length + 1 := by
  unfold storedI
  split
  · rw [List.length_map]; exact Nat.le_succ _
  · rw [List.length_append]; exact Nat.le_refl _
section
variable {G : Cx} {L : Lc} {m m1 : Mem} {tgt iter kx vx t : Expr} {scope : Scope} {pos : Pos} {K : AV → Mem → Prop} {av : AV}
private theorem turnsD {α : Type} {f : α → AV} {names : Names} {p : α → Bool} {kf vf : α → Int} (hD : 4 ≤ G.D) : ∀ {r : List α}, (∀ x, x ∈ r → ∃ L', AsgC G.X G.D G.sc names tgt L (f x) L' ∧ wpT G 40 t L' m1 (IsV (p x) m1) ∧ (p x = true → wpE G 40 kx L' m1 (IsV (.int (kf x)) m1) ∧ wpE G 40 vx L' m1 (IsV (.int (vf x)) m1))) →
    ∀ {ks : List (Int × Int)}, ks.length + r.length ≤ 2 ^ 23 → CL G.X G.D G.sc names tgt [t] L AccD (emitD kx vx) (r.map f) ks m1 ((r.filter p).foldl (fun ks x => storedI ks (kf x) (vf x)) ks) m1
  | [], _, _, _ => .nil
  | x :: r, hs, ks, hz => (hs x List.mem_cons_self).elim fun L' h => by
    have hz : ks.length + 1 + r.length ≤ 2 ^ 23 := by rw [List.length_cons] at hz; lia
    have ht := PT.wp hD h.2.1
    cases q : p x with
    | true =>
      rw [List.filter_cons_of_pos q]
      have h2 := h.2.2 q
      exact .turn h.1 (.one (q ▸ ht)) (emit_dict (.wp hD h2.1) (.wp hD h2.2) (by lia)) (turnsD hD (fun y hy => hs y (List.mem_cons_of_mem _ hy)) (Nat.le_trans (Nat.add_le_add_right (storedI_len _ _ _) _) hz))
    | false =>
      rw [List.filter_cons_of_neg (by rw [q]; exact Bool.false_ne_true)]
      exact .turn h.1 (.one (q ▸ ht)) .skip (turnsD hD (fun y hy => hs y (List.mem_cons_of_mem _ hy)) (by lia))
private theorem OkE.dfilter (hD : 4 ≤ G.D) {α : Type} {f : α → AV} {xs : List α} (hn : CNm G.sc scope L) (set : CSt iter) (hi : wpE G 40 iter L m (IsV av m1)) (hv : ItV G.X G.D tgt m1 av (xs.map f)) (hz : xs.length ≤ 2 ^ 23) (p : α → Bool) (kf vf : α → Int)
    (hs : ∀ x, x ∈ xs → ∃ L', AsgC G.X G.D (relN G.sc scope.names) scope.names tgt (seen scope.names L) (f x) L' ∧ wpT (G.inner scope.names) 40 t L' m1 (IsV (p x) m1) ∧ (p x = true → wpE (G.inner scope.names) 40 kx L' m1 (IsV (.int (kf x)) m1) ∧ wpE (G.inner scope.names) 40 vx L' m1 (IsV (.int (vf x)) m1)))
    (he : K (.dct ((xs.filter p).foldl (fun ks x => storedI ks (kf x) (vf x)) [])) m1) : OkE G (.DictComp kx vx [⟨tgt, iter, [t], 0⟩] scope pos) L m K :=
  .mk (.dc (.mk' hn set) (.of (.wp hD hi) hv) (turnsD (G := G.inner scope.names) hD hs (by rw [List.length_nil, Nat.zero_add]; exact hz))) he
private theorem swTrue {sc : Names} {elt : Expr} {gens : List Comprehension} {scope : Scope} {pos p' : Pos} {x : Str} {l : Nat} {r : Sem Bool} (h : swapsWith (.ListComp elt gens scope pos) (some (.Name x p')) l (envWith sc) = r) (env : Env) (h1 : NmR env.scope.names sc) (h2 : env.scope.kind = .function) : swapsWith (.ListComp elt gens scope pos) (some (.Name x p')) l env = r := by
  have hb : env.blockKind = (envWith sc).blockKind := by unfold Env.blockKind; rw [h2]; rfl
  refine Eq.trans ?_ h
  show (pure (env.blockKind == .function && (env.scope.names.lookup x == some .local) && _ && _) : Sem Bool) = _
  rw [hb, h1.loc x]; rfl
section
variable {elt : Expr} {ifs : List Expr} {x : Str} {p p' : Pos} {P : RP} {rest : List Stmt}
private theorem W.lcX {X : Amb} {D : Nat} {sc : Names} {b : Bool} {xs ys : List AV} {mF : Mem} (n : CNames sc scope iter L) (hi : PI X D sc tgt iter L m xs m1) (cl : CL X D (relN sc scope.names) scope.names tgt ifs (seen scope.names L) AccL (emitL elt) xs [] m1 ys mF)
    (hsw : swapsWith (.ListComp elt [⟨tgt, iter, ifs, 0⟩] scope pos) (some (.Name x p')) p.line (envWith sc) = pure b) (hx : okB sc x = true) (h : W X D sc rest ((x, .lst ys) :: L) mF P) :
    W X D sc (.Assign [.Name x p'] (.ListComp elt [⟨tgt, iter, ifs, 0⟩] scope pos) p :: rest) L m P := by
  cases b with
  | true => exact .lcSwap n hi cl (swTrue hsw) hx h
  | false => exact .set' (swTrue hsw) hx (.lc n hi cl) h
private theorem W.lcA (hD : 4 ≤ G.D) {α : Type} {f : α → AV} {xs : List α} (hn : CNm G.sc scope L) (set : CSt iter) (hi : wpE G 40 iter L m (IsV av m1)) (hv : ItV G.X G.D tgt m1 av (xs.map f)) (I : Nat → List AV → Mem → Prop) (hz : xs.length ≤ 2 ^ 23) (h0 : I 0 [] m1)
    (hs : ∀ k x ys m, xs[k]? = some x → I k ys m → wpL (G.inner scope.names) scope.names tgt elt ifs (seen scope.names L) (f x) m (fun y m3 => I (k + 1) (ys ++ [y]) m3) fun m2 => I (k + 1) ys m2)
    {b : Bool} (hsw : swapsWith (.ListComp elt [⟨tgt, iter, ifs, 0⟩] scope pos) (some (.Name x p')) p.line (envWith G.sc) = pure b) (hx : okB G.sc x = true)
    (he : ∀ ys m', I xs.length ys m' → wpS G 40 40 rest (bd x (.lst ys) L) m' P) : W G.X G.D G.sc (.Assign [.Name x p'] (.ListComp elt [⟨tgt, iter, ifs, 0⟩] scope pos) p :: rest) L m P :=
  (turns0 (G := G.inner scope.names) I hz h0 fun k x ys m hx i => wpL_ok (G := G.inner scope.names) hD (hs k x ys m hx i)).elim fun ys h => h.elim fun mF h => .lcX (.mk' hn set) (.of (.wp hD hi) hv) h.1 hsw hx (wpS_ok hD (he _ _ h.2))
private theorem W.mapA (hD : 4 ≤ G.D) {α : Type} {f : α → AV} {xs : List α} (hn : CNm G.sc scope L) (set : CSt iter) (hi : wpE G 40 iter L m (IsV av m1)) (hv : ItV G.X G.D tgt m1 av (xs.map f)) (hz : xs.length ≤ 2 ^ 23) (g : α → AV)
    (hs : ∀ x, x ∈ xs → ∃ L', AsgC G.X G.D (relN G.sc scope.names) scope.names tgt (seen scope.names L) (f x) L' ∧ wpE (G.inner scope.names) 40 elt L' m1 (IsV (g x) m1))
    {b : Bool} (hsw : swapsWith (.ListComp elt [⟨tgt, iter, [], 0⟩] scope pos) (some (.Name x p')) p.line (envWith G.sc) = pure b) (hx : okB G.sc x = true)
    (he : wpS G 40 40 rest (bd x (.lst (xs.map g)) L) m1 P) : W G.X G.D G.sc (.Assign [.Name x p'] (.ListComp elt [⟨tgt, iter, [], 0⟩] scope pos) p :: rest) L m P :=
  (turns0 (G := G.inner scope.names) (ifs := []) (L := seen scope.names L) (elt := elt) (m1 := m1) (fun k ys m => ys = (xs.take k).map g ∧ m = m1) hz ⟨rfl, rfl⟩ fun k x ys m hx i => by
    obtain ⟨rfl, rfl⟩ := i
    refine (hs x (List.mem_of_getElem? hx)).imp fun L' h => ⟨h.1, true, m, .nil, fun zz => OkE.go ((wpOk (G := G.inner scope.names) hD 40).e _ _ _ _ h.2) fun y m3 h1 h2 => ?_, nofun⟩
    cases h2
    exact .mk h1 ⟨by rw [List.take_add_one, hx, List.map_append]; rfl, rfl⟩).elim fun ys h => h.elim fun mF h => .lcX (.mk' hn set) (.of (.wp hD hi) hv) h.1 hsw hx (wpS_ok (k := 40) (n := 40) hD (by rw [h.2.1, h.2.2, List.take_length]; exact he))
end
private theorem ItV.rngZ {X : Amb} {D : Nat} {i : Int} (h0 : -(2 ^ 40) ≤ i) (h1 : i ≤ 2 ^ 40) : ItV X D tgt m (.rng 0 i) ((List.range i.toNat).map fun (i : Nat) => .int i) := by
  rcases Int.le_total 0 i with h | h
  · have := ItV.rng (X := X) (D := D) (tgt := tgt) (m := m) (n := i.toNat) (by lia)
    rwa [Int.toNat_of_nonneg h] at this
  · intro A c C v R hC S r Q E k
    rw [Int.toNat_of_nonpos h] at k
    cases r.i_rng with
    | @mk a t u w hk =>
      have hsz : Builtin.Range.rangeSize 0 i 1 = 0 := by rw [rangeSize_one]; split <;> lia
      refine wpAny_pyIter_range (S.frz hk) (small_one (by decide) (by decide) (by lia) (by lia)) ?_
      rw [hsz]
      exact k _ _ _ (Iter.new (T := "range_iterator") (tk := c.s.toks) hC S rfl (fun A' hA => Walks.range hA _ 0 1 0) (fun i h st => ⟨_, st, rfl⟩) (by decide) (fun b hb hbn => absurd (List.mem_singleton.mp hb) hbn) rfl (fun i v x hx pv => nomatch hx) (by simpa using Heap.get?_push_size c.s.heap rfl) (fun A2 s2 Q2 E2 he hq => wpAny_pyIter_rangeiter he hq))
end
end
section
open PySem PySem.W PyProof.Rows PySem.Calls PySem.SeqAt
structure FreeK (M : Map) (names : Names) (cl : List (Str × Addr)) (fvs : Lc) : Prop where
  cel : ∀ x c, cl.lookup x = some c → ∃ o, M.h c = some (.frz o)
  var : ∀ x av, fvs.lookup x = some av → names.lookup x = some .free ∧ ∃ c o v, cl.lookup x = some c ∧ M.h c = some (.frz o) ∧ o.data = .cell (some v) ∧ Rep M av v
structure CloOk (ps : List Str) (scope : Scope) : Prop where
  kind : scope.kind = .function
  co : scope.isCoroutine = false
  gen : scope.isGenerator = false
  dbg : scope.names.lookup ("__debug__" : Str) = none
  cld : scope.names.lookup ("__classdict__" : Str) = none
  nd : ps.Nodup
  nc : ∀ x ∈ scope.names, x.2 ≠ .cell
  kd : ∀ x ∈ ps, scope.names.lookup x = some .local
noncomputable def cloOkB (ps : List Str) (scope : Scope) : Bool := scope.kind == .function && !scope.isCoroutine && !scope.isGenerator && (scope.names.lookup ("__debug__" : Str)).isNone && (scope.names.lookup ("__classdict__" : Str)).isNone && decide ps.Nodup && (scope.names.all fun x => x.2 != .cell) && ps.all fun x => scope.names.lookup x == some .local
private theorem cloOk {ps : List Str} {scope : Scope} (h : cloOkB ps scope = true) : CloOk ps scope := by
  unfold cloOkB at h
  simp only [Bool.and_eq_true, beq_iff_eq, Bool.not_eq_true', Option.isNone_iff_eq_none, List.all_eq_true, bne_iff_ne, decide_eq_true_eq] at h
  exact ⟨h.1.1.1.1.1.1.1, h.1.1.1.1.1.1.2, h.1.1.1.1.1.2, h.1.1.1.1.2, h.1.1.1.2, h.1.1.2, h.1.2, h.2⟩
section
variable {X : Amb} {D : Nat} {m : Mem}
private theorem rev_lookup {α : Type} {x : Str} {v : α} {l : List (Str × α)} (hn : (l.map (·.1)).Nodup) (h : l.lookup x = some v) : l.reverse.lookup x = some v :=
  lookup_mem (by rw [List.map_reverse]; exact List.pairwise_reverse.mpr (List.Pairwise.imp Ne.symm hn)) (List.mem_reverse.mpr (mem_of_lookup h))
private theorem enterF {c : Cf} {A : Around} {fd : FuncData} {a : Addr} {ps : List Str} {avs : List AV} {vs : List Value} {fvs : Lc} {h₁ : Heap} {tk : Nat} (ok : CloOk ps fd.scope) (hg : fd.globals = mainGlobals) (hb : fd.builtins = builtinsNs) (Fv : FreeK X.B fd.scope.names fd.closure fvs) (R : Room A (D + 1)) (S : Hp X c m) (rs : Reps c.M avs vs)
    (hns : h₁.Ns c.s.heap.objs.size (fun x => (ps.zip vs).reverse.lookup x)) (hk : ∀ b o, c.s.heap.get? b = some o → h₁.get? b = some o) :
    Ent X D fd.scope.names (callEnv fd c.s.heap.objs.size a) [c.s.heap.objs.size] (A.deeper (callEnv fd c.s.heap.objs.size a)) c ⟨{ c.s with heap := h₁, toks := tk }, c.M.pins h₁ [c.s.heap.objs.size]⟩ (ps.zip avs ++ fvs) m := by
  have S1 : Sep X { c.s with heap := h₁, toks := tk } c.M m := S.keep fun b o zz e => hk b o e
  have fr : ∀ b ∈ [c.s.heap.objs.size], c.M.h b = none := fun b hb => List.mem_singleton.mp hb ▸ S.top
  have le : c.M.le (c.M.pins h₁ [c.s.heap.objs.size]) := Map.le_pins fr
  have up : ∀ b o, X.B.h b = some (.frz o) → (c.M.pins h₁ [c.s.heap.objs.size]).ob b o := fun b o e => .inl (le.h _ _ (S.x.h _ _ e))
  have cne : ∀ x b, fd.closure.lookup x = some b → b ∉ [c.s.heap.objs.size] := fun x b h q => (Fv.cel x b h).elim fun o e => by have := S.x.h _ _ e; rw [fr b q] at this; cases this
  have hL : c.s.heap.objs.size ∈ [c.s.heap.objs.size] := List.mem_singleton.mpr rfl
  refine ⟨le, fr, R.deep _, fun x hx => hx.imp id fun hk => absurd rfl (ok.nc (x, .cell) (mem_of_lookup hk)), {
    S := S1.pins fr
    ow := fun b hb => ⟨?_, ?_⟩
    ns := ⟨_, hns⟩
    L := hL
    cell := fun x b h q => absurd q (cne x b h)
    cL := fun x b h q => absurd q (cne x b h)
    inj := fun x y b h zz q => absurd q (cne x b h)
    N := {
      names := .rf _
      kind := ok.kind
      gl := hg
      bu := hb
      dbg := ok.dbg
      cld := ok.cld
      cel := fun x b h => (Fv.cel x b h).imp fun o e => up b o e
      var := fun x av h => by
        rw [List.lookup_append] at h
        cases q : (ps.zip avs).lookup x with
        | some w =>
          rw [q] at h; cases h
          obtain ⟨v, hv, r⟩ := zipRep rs q
          obtain ⟨o, es, ep, q1, q2, q3, q4⟩ := hns
          exact ⟨v, r.up le, .loc (ok.kd x ((zip_nd ok.nd).2 (lookup_key hv))) (Map.pins_in hL q1) q2 q3 (by rw [q4]; exact rev_lookup (zip_nd (x := x) ok.nd).1 hv)⟩
        | none =>
          rw [q] at h
          obtain ⟨k1, b, o, v, k2, k3, k4, k5⟩ := Fv.var x av h
          exact ⟨v, (k5.up S.x).up le, .cel (.inr k1) k2 (up b o k3) k4⟩ } }⟩
  · rw [List.mem_singleton.mp hb]; obtain ⟨o, _, _, e, _⟩ := hns; exact ⟨o, Map.pins_in hL e⟩
  · cases e : X.B.h b with
    | none => rfl
    | some y => have := S.x.h _ _ e; rw [fr b hb] at this; cases this
private theorem FnAt.callF {F : Fd} {q : Str} {cl : List (Str × Addr)} {a : Addr} {ps : List Str} {avs : List AV} {fvs : Lc} {R : AV → Mem → Prop} (h : FnAt X.B F q cl .none a) (lim : NoLim X.B) (ok : CloOk ps F.scope) (Fv : FreeK X.B F.scope.names cl fvs) (hbind : ∀ doc pm cd ct, BindN (fnXD F q cl .none doc pm cd ct) ps [] []) (hl : avs.length = ps.length)
    (hb : W X D F.scope.names F.body (ps.zip avs ++ fvs) m (Ret R)) : CallR X (D + 1) (opF a) m avs R := fun A c vs Ro S rs Q E k => by
  obtain ⟨o, doc, pm, cd, ct, h⟩ := h
  refine wpAny_call (codeAny_call_def (fd := fnXD F q cl .none doc pm cd ct) (binds := ps.zip vs) (by have := Ro.2.1; lia) (S.base h.m) h.data (lim.lim S) (h.code.go S) rfl (BindsTo.of_eq ((hbind doc pm cd ct).to (rs.len.trans hl))) ok.nc (fun x hx => ok.kd _ (List.of_mem_zip hx).1) (fun h₁ hns hk => ?_) ok.co ok.gen ok.kind)
  exact wpAny_mono ((enterF (fd := fnXD F q cl .none doc pm cd ct) (a := a) ok rfl rfl Fv Ro S rs hns hk).run hb.e k) (fun zz zz x => x) fun zz zz x => x.elim
end
end
section
open PySem PySem.W PyProof.Rows PySem.Calls PySem.SeqAt
noncomputable def unpin : Cel → Cel
  | .pin o => .frz o
  | x => x
noncomputable def Map.melt (M : Map) (cs : List Addr) : Map := ⟨fun a => if a ∈ cs then (M.h a).map unpin else M.h a, M.g⟩
noncomputable def notPin : Cel → Option Cel
  | .pin _ => none
  | x => some x
noncomputable def Map.base (M B : Map) : Map := ⟨fun a => ((M.h a).bind notPin).elim (B.h a) some, M.g⟩
noncomputable def Amb.over (X : Amb) (M : Map) : Amb := { X with B := M.base X.B }
section
variable {M B : Map} {cs : List Addr} {a : Addr} {x : Cel}
private theorem Map.melt_out (h : a ∉ cs) : (M.melt cs).h a = M.h a := if_neg h
private theorem Map.melt_in {o : Obj} (h : a ∈ cs) (e : M.h a = some (.pin o)) : (M.melt cs).h a = some (.frz o) := (if_pos h).trans (by rw [e]; rfl)
private theorem Map.melt_keep (n : ∀ o, x ≠ .pin o) (e : M.h a = some x) : (M.melt cs).h a = some x := by
  show (if a ∈ cs then (M.h a).map unpin else M.h a) = _
  split
  · rw [e]; cases x <;> first | rfl | exact absurd rfl (n _)
  · exact e
private theorem Map.melt_le0 : M.le0 (M.melt cs) := fun zz zz e n => Map.melt_keep n e
private theorem Map.melt_cell {mem : Mem} {h : Heap} (c : ∀ a x, M.h a = some x → CellAt M mem h a x) : ∀ a x, (M.melt cs).h a = some x → CellAt (M.melt cs) mem h a x := fun a x e => by
  have e : (if a ∈ cs then (M.h a).map unpin else M.h a) = some x := e
  split at e
  · obtain ⟨y, q, rfl⟩ := Option.map_eq_some_iff.mp e
    have := (c a y q).go (h' := h) Map.melt_le0 (fun zz e => e) (fun zz zz => rfl) (N := M.melt cs) (mem' := mem)
    cases y with
    | pin o => cases this with
      | pin g => exact .frz g
    | _ => exact this
  · exact (c a x e).go Map.melt_le0 (fun zz e => e) fun zz zz => rfl
private theorem Map.melt_mu {j : Nat} (e : (M.melt cs).h a = some (.mu j)) : M.h a = some (.mu j) := by
  have e : (if a ∈ cs then (M.h a).map unpin else M.h a) = some (.mu j) := e
  split at e
  · obtain ⟨y, q, z⟩ := Option.map_eq_some_iff.mp e
    cases y <;> cases z
    exact q
  · exact e
private theorem Map.base_keep (n : ∀ o, x ≠ .pin o) (e : M.h a = some x) : (M.base B).h a = some x := by
  show (((M.h a).bind notPin).elim (B.h a) some) = _
  rw [e]; cases x <;> first | rfl | exact absurd rfl (n _)
private theorem Map.base_pin {o : Obj} (e : M.h a = some (.pin o)) : (M.base B).h a = B.h a := by
  show (((M.h a).bind notPin).elim (B.h a) some) = _
  rw [e]; rfl
private theorem Map.base_le (l : B.le M) : B.le (M.base B) ∧ (M.base B).le M := by
  refine ⟨⟨fun a x e => ?_, l.g⟩, fun a x e => ?_, fun zz zz e => e⟩
  · have q := l.h a x e
    cases x with
    | pin o => rw [Map.base_pin q]; exact e
    | frz o => exact Map.base_keep (fun zz h => by cases h) q
    | mu i => exact Map.base_keep (fun zz h => by cases h) q
    | tab t => exact Map.base_keep (fun zz h => by cases h) q
  · have e : (((M.h a).bind notPin).elim (B.h a) some) = some x := e
    cases q : M.h a with
    | none => rw [q] at e; have := l.h a x e; rw [q] at this; cases this
    | some y =>
      rw [q] at e
      cases y with
      | pin o => rw [← q]; exact l.h a x e
      | _ => exact e
end
noncomputable def kept (ns sc : Names) : Names := sc.map fun p => (p.1, if (p.2 == .cell && ns.lookup p.1 == some .free) = true then .free else p.2)
private theorem kept_lookup (ns : Names) (x : Str) : ∀ sc : Names, (kept ns sc).lookup x = (sc.lookup x).map fun k => if (k == .cell && ns.lookup x == some .free) = true then .free else k
  | [] => rfl
  | (n, k) :: r => by
    show List.lookup x ((n, _) :: kept ns r) = _
    rw [List.lookup_cons, List.lookup_cons]
    cases hx : x == n with
    | true => rw [beq_iff_eq.mp hx]; rfl
    | false => exact kept_lookup ns x r
noncomputable def OnlyRet (P : RP) : RP
  | .ret v, L, m => P (.ret v) L m
  | _, _, _ => False
section
variable {X : Amb} {D : Nat} {sc names : Names} {env : Env} {own : List Addr} {A : Around} {c : Cf} {L : Lc} {m : Mem}
structure Gave (X : Amb) (D : Nat) (sc names : Names) (env : Env) (own : List Addr) (A : Around) (c : Cf) (L : Lc) (m : Mem) (X' : Amb) (own' : List Addr) (c' : Cf) : Prop where
  s : c'.s = c.s
  o : X' = X.over c'.M
  l : c.M.lef X'.B
  b : X.B.le X'.B
  T : Now X' D (kept names sc) env own' A c' L m
  F : FreeK X'.B names (closL env.cells names []) (seen names L)
  k : ∀ {P : RP} {v : Flow} {d : Cf} {fl : AFlow} {L' : Lc} {m' : Mem}, Fin X' env (kept names sc) own' c' (OnlyRet P) v d fl L' m' → Fin X env sc own c P v d fl L' m'
noncomputable def giveOk (sc names : Names) (L : Lc) : Bool := decide (names.map (·.1)).Nodup && names.all fun p => p.2 != .free || (sc.lookup p.1 == some .cell && (L.lookup p.1).isSome)
private theorem giveOk_c (h : giveOk sc names L = true) {x : Str} (hx : (x, NameKind.free) ∈ names) : sc.lookup x = some .cell ∧ (L.lookup x).isSome = true := by
  have := List.all_eq_true.mp (Bool.and_eq_true_iff.mp h).2 _ hx
  rcases Bool.or_eq_true_iff.mp this with q | q
  · cases q
  · rw [Bool.and_eq_true] at q; exact ⟨beq_iff_eq.mp q.1, q.2⟩
private theorem Now.give (T : Now X D sc env own A c L m) (ok : giveOk sc names L = true) : ∃ X' own' c', Gave X D sc names env own A c L m X' own' c' := by
  have F := T.F
  have cap : ∀ x, (x, NameKind.free) ∈ names → env.kindOf x = some .cell ∧ ∃ b, env.cells.lookup x = some b ∧ b ∈ own := fun x hx => by
    have h1 := (giveOk_c ok hx).1
    have h2 : env.kindOf x = some .cell := F.N.names.at h1 nofun
    exact (T.T x (.inr h1)).elim (fun q => by rw [h2] at q; cases q) fun q => q
  generalize hcs : (closL env.cells names []).map (·.2) = cs
  have csx : ∀ b ∈ cs, ∃ x, (x, NameKind.free) ∈ names ∧ env.cells.lookup x = some b := fun b hb => by
    rw [← hcs] at hb
    obtain ⟨⟨x, b'⟩, h, rfl⟩ := List.mem_map.mp hb
    exact ⟨x, mem_closL h⟩
  have cso : ∀ b ∈ cs, b ∈ own := fun b hb => by
    obtain ⟨x, h1, h2⟩ := csx b hb
    obtain ⟨b', h3, h4⟩ := (cap x h1).2
    rw [h2] at h3; cases h3; exact h4
  have incs : ∀ x b, (x, NameKind.free) ∈ names → env.cells.lookup x = some b → b ∈ cs := fun x b h1 h2 => hcs ▸ List.mem_map_of_mem (f := (·.2)) (closL_mem h1 h2)
  have lb : X.B.le (c.M.melt cs) := ⟨fun a x e => (Map.melt_out fun h => by have := (F.ow a (cso a h)).2; rw [e] at this; cases this).trans (F.S.x.h a x e), F.S.x.g⟩
  have bl := Map.base_le lb
  have l0 : c.M.le0 ((c.M.melt cs).base X.B) := fun a x e n => Map.base_keep n (Map.melt_keep n e)
  have frz : ∀ b ∈ cs, ∃ o, c.M.h b = some (.pin o) ∧ ((c.M.melt cs).base X.B).h b = some (.frz o) := fun b hb => (F.ow b (cso b hb)).1.imp fun o e => ⟨e, Map.base_keep (fun zz h => by cases h) (Map.melt_in hb e)⟩
  have sub : ∀ b, b ∈ own.filter (fun b => decide (b ∉ cs)) → b ∈ own ∧ b ∉ cs := fun b hb => by
    rw [List.mem_filter] at hb; exact ⟨hb.1, of_decide_eq_true hb.2⟩
  have ob : ∀ b o, c.M.ob b o → (c.M.melt cs).ob b o := fun b o h => by
    by_cases hb : b ∈ cs
    · obtain ⟨o', e, _⟩ := frz b hb
      rcases h with h | h
      · rw [e] at h; cases h
      · rw [e] at h; cases h; exact .inl (Map.melt_in hb e)
    · unfold Map.ob; rw [Map.melt_out hb]; exact h
  have S' : Sep (X.over (c.M.melt cs)) c.s (c.M.melt cs) m := { c := Map.melt_cell F.S.c, i := fun a b j e1 e2 => F.S.i a b j (Map.melt_mu e1) (Map.melt_mu e2), g := F.S.g, x := bl.2, os := F.S.os, bare := F.S.bare }
  refine ⟨X.over (c.M.melt cs), own.filter fun b => decide (b ∉ cs), ⟨c.s, c.M.melt cs⟩, { s := rfl, o := rfl, l := l0.f, b := bl.1, T := ⟨T.R, fun x hx => ?_, { S := S', N := { F.N with names := fun x => ?_, dbg := ?_, cld := ?_, cel := fun x b h => (F.N.cel x b h).imp fun o e => ob b o e, var := fun x av h => ?_ }, ow := fun b hb => ?_, ns := F.ns, L := ?_, cell := fun x b h q => F.cell x b h (sub b q).1, cL := fun x b h q => F.cL x b h (sub b q).1, inj := fun x y b h1 h2 q => F.inj x y b h1 h2 (sub b q).1 }⟩, F := ⟨fun x b h => ?_, fun x av h => ?_⟩, k := fun {P v d fl L' m'} f => ?_ }⟩
  · rw [kept_lookup] at hx
    cases e : sc.lookup x with
    | none => rw [e] at hx; exact hx.elim nofun nofun
    | some k =>
      rw [e] at hx
      cases k with
      | «local» => exact .inl (F.N.names.at e nofun)
      | cell =>
        rcases T.T x (.inr e) with q | ⟨q, b, h1, h2⟩
        · exact .inl q
        · refine .inr ⟨q, b, h1, List.mem_filter.mpr ⟨h2, decide_eq_true fun hb => ?_⟩⟩
          obtain ⟨y, h3, h4⟩ := csx b hb
          cases F.inj x y b h1 h4 h2
          rw [lookup_mem (of_decide_eq_true (Bool.and_eq_true_iff.mp ok).1) h3] at hx
          exact hx.elim nofun nofun
      | _ => exact hx.elim nofun nofun
  · rw [kept_lookup]
    rcases F.N.names x with e | ⟨e1, e2⟩
    · rw [e]
      cases sc.lookup x with
      | none => exact .inl rfl
      | some k =>
        cases q : (k == NameKind.cell && names.lookup x == some NameKind.free) with
        | true => exact .inr ⟨congrArg some (beq_iff_eq.mp (Bool.and_eq_true_iff.mp q).1), congrArg some (if_pos q)⟩
        | false => exact .inl (congrArg some (if_neg (by rw [q]; exact Bool.false_ne_true)).symm)
    · rw [e1, e2]; exact .inr ⟨rfl, rfl⟩
  · rw [kept_lookup, F.N.dbg]; rfl
  · rw [kept_lookup, F.N.cld]; rfl
  · obtain ⟨v, r, z⟩ := F.N.var x av h
    refine ⟨v, r.up0 Map.melt_le0, ?_⟩
    cases z with
    | loc k q1 q2 q3 q4 => exact .loc k ((Map.melt_out fun hb => by obtain ⟨y, _, h4⟩ := csx _ hb; exact F.cL y _ h4 (cso _ hb) rfl).trans q1) q2 q3 q4
    | cel k h1 h2 h3 => exact .cel k h1 (ob _ _ h2) h3
  · obtain ⟨h1, h2⟩ := sub b hb
    obtain ⟨⟨o, e⟩, q⟩ := F.ow b h1
    have e : (c.M.melt cs).h b = some (.pin o) := (Map.melt_out h2).trans e
    exact ⟨⟨o, e⟩, (Map.base_pin e).trans q⟩
  · exact List.mem_filter.mpr ⟨F.L, decide_eq_true fun hb => by obtain ⟨y, _, h4⟩ := csx _ hb; exact F.cL y _ h4 (cso _ hb) rfl⟩
  · exact (frz b (incs x b (mem_closL (mem_of_lookup h)).1 (mem_closL (mem_of_lookup h)).2)).imp fun o e => e.2
  · obtain ⟨h1, h2⟩ := seen_lookup h
    have hm := mem_of_lookup h2
    obtain ⟨v, r, z⟩ := F.N.var x av h1
    refine ⟨h2, ?_⟩
    cases z with
    | loc k => have := (cap x hm).1; rw [k] at this; cases this
    | @cel b o k q1 q2 q3 =>
      obtain ⟨o', e1, e2⟩ := frz b (incs x b hm q1)
      have : o' = o := by
        rcases q2 with q | q
        · rw [e1] at q; cases q
        · rw [e1] at q; cases q; rfl
      subst this
      exact ⟨b, o', v, lookup_first (closL_mem hm q1) fun d hd => Option.some.inj ((mem_closL hd).2.symm.trans q1), e2, q3, r.up0 l0⟩
  · cases fl with
    | ret v => exact ⟨⟨fun a x n e => f.l.h a x (fun h => n (sub a h).1) ((Map.melt_out fun h => n (cso a h)).trans e), f.l.g⟩, { f.F with x := bl.1.tr f.F.x }, f.r, f.p⟩
    | _ => exact f.p.elim
end
end
section
open PySem PySem.W PyProof.Rows PySem.Calls PySem.SeqAt
private theorem codeAmong_app {pos pos' : Pos} {c cv : Value} : ∀ (l : List Value), TriplesOk l → codeAmong pos' (l ++ [rawInt pos.line, rawInt pos.col, c]) = some cv →
    codeAmong pos' l = some cv ∨ (pos'.line = pos.line ∧ pos'.col = pos.col ∧ cv = c)
  | [], _, e => by
    simp only [List.nil_append, rawInt, codeAmong] at e
    split at e
    · rename_i h
      rw [Bool.and_eq_true, beq_iff_eq, beq_iff_eq] at h
      cases e; exact .inr ⟨(Int.ofNat.inj h.1).symm, (Int.ofNat.inj h.2).symm, rfl⟩
    · cases e
  | .int a t :: .int b u :: d :: r, h, e => by
    simp only [List.cons_append, codeAmong] at e ⊢
    split at e
    · rename_i h1; cases e; left; rw [if_pos h1]
    · rename_i h1
      rw [if_neg h1]
      exact codeAmong_app r h e
structure Makes' (X : Amb) (st : Site) (mg : Str → Option Value) (bm : Addr) (o : Obj) : Prop where
  t : X.B.h st.t = some (.tab st)
  hd : ∀ h : Heap, (∀ b o, X.B.h b = some (.frz o) → h.get? b = some o) → CodeHd h st.c st.t
  gl : NsM X.B mainGlobals mg
  b : mg "__builtins__" = some (.ref bm)
  n1 : bm ≠ builtinsNs
  n2 : bm ≠ mainGlobals
  bm : X.B.h bm = some (.frz o)
  cls : o.cls = .type "module"
  dict : o.dict = some builtinsNs
  data : o.data = .plain
noncomputable def Makes (X : Amb) (st : Site) : Prop := ∃ mg bm o, Makes' X st mg bm o
section
variable {X : Amb} {m : Mem} {c : Cf} {st : Site}
noncomputable def fcel (b : Bool) (o : Obj) : Cel := cond b (.frz o) (.pin o)
private theorem fcel_mu {b : Bool} {o : Obj} {j : Nat} (h : fcel b o = .mu j) : False := by cases b <;> cases h
private theorem CellAt.fc {M : Map} {mem : Mem} {h : Heap} {a : Addr} {o : Obj} (b : Bool) (e : h.get? a = some o) : CellAt M mem h a (fcel b o) := by
  cases b
  · exact .pin e
  · exact .frz e
structure Made (X : Amb) (c : Cf) (m : Mem) (b : Bool) (qual : Str) (Φ : Obj → Value → Prop) (f : Addr) (d : Cf) (fo : Obj) (cd : Value) : Prop where
  nw : c.M.h f = none
  l : c.M.le d.M
  h : Hp X d m
  f : d.M.h f = some (fcel b fo)
  c : CodeRecM d.M cd qual
  p : Φ fo cd
private theorem Sep.made (b : Bool) (S : Hp X c m) (hst : c.M.h st.t = some (.tab st)) {ps : Array Value} (hT : TriplesOk ps.toList) (hold : ∀ pq ∈ st.at', ∀ cv, codeAmong pq.1 ps.toList = some cv → CodeRecM c.M cv pq.2) {Φ : Obj → Value → Prop}
    {pos : Pos} {qual : Str} {c' : Addr} {h' : Heap} {tk : Nat} {fo : Obj} (hx : Heap.ExtBut st.t c.s.heap h') (hge : c.s.heap.objs.size ≤ c') (hlt : c' < h'.objs.size) (hrec : h'.CodeRec (.ref c') qual)
    (htb : h'.get? st.t = some (tabObj (ps ++ #[rawInt pos.line, rawInt pos.col, .ref c']))) (hu : ∀ pq ∈ st.at', pq.1.line = pos.line → pq.1.col = pos.col → pq.2 = qual) (hf : fo.isFreed = false) (hp : Φ fo (.ref c')) :
    ∃ M', Made X c m b qual Φ h'.objs.size ⟨{ c.s with heap := h'.push fo, toks := tk }, M'⟩ fo (.ref c') := by
  obtain ⟨c2, oc, vs, t, e2, hoc, hd, hv⟩ := hrec
  cases e2
  have nn : ∀ a, c.s.heap.objs.size ≤ a → c.M.h a = none := fun a h => S.fresh (by
    cases e : c.s.heap.get? a with
    | none => rfl
    | some o => exact absurd (Heap.lt_size e) (Nat.not_lt.mpr h))
  have kc := nn c' hge
  have kf := nn h'.objs.size (Nat.le_of_lt (Nat.lt_of_le_of_lt hge hlt))
  have hcf : c' ≠ h'.objs.size := Nat.ne_of_lt hlt
  have hKf : (c.M.set c' (.frz oc)).h h'.objs.size = none := (Map.set_ne _ _ hcf.symm).trans kf
  have le : c.M.le ((c.M.set c' (.frz oc)).set h'.objs.size (fcel b fo)) := (Map.le_set _ kc).tr (Map.le_set _ hKf)
  have hcr : CodeRecM ((c.M.set c' (.frz oc)).set h'.objs.size (fcel b fo)) (.ref c') qual := .mk ((Map.set_ne _ _ hcf).trans (Map.set_at _ _ _)) hd hv
  have hm : ∀ {a j}, ((c.M.set c' (.frz oc)).set h'.objs.size (fcel b fo)).h a = some (.mu j) → c.M.h a = some (.mu j) := fun {a j} e => by
    by_cases h1 : a = h'.objs.size
    · rw [h1, Map.set_at] at e; exact (fcel_mu (Option.some.inj e)).elim
    · rw [Map.set_ne _ _ h1] at e
      by_cases h2 : a = c'
      · rw [h2, Map.set_at] at e; cases e
      · rwa [Map.set_ne _ _ h2] at e
  refine ⟨_, kf, le, { S with c := fun a x e => ?_, i := fun a b j e1 e2 => S.i a b j (hm e1) (hm e2), x := S.x.tr le }, Map.set_at _ _ _, hcr, hp⟩
  have e : ((c.M.set c' (.frz oc)).set h'.objs.size (fcel b fo)).h a = some x := e
  by_cases h1 : a = h'.objs.size
  · subst h1; rw [Map.set_at] at e; cases e; exact .fc b (Heap.get?_push_size _ hf)
  · rw [Map.set_ne _ _ h1] at e
    by_cases h2 : a = c'
    · subst h2; rw [Map.set_at] at e; cases e; exact .frz (Heap.get?_push_of_some _ hoc)
    · rw [Map.set_ne _ _ h2] at e
      by_cases h3 : a = st.t
      · subst h3
        rw [hst] at e; cases e
        refine .tab (ps := ps ++ #[rawInt pos.line, rawInt pos.col, .ref c']) ⟨Heap.get?_push_of_some _ htb, by simpa using TriplesOk_snoc _ _ _ _ hT, fun pq hpq cv hcv => ?_⟩
        rw [Array.toList_append] at hcv
        rcases codeAmong_app _ hT hcv with h | ⟨h1, h2, h3⟩
        · exact (hold pq hpq cv h).up le.l0.f
        · rw [hu pq hpq h1 h2, h3]; exact hcr
      · exact (S.c a x e).go le.l0 (fun o q => Heap.get?_push_of_some _ (hx a o h3 q)) fun zz zz => rfl
private theorem mkFn (b : Bool) (S : Hp X c m) (Mk : Makes X st) {A : Around} {mk : Sem Value} {Q E : Value → Shared → Prop} {qual : Str} {pos : Pos} {Φ : Obj → Value → Prop} (hu : ∀ pq ∈ st.at', pq.1.line = pos.line → pq.1.col = pos.col → pq.2 = qual) (hin : ∃ pq ∈ st.at', pq.1 = pos)
    (miss : ∀ mg ps, c.s.heap.Ns mainGlobals mg → CodeHd c.s.heap st.c st.t → c.s.heap.get? st.t = some (tabObj ps) → TriplesOk ps.toList → codeAmong pos ps.toList = none → mainGlobals ≠ st.t → c.s.heap.BuiltinsAt mg st.t →
      (∀ (fo : Obj) (c' : Addr) (h' : Heap) (tk : Nat), Heap.ExtBut st.t c.s.heap h' → c.s.heap.objs.size ≤ c' → c' < h'.objs.size → h'.CodeRec (.ref c') qual → h'.get? st.t = some (tabObj (ps ++ #[rawInt pos.line, rawInt pos.col, .ref c'])) → fo.isFreed = false → Φ fo (.ref c') → Q (.ref h'.objs.size) { c.s with heap := h'.push fo, toks := tk }) → wpAny (model X.prog X.w) A mk Q E c.s)
    (hit : ∀ mg ps cv, c.s.heap.Ns mainGlobals mg → CodeHd c.s.heap st.c st.t → c.s.heap.get? st.t = some (tabObj ps) → TriplesOk ps.toList → codeAmong pos ps.toList = some cv → c.s.heap.BuiltinsAt mg st.t →
      (∀ (fo : Obj) (h' : Heap) (tk : Nat), (∀ b o, c.s.heap.get? b = some o → h'.get? b = some o) → c.s.heap.objs.size ≤ h'.objs.size → fo.isFreed = false → Φ fo cv → Q (.ref h'.objs.size) { c.s with heap := h'.push fo, toks := tk }) → wpAny (model X.prog X.w) A mk Q E c.s)
    (k : ∀ f d fo cd, Made X c m b qual Φ f d fo cd → Q (.ref f) d.s) : wpAny (model X.prog X.w) A mk Q E c.s := by
  obtain ⟨mg, bm, o, M⟩ := Mk
  have hst := S.x.h _ _ M.t
  have ht : ∃ ps, TabOk' c.M c.s.heap st.t st ps := by
    cases S.c _ _ hst with
    | tab h => exact ⟨_, h⟩
  obtain ⟨ps, hP, hT, hold⟩ := ht
  have hgP : mainGlobals ≠ st.t := fun q => by
    cases M.gl with
    | mk a => rw [q, M.t] at a; cases a
  have hbP : bm ≠ st.t := fun q => by have a := M.bm; rw [q, M.t] at a; cases a
  have hb : c.s.heap.BuiltinsAt mg st.t := ⟨bm, o, M.b, M.n1, M.n2, hbP, S.base M.bm, M.cls, M.dict, M.data⟩
  have C := M.hd c.s.heap fun b o e => S.base e
  cases hf : codeAmong pos ps.toList with
  | none => exact miss mg ps (M.gl.ns S) C hP hT hf hgP hb fun fo c' h' tk hx hge hlt hrec htb h1 h2 => (S.made b hst hT hold hx hge hlt hrec htb hu h1 h2).elim fun M' h => k _ _ _ _ h
  | some cv =>
    refine hit mg ps cv (M.gl.ns S) C hP hT hf hb fun fo h' tk hk hsz h1 h2 => ?_
    have S' : Sep X { c.s with heap := h', toks := c.s.toks } c.M m := S.keep fun b o zz e => hk b o e
    obtain ⟨pq, hpq, e⟩ := hin
    subst e
    have hn : c.M.h h'.objs.size = none := S'.top
    exact k h'.objs.size ⟨{ c.s with heap := h'.push fo, toks := tk }, c.M.set h'.objs.size (fcel b fo)⟩ fo cv ⟨hn, Map.le_set _ hn, S'.putNew hn (fun zz zz zz => push_ne) (fun zz zz zz zz => rfl) (fun zz e => (fcel_mu e).elim) (.fc b (Heap.get?_push_size _ h1)), Map.set_at _ _ _, ((hu pq hpq rfl rfl) ▸ hold pq hpq cv hf).up (Map.le_set _ hn).l0.f, h2⟩
end
end
section
open PySem PySem.W PyProof.Rows PySem.Calls PySem.SeqAt
private theorem execs_app (l r : List Stmt) (env : Env) : execs (l ++ r) env = execs l env >>= fun f => match f with | .next => execs r env | f => pure f := by
  induction l with
  | nil => exact (pure_bind ..).symm
  | cons s l ih =>
    rw [List.cons_append, execs_cons, execs_cons, bind_assoc]
    refine congrArg _ (funext fun f => ?_)
    cases f <;> first | exact ih | exact (pure_bind ..).symm
section
variable {X : Amb} {D : Nat} {sc : Names} {L L' : Lc} {m m1 : Mem} {P : RP} {rest : List Stmt} {cd : Value} {q : Str}
noncomputable def ThenE (X : Amb) (D : Nat) (sc : Names) (cd : Value) (q : Str) (rest : List Stmt) (P : RP) : RP
  | .next, L, m => WE X D sc cd q rest L m P
  | fl, L, m => P fl L m
private theorem WE.app {pre : List Stmt} (h : W X D sc pre L m (ThenE X D sc cd q rest P)) : WE X D sc cd q (pre ++ rest) L m P := fun env own A c e1 e2 T Q E k => by
  rw [execs_app]
  refine wpAny_bind (h env own A c T _ _ fun v d fl L' m' f => ?_)
  cases f.r with
  | next => exact f.p env own A d e1 e2 (T.on f.F) Q E fun v e fl L m g => k v e fl L m (g.fr f.l)
  | brk => exact wpAny_pure (k _ _ _ _ _ ⟨f.l, f.F, .brk, f.p⟩)
  | cont => exact wpAny_pure (k _ _ _ _ _ ⟨f.l, f.F, .cont, f.p⟩)
  | ret r => exact wpAny_pure (k _ _ _ _ _ ⟨f.l, f.F, .ret r, f.p⟩)
structure Knows (X : Amb) (F : Fd) (q : Str) (L : Lc) (X' : Amb) (cl : List (Str × Addr)) (f : Addr) : Prop where
  o : ∃ M, X' = X.over M
  b : X.B.le X'.B
  f : FnAt X'.B F q cl .none f
  v : FreeK X'.B F.scope.names cl (seen F.scope.names L)
private theorem WE.def {st : Site} (Mk : Makes X st) {name : Str} {params : Arguments} {body : List Stmt} {scope : Scope} {pos : Pos} {qual : Str} (hcd : cd = .ref st.c) (hq : q ++ name = qual) (hx : okB sc name = true) (hcl : scope.names.all (fun p => p.2 != .free || sc.lookup p.1 == some .cell) = true)
    (hd0 : params.defaults = []) (hk0 : params.kw_defaults = []) (ha : ∀ env, annTrees params none env = []) (hu : ∀ pq ∈ st.at', pq.1.line = pos.line → pq.1.col = pos.col → pq.2 = qual) (hin : ∃ pq ∈ st.at', pq.1 = pos)
    (ok : ∀ f, giveOk sc scope.names (bd name (.ext (.ref f)) L) = true)
    (h : ∀ X' cl f, Knows X ⟨name, params, body, scope⟩ qual (bd name (.ext (.ref f)) L) X' cl f → W X' D (kept scope.names sc) rest (bd name (.ext (.ref f)) L) m (OnlyRet P)) :
    WE X D sc cd q (.FunctionDef name params body [] none [] scope none name pos :: rest) L m P := fun env own A c e1 e2 T Q E k => by
  refine wpAny_execs_cons (nestDef_K hd0 hk0 (ha env) ?_)
  have hqn : qualnameIn env name name = qual := by
    unfold qualnameIn
    have : (env.kindOf name == some .globalExplicit) = false := by
      have : env.kindOf name = some .local ∨ env.kindOf name = some .cell := (nameOk hx).imp (fun e => T.F.N.names.at e nofun) fun e => T.F.N.names.at e nofun
      rcases this with h | h <;> rw [h] <;> rfl
    rw [this, e2]; exact hq
  rw [hqn]
  have hcc : closureFor scope env = pure (closL env.cells scope.names []) := closureFor_eq fun x hx => by
    have := List.all_eq_true.mp hcl _ hx
    have : sc.lookup x = some .cell := beq_iff_eq.mp this
    rcases T.T x (.inr this) with q | ⟨_, c, h, _⟩
    · rw [show env.kindOf x = some .cell from T.F.N.names.at this nofun] at q; cases q
    · exact ⟨c, h⟩
  refine mkFn true T.F.S Mk (Φ := fun fo cd => ∃ doc pm ct, fo = { cls := .type "function", data := .func (fnXD ⟨name, params, body, scope⟩ qual (closL env.cells scope.names []) .none doc pm cd ct) }) hu hin
    (fun mg ps h1 h2 h3 h4 h5 h6 h7 k => makeFunction_K hcc T.F.N.gl h1 (e1.trans hcd) h2 h3 h4 h5 h6 h7 fun c' ctv doc h' tk a b c d e => k _ c' h' tk a b c d e rfl ⟨_, _, _, rfl⟩)
    (fun mg ps cv h1 h2 h3 h4 h5 h6 k => makeFunction_hit hcc T.F.N.gl h1 (e1.trans hcd) h2 h3 h4 h5 h6 fun ctv doc h' tk a b => k _ h' tk a b rfl ⟨_, _, _, rfl⟩) fun f d fo cd' md => ?_
  refine (T.F.keep md.l md.h).store (T.T name (nameOk hx)) (.ext (.ref f)) fun d2 l2 F2 => ?_
  obtain ⟨X', own', c', g⟩ := (T.on F2).give (ok f)
  obtain ⟨doc, pm, ct, hfo⟩ := md.p
  have lf : d.M.lef d2.M := fun a o e => l2.h a _ (fun ha => ((T.F.keep md.l md.h).ow a ha).1.elim fun o' e' => by rw [e] at e'; cases e') e
  have fa : FnAt X'.B ⟨name, params, body, scope⟩ qual (closL env.cells scope.names []) .none f := ⟨_, doc, pm, cd', ct, g.l _ _ (lf _ _ (hfo ▸ md.f)), rfl, rfl, (md.c.up lf).up g.l⟩
  have := h X' _ f ⟨⟨_, g.o⟩, g.b, fa, g.F⟩ env own' A c' g.T Q E fun v e fl L m fin => k v e fl L m ((g.k fin).fr ((md.l.b own).tr l2))
  rw [g.s, g.o] at this
  exact this
end
end
section
open PySem PySem.W PyProof.Rows PySem.Calls PySem.SeqAt
section
variable {X : Amb} {D : Nat} {sc : Names} {L : Lc} {m m1 m2 m3 : Mem} {P : RP} {rest : List Stmt}
private theorem BinM.mul {xs : List AV} {n : Int} (h0 : xs ≠ []) (h1 : n ≤ 2 ^ 20) (h2 : -(2 ^ 60) ≤ n) (h3 : xs.length * n.toNat ≤ 2 ^ 23) : BinM X D (binaryOp .Mult) m (.lst xs) (.int n) (.mref m.length) (sn m (.lst (List.replicate n.toNat xs).flatten)) := fun A c v w R S r q Q E k =>
  mulGo S r q h0 h1 h2 h3 fun us ru => k _ _ (Got.newMut S ru c.s.toks)
private theorem BinM.of {op : Value → Value → Sem Value} {x y r : AV} (h : Bin X D op m x y r) : BinM X D op m x y r m := h
private theorem FnV.clo {F : Fd} {q : Str} {cl : List (Str × Addr)} {a : Addr} {avs : List AV} {r : AV} (h : FnAt X.B F q cl .none a) (ho : Call X D (opF a) m avs r m1) : FnV X D (.ext (.ref a)) m avs r m1 := fun zz zz zz zz zz zz zz hx hp => .callV hx h hp ho
private theorem Reps.setAt {M : Map} {xs : List AV} {vs : List Value} {k : Nat} {x : AV} {v : Value} (r : Reps M xs vs) (h : Rep M x v) : Reps M (xs.set k x) (vs.set k v) := ⟨by rw [List.length_set, List.length_set, r.len], fun i y w h1 h2 => by
  rw [List.getElem?_set] at h1 h2
  split at h1
  · rename_i e
    rw [if_pos e] at h2
    split at h1
    · split at h2
      · cases h1; cases h2; exact h
      · cases h2
    · cases h1
  · rename_i e
    rw [if_neg e] at h2
    exact r.at' i y w h1 h2⟩
private theorem W.setIt {o i value : Expr} {pos' pos : Pos} {j : Nat} {k : Int} {xs : List AV} {v : AV} (hs : NoSwap value) (hv : PE X D sc value L m v m1) (ho : PE X D sc o L m1 (.mref j) m2) (hi : PE X D sc i L m2 (.int k) m3) (e : m3[j]? = some (.lst xs)) (h0 : 0 ≤ k) (h1 : k < xs.length) (hz : xs.length ≤ 2 ^ 24)
    (h : W X D sc rest L (m3.set j (.lst (xs.set k.toNat v))) P) : W X D sc (.Assign [.Subscript o i pos'] value pos :: rest) L m P := .seq fun env own A c T Q E q =>
  wpAny_Assign_Subscript (hv.go T fun vv d1 l1 F1 r1 => ho.go (T.on F1) fun vo d2 l2 F2 r2 => hi.go (T.on F2) fun vi d3 l3 F3 r3 => by
    obtain ⟨t, rfl⟩ := r3.i_int
    cases r2.i_mref with
    | @mk a ha =>
      have ha := F2.l0 l3 a _ ha Cel.mnp
      obtain ⟨us, n, g1, rx⟩ := F3.S.mlist ha e
      have hlen := rx.len
      refine ki_setAt (items := us.toArray) (n := n) g1 h0 (by lia) (by simpa [hlen] using h1) ?_
      have r1' := (r1.up0 (F1.l0 l2)).up0 (F2.l0 l3)
      exact q _ ⟨{ d3.s with heap := _, toks := d3.s.toks }, d3.M⟩ .next L _ ⟨(l1.tr l2).tr l3, F3.keep (d := ⟨{ d3.s with heap := _, toks := d3.s.toks }, d3.M⟩) (.rf _) (F3.S.upd ha g1 (ws := us.set k.toNat vv) (by simp) (rx.setAt r1') _), .next, h⟩) (hs _ _ _)
end
inductive SetK (m : Mem) (v : AV) (K : Mem → Prop) : AV → AV → Prop
  | mk {j k xs m'} : m[j]? = some (.lst xs) → 0 ≤ k → k < xs.length → xs.length ≤ 2 ^ 24 → m.set j (.lst (xs.set k.toNat v)) = m' → K m' → SetK m v K (.mref j) (.int k)
private theorem W.setItR {G : Cx} (hD : 4 ≤ G.D) {L : Lc} {m : Mem} {P : RP} {rest : List Stmt} {o i value : Expr} {pos' pos : Pos} (hs : notComp value = true) (h : wpE G 40 value L m fun v m1 => wpE G 40 o L m1 fun a m2 => wpE G 40 i L m2 fun k m3 => SetK m3 v (fun m' => wpS G 40 40 rest L m' P) a k) :
    W G.X G.D G.sc (.Assign [.Subscript o i pos'] value pos :: rest) L m P :=
  ((wpOk hD 40).e _ _ _ _ h).go fun v m1 h1 h => ((wpOk hD 40).e _ _ _ _ h).go fun a m2 h2 h => ((wpOk hD 40).e _ _ _ _ h).go fun k m3 h3 h => by
    cases h with
    | mk e a b c hm h => subst hm; exact .setIt (noSwap_c hs) h1 h2 h3 e a b c (wpS_ok hD h)
end
section
open PySem PySem.W PyProof.Rows PySem.Calls PySem.SeqAt
noncomputable def prog1 : List Stmt := PySem.Challenge.pw_wb0073_01.main.body
noncomputable def builtins1 : List (Str × Value) := [("len", .builtin "len"), ("range", .type "range"), ("list", .type "list"), ("enumerate", .type "enumerate"), ("reversed", .type "reversed"), ("sum", .builtin "sum"), ("divmod", .builtin "divmod"), ("iter", .builtin "iter")]
noncomputable def defs1 : List (Nat × Addr) := [(2, 21), (3, 28), (4, 35), (5, 42), (6, 49), (7, 56), (12, 81), (13, 88), (14, 95), (18, 144), (19, 149), (20, 156), (21, 161), (22, 166), (23, 171), (24, 178), (25, 185), (26, 192), (27, 199), (28, 204), (29, 211), (30, 216)]
structure Kn (X : Amb) : Prop where
  lim : NoLim X.B
  sys : ∃ o, X.B.h sysModules = some (.pin o)
  bu : ∀ x v, builtins1.lookup x = some v → Glo X.B x v
  fn : ∀ n a, defs1.lookup n = some a → FnG X (fdAt prog1 n) a
end
section
open PySem PySem.W PyProof.Rows PySem.Calls PySem.SeqAt
structure FnC (X : Amb) (F : Fd) (a c : Addr) : Prop where
  g : Glo X.B F.name (.ref a)
  f : ∃ o doc pm ct, FnObj X.B F F.name [] .none a o doc pm (.ref c) ct
set_option backward.match.sparseCases false in
noncomputable def ndPos (l : List Stmt) (k : Nat) : Pos := match l[k]? with
  | some (.FunctionDef _ _ _ _ _ _ _ _ _ p) => p
  | _ => default
noncomputable def siteI : Site := ⟨34, 30, [(ndPos (fdAt prog1 4).body 1, "_int2digits.<locals>.inner")]⟩
noncomputable def siteD : Site := ⟨41, 37, [(ndPos (fdAt prog1 5).body 0, "_digits2int.<locals>.inner")]⟩
structure KnC (X : Amb) : Prop extends Kn X where
  ci : FnC X (fdAt prog1 4) 35 34
  mi : Makes X siteI
  cd : FnC X (fdAt prog1 5) 42 41
  md : Makes X siteD
  dl : GloV X "_DIV_LIMIT" (.int 4000)
section
variable {X X' : Amb} {D : Nat} {m : Mem} {avs : List AV} {r : AV}
private theorem NoLim.up {M N : Map} (h : NoLim M) (l : M.le N) : NoLim N := h.imp fun zz q => ⟨q.1.up l, q.2⟩
private theorem Kn.up (k : Kn X) (l : X.B.le X'.B) : Kn X' := ⟨k.lim.up l, k.sys.imp fun zz e => l.h _ _ e, fun x v e => (k.bu x v e).up l, fun n a e => ⟨(k.fn n a e).g.up l, (k.fn n a e).f.up l⟩⟩
private theorem FnC.mk' {F : Fd} {a c : Addr} (hf : FnC X F a c) (lim : NoLim X.B) (hD : 4 ≤ D) {ps : List Str} (mu : List Nat) {pre rest : List Stmt} (hs : F.body = pre ++ rest) (ok : fnOkB ps F.scope = true) (hbind : ∀ doc pm cd ct, BindN (fnXD F F.name [] .none doc pm cd ct) ps [] []) (hl : avs.length = ps.length)
    (hb : wpS ⟨X, D, F.scope.names, mu⟩ 40 40 pre (ps.zip avs) m (ThenE X D F.scope.names (.ref c) (F.name ++ ".<locals>.") rest (Ret (KeptA m r)))) : Fn X (D + 1) F.name m avs r m := by
  obtain ⟨o, doc, pm, ct, h⟩ := hf.f
  have w : WE X D F.scope.names (.ref c) (F.name ++ ".<locals>.") F.body (ps.zip avs) m (Ret (KeptA m r)) := by
    rw [hs]; exact .app (wpS_ok (G := ⟨X, D, F.scope.names, mu⟩) hD hb)
  exact .f hf.g ⟨o, doc, pm, _, ct, h⟩ ((h.call lim (fnOk ok) hbind hl w).keep fun zz zz M h => h M)
private theorem CallR.to {op : List Value → Sem Value} {mF : Mem} (h : CallR X D op m avs (IsV r mF)) : Call X D op m avs r mF := fun A c vs Ro S rs Q E k => h A c vs Ro S rs Q E fun v d r' m' hr g => by cases hr; exact k v d g
private theorem FnAt.mkX {F : Fd} {q : Str} {cl : List (Str × Addr)} {a : Addr} {ps : List Str} {fvs : Lc} {mF : Mem} (h : FnAt X.B F q cl .none a) (lim : NoLim X.B) (hD : 4 ≤ D) (mu : List Nat) (ok : cloOkB ps F.scope = true) (Fv : FreeK X.B F.scope.names cl fvs) (hbind : ∀ doc pm cd ct, BindN (fnXD F q cl .none doc pm cd ct) ps [] []) (hl : avs.length = ps.length)
    (hb : wpS ⟨X, D, F.scope.names, mu⟩ 40 40 F.body (ps.zip avs ++ fvs) m (Ret (IsV r mF))) : FnV X (D + 1) (.ext (.ref a)) m avs r mF :=
  .clo h (h.callF lim (cloOk ok) Fv hbind hl (wpS_ok (G := ⟨X, D, F.scope.names, mu⟩) hD hb)).to
private theorem FreeK.weak {M : Map} {names : Names} {cl : List (Str × Addr)} {L L' : Lc} (h : FreeK M names cl L) (w : Sub0 L' L) : FreeK M names cl L' := ⟨h.cel, fun x av e => h.var x av (w x av e)⟩
end
end
section
open PySem PySem.W PyProof.Rows PySem.Calls PySem.SeqAt
section
variable {X : Amb} {D : Nat} {sc : Names} {L : Lc} {m m1 m2 m3 : Mem}
private theorem callD {fd : FuncData} {o : Obj} {a : Addr} {body : List Stmt} {ps : List Str} {avs : List AV} {R : AV → Mem → Prop} (hm : X.B.h a = some (.frz o)) (hd : o.data = .func fd) (hc : CodeRecM X.B fd.code fd.qualname) (hbody : fd.body = .stmts body) (hg : fd.globals = mainGlobals) (hbu : fd.builtins = builtinsNs) (hcl : fd.closure = []) (lim : NoLim X.B) (ok : CloOk ps fd.scope)
    (hl : avs.length = ps.length) (hb : W X D fd.scope.names body (ps.zip avs) m (Ret R)) {A : Around} {c : Cf} {vs pos : List Value} {kw : List (Str × Value)} (Ro : Room A (D + 1)) (S : Hp X c m) (rs : Reps c.M avs vs) (hbind : BindsTo c.s fd ⟨pos, kw⟩ (ps.zip vs)) {Q E : Value → Shared → Prop} (k : ∀ v d r m', R r m' → Got X c m' r v d → Q v d.s) :
    wpAny (model X.prog X.w) A (call (.ref a) pos kw) Q E c.s := by
  refine wpAny_call (codeAny_call_def (fd := fd) (binds := ps.zip vs) (by have := Ro.2.1; lia) (S.base hm) hd (lim.lim S) (hc.go S) hbody hbind ok.nc (fun x hx => ok.kd _ (List.of_mem_zip hx).1) (fun h₁ hns hk => ?_) ok.co ok.gen ok.kind)
  have e := (enterF (fvs := []) (a := a) (tk := c.s.toks + (ps.zip vs).length) ok hg hbu (by rw [hcl]; exact ⟨nofun, nofun⟩) Ro S rs hns hk)
  rw [List.append_nil] at e
  exact wpAny_mono (e.run hb.e k) (fun zz zz x => x) fun zz zz x => x.elim
private theorem PE.callKw {x kname : Str} {a : Addr} {o : Obj} {fd : FuncData} {p pos kp : Pos} {e ke : Expr} {es : List Expr} {avs : List AV} {kv r : AV} (hx : sc.lookup x = some .globalImplicit) (hg : Glo X.B x (.ref a)) (hm : X.B.h a = some (.frz o)) (hd : o.data = .func fd)
    (he : ∀ env, starEach (e :: es) env = (false, eval e env) :: starEach es env) (hes : PEs X D sc (e :: es) L m avs m1) (hk : PE X D sc ke L m1 kv m2) (ho : Call X D (fun vs => PySem.call (.ref a) vs.dropLast [(kname, vs.getLastD .none)]) m2 (avs ++ [kv]) r m3) :
    PE X D sc (.Call (.Name x p) (e :: es) [⟨some kname, ke, kp⟩] pos) L m r m3 := fun env A c T Q E k => by
  show wpAny _ A (do callWith pos (← eval (.Name x p) env) [] (backTo pos (starEach (e :: es) env)) (backToKw pos (keywordEach [⟨some kname, ke, kp⟩] env))) Q E c.s
  refine wpAny_bind (globGo T hx hg ?_)
  refine callWith_function_kw (o := o) (fd := fd) (evalArgs_kw2 rfl (hes pos env A c T _ _ fun vs d g => ?_) (he env))
  refine kwAll_cons (hk env A d (T.up g.l g.h) _ _ fun kv d2 g2 => kwAll_nil ?_)
  refine ⟨⟨g2.h.base hm, hd⟩, ?_⟩
  have h3 := ho A d2 (vs ++ [kv]) T.R g2.h ((g.r.up g2.l).app (.one g2.r)) Q E fun v d3 g3 => k v d3 (g3.fr (g.l.tr g2.l))
  simp only [List.dropLast_concat, List.getLastD_concat] at h3
  exact h3
end
end
section
open PySem PySem.W PyProof.Rows PySem.Calls PySem.SeqAt
noncomputable def bisTup (t : Tok) : Obj := { cls := .type "tuple", data := .seq #[.int 0 t, .none] }
noncomputable def bisDct (P : Params) (t : Tok) : Obj := { cls := .type "dict", data := .dict #[{ hash := PyData.keyHash P ("key" : Str), key := .str "key" t, val := .none }] 1 }
structure BisAt' (X : Amb) (F : Fd) (a d k : Addr) (o : Obj) (doc pm cd ct : Value) (P : Params) (t u : Tok) : Prop where
  g : Glo X.B F.name (.ref a)
  m : X.B.h a = some (.frz o)
  data : o.data = .func (fnX F.name F.name F.params F.body F.scope [] (.ref d) (.ref k) doc pm none cd ct)
  code : CodeRecM X.B cd F.name
  d : X.B.h d = some (.frz (bisTup t))
  k : X.B.h k = some (.frz (bisDct P u))
noncomputable def BisAt (X : Amb) (F : Fd) (a d k : Addr) : Prop := ∃ o doc pm cd ct P t u, BisAt' X F a d k o doc pm cd ct P t u
structure KnB (X : Amb) : Prop extends KnC X where
  bR : BisAt X (fdAt prog1 9) 65 57 58
  bL : BisAt X (fdAt prog1 10) 74 66 67
noncomputable abbrev bisNames : List Str := ["a", "x", "lo", "hi", "key"]
noncomputable def bisK (P : Params) (d k : Addr) (t u : Tok) : Frag := [(d, bisTup t), (k, bisDct P u)]
private theorem inK {P : Params} {d k : Addr} {t u : Tok} {h : Heap} (h1 : h.get? d = some (bisTup t)) (h2 : h.get? k = some (bisDct P u)) : (bisK P d k t u).In h := fun a o e => by
  unfold bisK at e
  rw [List.lookup_cons] at e
  cases hd : a == d with
  | true => rw [hd] at e; cases e; rw [eq_of_beq hd]; exact h1
  | false =>
    rw [hd, List.lookup_cons] at e
    cases hk : a == k with
    | true => rw [hk] at e; cases e; rw [eq_of_beq hk]; exact h2
    | false => rw [hk] at e; cases e
section
variable {X : Amb} {D : Nat} {m m' : Mem} {av r kv : AV} {x : Int}
private theorem BisAt.two {F : Fd} {a d k : Addr} (h : BisAt X F a d k) (lim : NoLim X.B) (hD : 4 ≤ D) (ok : cloOkB bisNames F.scope = true) (hbind : ∀ {P : Params} {s : Shared} {t u : Tok} (_ : (bisK P d k t u).In s.heap) (doc pm cd ct a x : Value), BindsTo s (fnX F.name F.name F.params F.body F.scope [] (.ref d) (.ref k) doc pm none cd ct) ⟨[a, x], []⟩ (bisNames.zip [a, x, .int 0 t, .none, .none]))
    (hb : wpS ⟨X, D, F.scope.names, []⟩ 40 40 F.body (bisNames.zip [av, .int x, .int 0, .none, .none]) m (Ret (IsV r m'))) : Fn X (D + 1) F.name m [av, .int x] r m' := by
  obtain ⟨o, doc, pm, cd, ct, P, t, u, h⟩ := h
  refine fun sc L m0 p es pos hx hes env A c T Q E kk => ?_
  refine (wpAny_bind (globGo T hx h.g (callWith_function (o := o) ((hes.p env pos).2 _ _ _ _ _ _ (hes.v pos env A c T _ _ fun vs e g => ⟨⟨g.h.base h.m, h.data⟩, ?_⟩)))) : wpAny (model X.prog X.w) A (do callWith pos (← eval (.Name F.name p) env) [] (backTo pos (starEach es env)) (backToKw pos (keywordEach [] env))) Q E c.s)
  cases g.r.i_cons with
  | mk r1 q1 => cases q1.i_cons with
    | mk r2 q2 =>
      cases q2.i_nil
      exact callD (avs := [av, .int x, .int 0, .none, .none]) h.m h.data h.code rfl rfl rfl rfl lim (cloOk ok) rfl (wpS_ok (G := ⟨X, D, F.scope.names, []⟩) hD hb) T.R g.h (.cons r1 (.cons r2 (.cons (.int _ t) (.cons .none (.one .none))))) (hbind (inK (g.h.base h.d) (g.h.base h.k)) _ _ _ _ _ _) fun v d r' m'' hr g2 => by cases hr; exact kk v d (g2.fr g.l)
private theorem BisAt.key {F : Fd} {a d k : Addr} (h : BisAt X F a d k) (lim : NoLim X.B) (hD : 4 ≤ D) (ok : cloOkB bisNames F.scope = true) (hbind : ∀ {P : Params} {s : Shared} {t u : Tok} (_ : (bisK P d k t u).In s.heap) (doc pm cd ct a x y : Value), BindsTo s (fnX F.name F.name F.params F.body F.scope [] (.ref d) (.ref k) doc pm none cd ct) ⟨[a, x], [("key", y)]⟩ (bisNames.zip [a, x, .int 0 t, .none, y]))
    (hb : wpS ⟨X, D, F.scope.names, []⟩ 40 40 F.body (bisNames.zip [av, .int x, .int 0, .none, kv]) m (Ret (IsV r m'))) {sc : Names} {L : Lc} {m0 m1 : Mem} {p pos kp : Pos} {e ke : Expr} {es : List Expr} (hx : sc.lookup F.name = some .globalImplicit) (he : ∀ env, starEach (e :: es) env = (false, eval e env) :: starEach es env) (hes : PEs X (D + 1) sc (e :: es) L m0 [av, .int x] m1) (hk : PE X (D + 1) sc ke L m1 kv m) :
    PE X (D + 1) sc (.Call (.Name F.name p) (e :: es) [⟨some "key", ke, kp⟩] pos) L m0 r m' := by
  obtain ⟨o, doc, pm, cd, ct, P, t, u, h⟩ := h
  refine .callKw hx h.g h.m h.data he hes hk fun A c vs Ro S rs Q E kk => ?_
  cases rs.i_cons with
  | mk r1 q1 => cases q1.i_cons with
    | mk r2 q2 => cases q2.i_cons with
      | mk r3 q3 =>
        cases q3.i_nil
        exact callD (avs := [av, .int x, .int 0, .none, kv]) h.m h.data h.code rfl rfl rfl rfl lim (cloOk ok) rfl (wpS_ok (G := ⟨X, D, F.scope.names, []⟩) hD hb) Ro S (.cons r1 (.cons r2 (.cons (.int _ t) (.cons .none (.one r3))))) (hbind (inK (S.base h.d) (S.base h.k)) _ _ _ _ _ _ _) fun v d r' m'' hr g2 => by cases hr; exact kk v d g2
end
end
section
open PySem PySem.W PyProof.Rows PySem.Calls PySem.SeqAt
structure ClsD where
  (nm q : Str)
  (N : Addr)
  (bs : List Value)
  (sn : List Str)
  (sub : List Value)
  (ab : Bool)
  (col : Option Bool)
  (dd : Option Addr)
  (k0 k1 k2 k3 k5 : Option Value)
  (newId : String)
noncomputable abbrev ClsD.obj (r : ClsD) (C : Addr) : Obj := excClassObj r.nm r.q C r.N r.bs [.type "object"] true r.sn r.sub r.ab r.col r.dd r.k0 r.k1 r.k2 r.k3 r.k5 r.newId
structure ClsAt (X : Amb) (C : Addr) (mN : Str → Option Value) (r : ClsD) : Prop where
  m : X.B.h C = some (.frz (r.obj C))
  ns : NsM X.B r.N mN
  nga : mN "__getattribute__" = none
  nsa : mN "__setattr__" = none
  nge : mN "__getattr__" = none
noncomputable def Cls (X : Amb) (C : Addr) (mN : Str → Option Value) : Prop := ∃ r, ClsAt X C mN r
noncomputable def nsPut : List (Str × AV) → Str → AV → List (Str × AV)
  | [], n, v => [(n, v)]
  | (k, w) :: r, n, v => if k = n then (n, v) :: r else (k, w) :: nsPut r n v
private theorem nsPut_lookup (n : Str) (v : AV) (y : Str) : ∀ l : List (Str × AV), (nsPut l n v).lookup y = if y = n then some v else l.lookup y
  | [] => by
    by_cases h : y = n
    · rw [if_pos h, h]; exact List.lookup_cons_self
    · rw [if_neg h]; show List.lookup y [(n, v)] = _; rw [List.lookup_cons, beq_eq_false_iff_ne.mpr h]
  | (k, w) :: r => by
    unfold nsPut
    by_cases hk : k = n
    · subst hk
      rw [if_pos rfl, List.lookup_cons, List.lookup_cons]
      by_cases h : y = k
      · rw [if_pos h, beq_iff_eq.mpr h]
      · rw [if_neg h, beq_eq_false_iff_ne.mpr h]
    · rw [if_neg hk, List.lookup_cons, List.lookup_cons, nsPut_lookup n v y r]
      by_cases h : y = k
      · subst h; rw [beq_self_eq_true, if_neg hk, if_neg hk]
      · rw [beq_eq_false_iff_ne.mpr h]
private theorem obj_eq {a b : Obj} (h1 : a.cls = b.cls) (h2 : a.data = b.data) (h3 : a.slots = b.slots) (h4 : a.dict = b.dict) : a = b := by
  cases a; cases b; cases h1; cases h2; cases h3; cases h4; rfl
noncomputable def notExt : AV → Prop
  | .ext _ => False
  | _ => True
private theorem rep_handed {M : Map} {av : AV} {v : Value} (r : Rep M av v) (h : notExt av) : handedOut v = pure v := by
  cases r <;> first | rfl | exact h.elim
section
variable {X : Amb} {D : Nat} {sc : Names} {L : Lc} {m m1 m2 m3 : Mem} {C : Addr} {mN : Str → Option Value} {i : Nat} {l : List (Str × AV)} {P : RP} {rest : List Stmt}
structure InstA (X : Amb) (c : Cf) (C : Addr) (i : Nat) (l : List (Str × AV)) (x : Addr) (o : Obj) (d : Addr) (mm : Str → Option Value) : Prop where
  m : c.M.h x = some (.frz o)
  dict : o.dict = some d
  md : c.M.h d = some (.mu i)
  ne : d ≠ x
  ns : c.s.heap.Ns1 d mm
  I : c.s.heap.Inst x C mm
  v : NsV c.M l mm
private theorem instAt {c : Cf} {v : Value} (S : Hp X c m) (r : Rep c.M (.inst C i) v) (hm : m[i]? = some (.ns l)) : ∃ x o d mm, v = .ref x ∧ InstA X c C i l x o d mm := by
  cases r.i_inst with
  | @mk a d o h1 h2 h3 h4 h5 =>
    have hdx : d ≠ a := fun q => by rw [q, h1] at h5; cases h5
    cases S.mu h5 hm with
    | @ns _ mm n1 n2 => exact ⟨a, o, d, mm, rfl, h1, h4, h5, hdx, n1, ⟨o, S.frz h1, h2, h3, .inr ⟨d, h4, hdx, n1⟩⟩, n2⟩
private theorem NsV.at' {M : Map} {mm : Str → Option Value} {x : Str} {av : AV} (h : NsV M l mm) (e : l.lookup x = some av) : ∃ v, mm x = some v ∧ Rep M av v := by
  rcases h x with ⟨av2, v2, q1, q2, q3⟩ | ⟨q1, _⟩
  · rw [e] at q1; cases q1; exact ⟨v2, q2, q3⟩
  · rw [e] at q1; cases q1
private theorem NsV.no {M : Map} {mm : Str → Option Value} {x : Str} (h : NsV M l mm) (e : l.lookup x = none) : mm x = none := by
  rcases h x with ⟨av2, v2, q1, _⟩ | ⟨_, q⟩
  · rw [e] at q1; cases q1
  · exact q
private theorem loadInst {c : Cf} {v : Value} {name : Str} {av : AV} (S : Hp X c m) (cl : Cls X C mN) (hna : mN name = none) (hB : typeLookup (.type "object") name = pure none) (r : Rep c.M (.inst C i) v) (hm : m[i]? = some (.ns l)) (hl : l.lookup name = some av) (hx : notExt av) {A : Around} {Q E : Value → Shared → Prop} (k : ∀ w d, Got X c m av w d → Q w d.s) :
    wpAny (model X.prog X.w) A (getAttr v name true) Q E c.s := by
  obtain ⟨x, o, d, mm, rfl, I⟩ := instAt S r hm
  obtain ⟨_, hC, hN, nga, nsa, nge⟩ := cl
  obtain ⟨w, h1, h2⟩ := I.v.at' hl
  exact load_attr (S.base hC) (hN.ns S) nga hna hB I.I h1 (rep_handed h2 hx) (k w _ (.tok S h2 _))
private theorem PE.attr {e : Expr} {name : Str} {pos : Pos} {av : AV} (cl : Cls X C mN) (hna : mN name = Option.none) (hB : typeLookup (.type "object") name = pure Option.none) (hf : PE X D sc e L m (.inst C i) m1) (hm : m1[i]? = some (.ns l)) (hl : l.lookup name = some av) (hx : notExt av)
    (he : ∀ env, eval (.Attribute e name pos) env = (do
      let o ← eval e env
      standAt pos.atName
      let r ← holding [o] (getAttr o name true)
      letTemporaryGo e o r
      pure r)) : PE X D sc (.Attribute e name pos) L m av m1 := fun env A c T Q E k =>
  Attribute_any_ (hf env A c T _ _ fun v d g => loadInst g.h cl hna hB g.r hm hl hx fun w d2 g2 => k w d2 (g2.fr g.l)) (he env)
private theorem storeInst {c : Cf} {x v : Value} {name : Str} {av : AV} (S : Hp X c m) (cl : Cls X C mN) (hna : mN name = none) (hB : typeLookup (.type "object") name = pure none) (r : Rep c.M (.inst C i) x) (hm : m[i]? = some (.ns l)) (rv : Rep c.M av v) (hz : l.length ≤ 1000) {A : Around} {Q : Unit → Shared → Prop} {E : Value → Shared → Prop}
    (k : ∀ d, Gt X c (m.set i (.ns (nsPut l name av))) d → Q () d.s) : wpAny (model X.prog X.w) A (setAttr x name v) Q E c.s := by
  obtain ⟨x, o, d, mm, rfl, I⟩ := instAt S r hm
  obtain ⟨_, hC, hN, nga, nsa, nge⟩ := cl
  have g1 := S.frz I.m
  have hxC : x ≠ C := fun e => by
    have h2 := S.base hC
    rw [← e, g1] at h2; cases h2
    have := I.dict
    cases I.I with
    | intro o2 h => obtain ⟨e1, _, e3, _⟩ := h; rw [g1] at e1; cases e1; exact absurd rfl (e3 _)
  have hw : Within mm (l.map (·.1)) := fun y hy => by
    cases q : l.lookup y with
    | none => exact absurd (I.v.no q) hy
    | some av => exact lookup_key q
  refine store_attr F.store_object (S.base hC) (hN.ns S) nsa hna hB hxC I.I (fun h' tk' I' hk hsame => ?_) hw (by rw [List.length_map, sizeLine_is]; exact dB hz rfl)
  obtain ⟨o1, e1, e2, e3, e4, e5⟩ := hsame o g1
  have ho1 : o1 = o := obj_eq e2 e3 e4 ((e5 d I.dict).trans I.dict.symm)
  subst ho1
  have keep : ∀ b ob, b ≠ d → c.s.heap.get? b = some ob → h'.get? b = some ob := fun b ob hb e => by
    by_cases hbx : b = x
    · subst hbx; rw [g1] at e; cases e; exact e1
    · exact hk b ob hbx (fun o0 dx q1 q2 => by rw [g1] at q1; cases q1; rw [I.dict] at q2; cases q2; exact hb) e
  obtain ⟨o2, f1, f2, f3, f4⟩ := I'
  rw [e1] at f1; cases f1
  rcases f4 with ⟨f4, _⟩ | ⟨d2, f5, f6, f7⟩
  · rw [I.dict] at f4; cases f4
  rw [I.dict] at f5; cases f5
  refine k ⟨{ c.s with heap := h', toks := tk' }, c.M⟩ ⟨.rf _, S.setMut I.md keep (.ns f7 fun y => ?_)⟩
  rw [nsPut_lookup]
  by_cases hy : y = name
  · rw [if_pos hy, if_pos hy]; exact .inl ⟨av, v, rfl, rfl, rv⟩
  · rw [if_neg hy, if_neg hy]; exact I.v y
end
end
section
open PySem PySem.W PyProof.Rows PySem.Calls PySem.SeqAt
section
variable {X : Amb} {D : Nat} {sc : Names} {L : Lc} {m m1 m2 m3 : Mem} {C : Addr} {mN : Str → Option Value} {i : Nat} {l l2 : List (Str × AV)} {P : RP} {rest : List Stmt}
private theorem W.setAttr {o value : Expr} {name : Str} {pos' pos : Pos} {v : AV} (cl : Cls X C mN) (hna : mN name = none) (hB : typeLookup (.type "object") name = pure none) (hs : NoSwap value) (hv : PE X D sc value L m v m1) (ho : PE X D sc o L m1 (.inst C i) m2) (hm : m2[i]? = some (.ns l)) (hz : l.length ≤ 1000)
    (h : W X D sc rest L (m2.set i (.ns (nsPut l name v))) P) : W X D sc (.Assign [.Attribute o name pos'] value pos :: rest) L m P := .seq fun env own A c T Q E q =>
  plainObj_wpAny_Assign_Attribute (hv.go T fun vv d1 l1 F1 r1 => ho.go (T.on F1) fun vo d2 l2 F2 r2 => storeInst F2.S cl hna hB r2 hm (r1.up0 (F1.l0 l2)) hz fun d3 g => q .next d3 .next L _ ⟨(l1.tr l2).tr (g.l.b own), F2.keep g.l g.h, .next, h⟩) (hs _ _ _)
private theorem W.augAttr {o value : Expr} {name : Str} {pos' pos : Pos} {op : Operator} {a b r : AV} (cl : Cls X C mN) (hna : mN name = none) (hB : typeLookup (.type "object") name = pure none) (ho : PE X D sc o L m (.inst C i) m1) (hm : m1[i]? = some (.ns l)) (hl : l.lookup name = some a) (hx : notExt a) (hv : PE X D sc value L m1 b m2) (hop : Bin X D (inplaceOp op) m2 a b r) (hm2 : m2[i]? = some (.ns l2)) (hz : l2.length ≤ 1000)
    (h : W X D sc rest L (m2.set i (.ns (nsPut l2 name r))) P) : W X D sc (.AugAssign (.Attribute o name pos') op value pos :: rest) L m P := .seq fun env own A c T Q E q =>
  wpAny_AugAssign_AttributeAny (ho.go T fun vo d1 l1 F1 r1 => loadInst F1.S cl hna hB r1 hm hl hx fun w d2 g2 => (hv.go (T.on (F1.keep g2.l g2.h)) fun vb d3 l3 F3 r3 =>
    hop _ d3 w vb T.R F3.S (g2.r.up0 ((F1.keep g2.l g2.h).l0 l3)) r3 _ _ fun u d4 g4 => storeInst g4.h cl hna hB (((r1.up g2.l).up0 ((F1.keep g2.l g2.h).l0 l3)).up g4.l) hm2 g4.r hz fun d5 g5 =>
      q .next d5 .next L _ ⟨(((l1.tr (g2.l.b own)).tr l3).tr (g4.l.b own)).tr (g5.l.b own), (F3.keep g4.l g4.h).keep g5.l g5.h, .next, h⟩))
private theorem methGo {env : Env} {A : Around} {s : Shared} {o : Expr} {name : Str} {apos pos : Pos} {es : List Expr} {Q E : Value → Shared → Prop} (hbase : attributeBase o name env (eval o env) = eval o env) (hfew : Few es pos) (hline : (apos.endLine == pos.line) = true)
    (h : wpAny (model X.prog X.w) A (eval o env) (fun ov s1 => ∀ pl, wpAny (model X.prog X.w) A (getMethod ov name pl) (fun fx s2 => wpAny (model X.prog X.w) A (callWith pos fx.1 fx.2 (backTo pos (starEach es env)) (backToKw pos (keywordEach [] env))) Q E s2) E s1) E s) :
    wpAny (model X.prog X.w) A (eval (.Call (.Attribute o name apos) es [] pos) env) Q E s := by
  rw [arm_eval_Call, hbase]
  refine wpAny_bind (wpAny_mono h (fun ov s₁ h₁ => ?_) fun zz zz e => e)
  refine wpAny_bind (wpAny_standAt ?_)
  have hform : methodCallForm (es.length + ([] : List Keyword).length) (backTo pos (starEach es env)) (backToKw pos (keywordEach [] env)) = true := hfew env
  have hpos : methodCallPos true o env apos pos = pure pos := by unfold methodCallPos; simp [hline]
  unfold methodCall
  rw [hform]
  exact wpAny_bind (wpAny_holding (wpAny_mono (h₁ _) (fun fx s2 h2 => wpAny_bind (wpAny_of_eq hpos h2)) fun zz zz e => e))
private theorem Mt.inst {name : Str} {F : Fd} {q : Str} {f : Addr} {avs : List AV} {r : AV} (cl : Cls X C mN) (hfn : mN name = some (.ref f)) (mt : FnAt X.B F q [] .none f) {y : Option Value} (hB : typeLookup (.type "object") name = pure y) (hm : m1[i]? = some (.ns l)) (hl : l.lookup name = none) (ho : Call X D (opF f) m2 (.inst C i :: avs) r m3) :
    Mt X D name m1 m2 (.inst C i) avs r m3 := fun sc L m o es apos pos hb hf hline h1 h2 env A c T Q E k =>
  methGo (hb env) hf hline (h1 env A c T _ _ fun v d g pl => by
    obtain ⟨x, ob, dd, mm, rfl, I⟩ := instAt g.h g.r hm
    obtain ⟨_, hC, hN, nga, nsa, nge⟩ := cl
    obtain ⟨of, doc, pm, cd, ct, hf⟩ := mt
    refine method_of (g.h.base hC) (hN.ns g.h) nga nge hfn (g.h.base hf.m) hf.cls hB I.I (I.v.no hl) ?_
    exact callWith_function (o := of) (fd := _) ((h2.p env pos).2 _ _ _ _ _ _ (h2.v pos env A d (T.up g.l g.h) _ _ fun vs d2 g2 => ⟨⟨g2.h.base hf.m, hf.data⟩, ho A d2 _ T.R g2.h (.cons (g.r.up g2.l) g2.r) Q E fun v d3 g3 => k v d3 (g3.fr (g.l.tr g2.l))⟩)))
end
end
section
open PySem PySem.W PyProof.Rows PySem.Calls PySem.SeqAt
private theorem slot_fn_ga : Slot "function" "__getattribute__" "object.__getattribute__" := .of (owner := "object") (n := "__getattribute__") (by rw [typeLookup_type, builtinLookup_eq_fast]; kernel_rfl) (by decide +kernel) (by decide +kernel) (by decide +kernel) (by first | exact .inl (by decide +kernel) | exact .inr (by decide +kernel)) (by kernel_rfl)
private theorem entry_oga : entryFor table "object.__getattribute__" = some Builtin.«object.__getattribute__» := entryFor_of_tree (by kernel_rfl)
private theorem args_oga (o a : Value) : argsOk "object.__getattribute__" ⟨[o, a], []⟩ := by unfold argsOk; kernel_rfl
private theorem lk_fn_getattr : typeLookup (.type "function") "__getattr__" = pure none := by rw [typeLookup_type, builtinLookup_eq_fast]; kernel_rfl
private theorem lk_fn_read : typeLookup (.type "function") "read" = pure none := by rw [typeLookup_type, builtinLookup_eq_fast]; kernel_rfl
section
variable {prog : Program} {w : World} {A : Around} {E : Value → Shared → Prop} {h : Heap} {g : Array GenState} {dr : Drawn} {t : Nat} {os : OsState}
private theorem oga_entry {f d : Addr} {o : Obj} {m : Str → Option Value} {v : Value} {tk : Tok} {Q : PySem.Fin → Shared → Prop} (ho : h.get? f = some o) (hc : o.cls = .type "function") (hd : o.dict = some d) (hn : h.Ns d m) (hv : m "read" = some v) {fd : FuncData} (hdt : o.data = .func fd)
    (hq : Q (.done (.ret v)) ⟨h, g, dr, t, os⟩) : wpAny (model prog w) A (Builtin.«object.__getattribute__» ⟨[.ref f, .str "read" tk], []⟩) Q E ⟨h, g, dr, t, os⟩ := by
  unfold Builtin.«object.__getattribute__»
  repeat (first | (with_reducible refine wpAny_loadPart_at ho ?_; rw [hc]) | (with_reducible refine wpAny_of_eq lk_fn_read ?_) | wp_step)
  rw [hdt]
  unfold instanceDict
  repeat (first | (with_reducible refine wpAny_loadPart_at ho ?_; rw [hc]) | wp_step)
  rw [hd]
  repeat (first | (with_reducible refine wpAny_nsGet hn ?_; rw [hv]) | wp_step)
  exact hq
private theorem fn_getAttr {f d : Addr} {o : Obj} {m : Str → Option Value} {v : Value} {fd : FuncData} {Q : Value → Shared → Prop} {expr : Bool} (ho : h.get? f = some o) (hc : o.cls = .type "function") (hd : o.dict = some d) (hn : h.Ns d m) (hv : m "read" = some v) (hdt : o.data = .func fd) (hh : handedOut v = pure v)
    (hq : Q v ⟨h, g, dr, t + 1, os⟩) : wpAny (model prog w) A (getAttr (.ref f) "read" expr) Q E ⟨h, g, dr, t, os⟩ := by
  have hT : ∀ t', (⟨h, g, dr, t', os⟩ : Shared).TypeIs (.ref f) "function" := fun zz => ⟨o, ho, hc⟩
  unfold getAttr getAttrBy
  refine wpAny_bind (wpAny_mkText (wpAny_holding (wpAny_bind (wpAny_typeOf (hT _) (wpAny_bind (wpAny_of_eq slot_fn_ga.lookup ?_))))))
  show wpAny _ _ (getAttrByItsOwn (.ref f) (.str "read" t) (.type "function") (.builtin "object.__getattribute__") true expr) _ _ _
  unfold getAttrByItsOwn hookBefore callGetattribute
  have hb : (expr && onTheHeap (.builtin "object.__getattribute__")) = false := by cases expr <;> rfl
  rw [hb]
  simp only [Bool.false_eq_true, if_false]
  unfold boundAndCalled
  refine wpAny_bind (wpAny_of_eq (show (if onTheHeap (.type "function") then typeLookup (.type "function") "__getattr__" else pure none) = pure none from rfl) ?_)
  refine wpAny_bind (wpAny_attempt (wpAny_holding ?_))
  show wpAny _ _ (bindSpecial (.builtin "object.__getattribute__") (.ref f) >>= _) _ _ _
  refine wpAny_bind (wpAny_of_eq (slot_fn_ga.bind _) ?_)
  refine wpAny_mono (Q := fun u s' => u = v ∧ s' = ⟨h, g, dr, t + 1, os⟩) (E := fun zz zz => False)
    (wpAny_call_entry slot_fn_ga (hT _) entry_oga (oga_entry ho hc hd hn hv hdt ⟨_, rfl, rfl, rfl⟩) (args_oga _ _)) (fun u s' hv' => ?_) fun zz zz z => z.elim
  obtain ⟨rfl, rfl⟩ := hv'
  show wpAny _ _ (handedOut u) _ _ _
  rw [hh]
  exact wpAny_pure hq
private theorem fn_method {f d : Addr} {o : Obj} {m : Str → Option Value} {v : Value} {fd : FuncData} {pl : Sem Bool} {Q : Value × List Value → Shared → Prop} (ho : h.get? f = some o) (hc : o.cls = .type "function") (hd : o.dict = some d) (hn : h.Ns d m) (hv : m "read" = some v) (hdt : o.data = .func fd) (hh : handedOut v = pure v)
    (hq : Q (v, []) ⟨h, g, dr, t + 1, os⟩) : wpAny (model prog w) A (getMethod (.ref f) "read" pl) Q E ⟨h, g, dr, t, os⟩ := by
  have hT : (⟨h, g, dr, t, os⟩ : Shared).TypeIs (.ref f) "function" := ⟨o, ho, hc⟩
  unfold getMethod
  refine wpAny_bind (wpAny_specialOf hT slot_fn_ga.lookup ?_)
  show wpAny _ _ (if (Manifest.canonical "object.__getattribute__" != "object.__getattribute__") = true then _ else _) _ _ _
  rw [PySem.F.canon_object_ga, if_neg Bool.false_ne_true]
  refine wpAny_bind (wpAny_specialOf hT lk_fn_getattr ?_)
  refine wpAny_bind (wpAny_specialOf hT lk_fn_read ?_)
  exact wpAny_bind (fn_getAttr ho hc hd hn hv hdt hh (wpAny_pure hq))
end
structure IsRead (L : LamS) : Prop where
  body : ∃ p1 p2 pa pc k1 p4 k2 p5 p6, L.body = .IfExp (.Name "left" p1) (.Call (.Attribute (.Name "left" p2) "pop" pa) [.Constant (.int 0) k1 p4] [] pc) (.Constant (.str "") k2 p5) p6 ∧ (pa.endLine == pc.line) = true
  kind : L.scope.kind = .function
  co : L.scope.isCoroutine = false
  gen : L.scope.isGenerator = false
  names : L.scope.names = ([("count", .local), ("left", .free)] : Names)
  bind : ∀ fd : FuncData, fd.params = L.params → fd.defaults = .none → fd.kwdefaults = .none → ∀ a, bindArgs fd ⟨[a], []⟩ = pure ([("count", a)] : List (Str × Value))
section
variable {X : Amb} {D : Nat} {m m1 m2 m' : Mem}
private theorem callLam {fd : FuncData} {o : Obj} {a : Addr} {body : Expr} {ps : List Str} {avs : List AV} {fvs : Lc} {r : AV} (hm : X.B.h a = some (.frz o)) (hd : o.data = .func fd) (hc : CodeRecM X.B fd.code fd.qualname) (hbody : fd.body = .expr body) (hg : fd.globals = mainGlobals) (hbu : fd.builtins = builtinsNs) (lim : NoLim X.B) (ok : CloOk ps fd.scope) (Fv : FreeK X.B fd.scope.names fd.closure fvs)
    (hbind : ∀ vs : List Value, vs.length = ps.length → bindArgs fd ⟨vs, []⟩ = pure (ps.zip vs)) (hl : avs.length = ps.length) (hb : PE X D fd.scope.names body (ps.zip avs ++ fvs) m r m') : Call X (D + 1) (opF a) m avs r m' := fun A c vs Ro S rs Q E k => by
  refine wpAny_call (kla_callFunE (body := body) (by have := Ro.2.1; lia) (S.base hm) hd ok.co ok.gen hbody (hc.go S) ?_)
  rw [hbind vs (rs.len.trans hl)]
  refine wpAny_pure (wpAny_newFunctionEnv ok.nc (fun x hx => ok.kd _ (List.of_mem_zip hx).1) (fun h₁ hns hsb => ⟨(lim.lim S).fresh _ hsb, ?_⟩) ok.kind)
  have hk : ∀ b ob, c.s.heap.get? b = some ob → h₁.get? b = some ob := fun b ob e => hsb.extBut b ob (Nat.ne_of_lt (Heap.lt_size e)) (Heap.get?_push_of_some _ e)
  have e := enterF (a := a) (tk := c.s.toks + (ps.zip vs).length) ok hg hbu Fv Ro S rs hns hk
  exact kla_codeExpr (hb.go e.T fun v d l F r => k v d ⟨⟨fun b x q => l.h b x (fun hb => by rw [e.fr b hb] at q; cases q) (e.l.h b x q), fun i x q => l.g i x (e.l.g i x q)⟩, F.S, r⟩)
inductive ReadK (i : Nat) (m : Mem) : AV → Mem → Prop
  | none : m[i]? = some (.lst []) → ReadK i m (.str []) m
  | some {x xs m'} : m[i]? = some (.lst (x :: xs)) → xs.length ≤ 2 ^ 23 → m.set i (.lst xs) = m' → ReadK i m x m'
private theorem Sep.over {s : Shared} {M : Map} (S : Sep X s M m) : Sep (X.over M) s M m := { S with x := (Map.base_le S.x).2 }
private theorem readCall {L : LamS} (I : IsRead L) (lim : NoLim X.B) (hD : 4 ≤ D) {c : Cf} (S : Hp X c m) {r a l : Addr} {o2 oc : Obj} {fd2 : FuncData} (hL : LamAt' c.M L r "left" a o2 fd2) (hc : c.M.h a = some (.frz oc)) (hcd : oc.data = .cell (some (.ref l))) {i : Nat} (hi : c.M.h l = some (.mu i)) {av : AV} (h : ReadK i m av m') {A : Around} (R : Room A (D + 1)) {a1 : Value} {x1 : AV} (r1 : Rep c.M x1 a1) {Q E : Value → Shared → Prop}
    (k : ∀ v d, Got X c m' av v d → Q v d.s) : wpAny (model X.prog X.w) A (call (.ref r) [a1]) Q E c.s := by
  have bl := Map.base_le S.x
  have fz : ∀ {b o}, c.M.h b = some (.frz o) → (X.over c.M).B.h b = some (.frz o) := fun e => Map.base_keep (fun zz h => by cases h) e
  obtain ⟨p1, p2, pa, pc, k1, p4, k2, p5, p6, hbody, hline⟩ := I.body
  have hn : fd2.scope.names = ([("count", .local), ("left", .free)] : Names) := by rw [hL.scope]; exact I.names
  have ok : CloOk ["count"] fd2.scope := ⟨by rw [hL.scope]; exact I.kind, by rw [hL.scope]; exact I.co, by rw [hL.scope]; exact I.gen, by rw [hn]; rfl, by rw [hn]; rfl, by decide, by rw [hn]; decide, fun x hx => by rw [hn, List.mem_singleton.mp hx]; rfl⟩
  have Fv : FreeK (X.over c.M).B fd2.scope.names fd2.closure (bd "left" (.mref i) []) := by
    rw [hn, hL.clo]
    refine ⟨fun x b h => ?_, fun x av h => ?_⟩
    · rw [List.lookup_cons] at h
      split at h
      · cases h; exact ⟨_, fz hc⟩
      · cases h
    · rcases lookup_set (L := []) h with ⟨e1, e2⟩ | ⟨_, e⟩
      · rw [e1, e2]
        exact ⟨rfl, a, oc, .ref l, rfl, fz hc, hcd, .mref (Map.base_keep (fun zz h => by cases h) hi)⟩
      · cases e
  have hb : PE (X.over c.M) D fd2.scope.names L.body ((["count"] : List Str).zip [x1] ++ (bd "left" (.mref i) [])) m av m' := by
    rw [hn, hbody]
    refine .wp (G := ⟨X.over c.M, D, _, []⟩) (k := 40) hD ?_
    have hok : okM (.Name "left" p2) [.Constant (.int 0) k1 p4] pa pc = true := by
      show (_ && (_ && (pa.endLine == pc.line))) = true
      rw [hline]; rfl
    cases h with
    | none e => exact ⟨.mref e (Nat.zero_le _), .str [], m, nofun, fun zz => .mk, .mk⟩
    | @some x xs m' e hz hm => exact ⟨.mref e (by rw [List.length_cons]; exact dF hz rfl), av, m', fun zz => (by show cond (okM _ _ _ _) _ _; rw [hok]; exact ⟨.pop0 e e hz hm, .mk⟩), nofun, .mk⟩
  have := callLam (X := X.over c.M) (avs := [x1]) (fz hL.m) hL.data (hL.code.up fun b o e => fz e) hL.body hL.gl hL.bu (lim.imp fun zz q => ⟨q.1.up bl.1, q.2⟩) ok Fv (fun vs h => by obtain ⟨v, rfl⟩ := List.length_eq_one_iff.mp h; exact I.bind fd2 hL.params hL.df hL.kd v) rfl hb
  exact this A c [a1] R S.over (.one r1) Q E fun v d g => k v d ⟨g.l, { g.h with x := bl.1.tr g.h.x }, g.r⟩
private theorem Mt.read {L : LamS} (I : IsRead L) (lim : NoLim X.B) (hD : 4 ≤ D) {i : Nat} {x1 r : AV} (h : ReadK i m2 r m') : Mt X (D + 1) "read" m1 m2 (.strm L i) [x1] r m' := fun sc Lc m o es apos pos hb hf hline h1 h2 env A c T Q E k =>
  methGo (hb env) hf hline (h1 env A c T _ _ fun v d g pl => by
    cases g.r.i_strm with
    | @mk f l st hi =>
      obtain ⟨o, fd, dd, od, es', ep, rr, o2, fd2, ca, oc, st⟩ := st
      refine fn_method (m := fun n => nsFind es' n) (g.h.frz st.m) st.cls st.dict ⟨od, es', ep, g.h.frz st.md, st.dd, st.keys, fun zz => rfl⟩ (v := .ref rr) (by rw [st.find]; rfl) st.data rfl ?_
      have g1 := g.h.tok (d.s.toks + 1)
      have T1 : At X (D + 1) sc env A (tk d (d.s.toks + 1)) Lc m1 := (T.up g.l g.h).up (Map.le.rf _) g1
      refine callWith_function (o := o2) (fd := fd2) ((h2.p env pos).2 _ _ _ _ _ _ (h2.v pos env A _ T1 _ _ fun vs d2 g2 => ⟨⟨g2.h.frz (g2.l.h _ _ st.lam.m), st.lam.data⟩, ?_⟩))
      cases g2.r.i_cons with
      | mk r1 r2 =>
        cases r2.i_nil
        exact readCall I lim hD g2.h (st.lam.up g2.l.l0.f) (g2.l.h _ _ st.mc) st.cd (g2.l.h _ _ hi) h T.R r1 fun v d3 g3 => k v d3 (g3.fr (g.l.tr g2.l)))
end
end
section
open PySem PySem.W PyProof.Rows PySem.Calls PySem.SeqAt Builtin Builtin.ObjectAttr
private theorem lk_fn_set : typeLookup (.type "function") "__set__" = pure none := by rw [typeLookup_type, builtinLookup_eq_fast]; kernel_rfl
private theorem lk_fn_delete : typeLookup (.type "function") "__delete__" = pure none := by rw [typeLookup_type, builtinLookup_eq_fast]; kernel_rfl
section
variable {prog : Program} {w : World} {A : Around} {E : Value → Shared → Prop} {h : Heap} {g : Array GenState} {d : Drawn} {t : Nat} {os : OsState}
variable {r : ClsD} {C x : Addr}
  {mN mA : Str → Option Value} {name : Str} {f : Addr} {fo : Obj}
set_option tactic.hygienic true in
private theorem bound_entry {tk : Tok} {Q : PySem.Fin → Shared → Prop}
    (hC : h.get? C = some (r.obj C)) (hn : h.Ns r.N mN) (hna : mN name = some (.ref f)) (hfo : h.get? f = some fo) (hfc : fo.cls = .type "function")
    {y : Option Value} (hB : typeLookup (.type "object") name = pure y) (hg2 : mN "__getattr__" = none) {o : Obj} {dx : Addr} (hx : h.get? x = some o) (hc : o.cls = .ref C) (hnc : ∀ c, o.data ≠ .cls c) (hdx : o.dict = some dx) (hns : h.Ns dx mA) (hv : mA name = none) (hcp : ((["__module__", "__name__", "__qualname__", "__doc__", "__annotations__"] : List Str).contains name) = false)
    (hq : Q (.done (.ret (.ref h.objs.size))) ⟨h.push { cls := .type "method", data := .fields #[.ref f, .ref x] }, g, d, t, os⟩) :
    wpAny (model prog w) A (Builtin.«proto.getattr_hooked» ⟨[.ref x, .str name tk], []⟩) Q E ⟨h, g, d, t, os⟩ := by
  have hTf : (⟨h, g, d, t, os⟩ : Shared).TypeIs (.ref f) "function" := ⟨_, hfo, hfc⟩
  unfold Builtin.«proto.getattr_hooked»
  repeat (first | (with_reducible refine wpAny_loadPart_at hx ?_; rw [hc]) | (with_reducible refine wpAny_typeLookup_exc hC hn F.mro_object hB ?_; rw [hna]) | (with_reducible refine wpAny_specialOf hTf F.ks_slot_function_get.lookup ?_) | (with_reducible refine wpAny_specialOf hTf lk_fn_set ?_) | (with_reducible refine wpAny_specialOf hTf lk_fn_delete ?_) | wp_step)
  split
  · rename_i c hcd
    exact absurd hcd (hnc c)
  unfold instanceDict
  repeat (first | (with_reducible refine wpAny_loadPart_at hx ?_; rw [hc]) | with_reducible refine wpAny_loadPart_at hC ?_ | wp_step)
  rw [hdx]
  repeat (first | (with_reducible refine wpAny_nsGet hns ?_; rw [hv]) | wp_step)
  rw [if_neg (by rw [hcp]; exact Bool.false_ne_true)]
  refine wpAny_pure ?_
  unfold byTheClass
  repeat (first | (with_reducible refine wpAny_typeLookup_exc hC hn F.mro_object F.lk_object_getattr ?_; rw [hg2]) | wp_step)
  refine codeAny_call_builtin F.ks_slot_function_get.plain F.ks_entry_function_get (F.ks_slot_function_get.check _ _ _ _ _ _ _ _ hTf (F.ks_getArgs_function _ _ _) ?_)
  unfold Builtin.«function.__get__»
  repeat wp_step
  exact hq
private theorem bound_load {expr : Bool} {Q : Value → Shared → Prop}
    (hC : h.get? C = some (r.obj C)) (hn : h.Ns r.N mN) (hng : mN "__getattribute__" = none) (hna : mN name = some (.ref f)) (hfo : h.get? f = some fo) (hfc : fo.cls = .type "function")
    {y : Option Value} (hB : typeLookup (.type "object") name = pure y) (hg2 : mN "__getattr__" = none) {o : Obj} {dx : Addr} (hx : h.get? x = some o) (hc : o.cls = .ref C) (hnc : ∀ c, o.data ≠ .cls c) (hdx : o.dict = some dx) (hns : h.Ns dx mA) (hv : mA name = none) (hcp : (["__module__", "__name__", "__qualname__", "__doc__", "__annotations__"] : List Str).contains name = false)
    (hq : Q (.ref h.objs.size) ⟨h.push { cls := .type "method", data := .fields #[.ref f, .ref x] }, g, d, t + 1, os⟩) :
    wpAny (model prog w) A (getAttr (.ref x) name expr) Q E ⟨h, g, d, t, os⟩ := by
  unfold getAttr getAttrBy
  repeat (first | (with_reducible refine wpAny_loadPart_at hx ?_; rw [hc]) | (with_reducible refine wpAny_typeLookup_exc hC hn F.mro_object F.lk_object_ga ?_; rw [hng]) | wp_step)
  show wpAny _ _ ((runValue (.builtin "proto.getattr_hooked" ⟨[.ref x, .str name t], []⟩)).onRaise (noteIf true (.ref x) (.str name t))) _ _ _
  refine wpAny_onRaise (wpAny_runValue (codeAny_builtin F.plainObj_entry_getattr_hooked (bound_entry hC hn hna hfo hfc hB hg2 hx hc hnc hdx hns hv hcp ?_)))
  exact wpAny_pure hq
end
end
section
open PySem PySem.W PyProof.Rows PySem.Calls PySem.SeqAt
private theorem slot_ci_iter : Slot "callable_iterator" "__iter__" "callable_iterator.__iter__" := .of (owner := "callable_iterator") (n := "__iter__") (by rw [typeLookup_type, builtinLookup_eq_fast]; kernel_rfl) (by decide +kernel) (by decide +kernel) (by decide +kernel) (by first | exact .inl (by decide +kernel) | exact .inr (by decide +kernel)) (by rw [isSubtype_type]; kernel_rfl)
private theorem slot_ci_next : Slot "callable_iterator" "__next__" "callable_iterator.__next__" := .of (owner := "callable_iterator") (n := "__next__") (by rw [typeLookup_type, builtinLookup_eq_fast]; kernel_rfl) (by decide +kernel) (by decide +kernel) (by decide +kernel) (by first | exact .inl (by decide +kernel) | exact .inr (by decide +kernel)) (by rw [isSubtype_type]; kernel_rfl)
private theorem entry_ci_iter : entryFor table "callable_iterator.__iter__" = some Builtin.«dict_keyiterator.__iter__» := entryFor_alias (id' := "dict_keyiterator.__iter__") (by kernel_rfl) rfl (by decide +kernel) (by kernel_rfl)
private theorem entry_ci_next : entryFor table "callable_iterator.__next__" = some Builtin.«callable_iterator.__next__» := entryFor_of_tree (by kernel_rfl)
private theorem args_ci_iter (a : Value) : argsOk "callable_iterator.__iter__" ⟨[a], []⟩ := by unfold argsOk; kernel_rfl
private theorem args_ci_next (a : Value) : argsOk "callable_iterator.__next__" ⟨[a], []⟩ := by unfold argsOk; kernel_rfl
private theorem args_iter2 (a b : Value) : argsOk "iter" ⟨[a, b], []⟩ := by unfold argsOk; kernel_rfl
private theorem lk_meth_call : ∃ r, typeLookup (.type "method") "__call__" = pure (some r) := ⟨.builtin "method.__call__", by rw [typeLookup_type, builtinLookup_eq_fast]; kernel_rfl⟩
noncomputable abbrev methObj (f x : Addr) : Obj := { cls := .type "method", data := .fields #[.ref f, .ref x] }
noncomputable abbrev ciObj (b s e : Value) : Obj := { cls := .type "callable_iterator", data := .fields #[b, s, e] }
section
variable {prog : Program} {w : World} {A : Around} {E : Value → Shared → Prop} {s : Shared}
private theorem wpAny_pyIter_ci {it : Addr} {b z e : Value} {Q : Value → Shared → Prop} (hI : s.heap.get? it = some (ciObj b z e)) (h : Q (.ref it) s) : wpAny (model prog w) A (pyIter (.ref it)) Q E s := by
  have hT : s.TypeIs (.ref it) "callable_iterator" := ⟨_, hI, rfl⟩
  refine wpAny_pyIter_slot hT slot_ci_iter (wpAny_call_entry slot_ci_iter hT entry_ci_iter ?_ (args_ci_iter _))
  show wpAny _ _ (ret (.ref it)) _ _ s
  exact wpAny_pure ⟨_, rfl, "callable_iterator", _, hT, slot_ci_next.lookup, h⟩
private theorem wpAny_iter2 {b f x : Addr} {z : Value} {Q : Value → Shared → Prop} (hb : s.heap.get? b = some (methObj f x))
    (h : Q (.ref s.heap.objs.size) { s with heap := s.heap.push (ciObj (.ref b) z (.bool false)) }) : wpAny (model prog w) A (call (.builtin "iter") [.ref b, z]) Q E s := by
  have hT : s.TypeIs (.ref b) "method" := ⟨_, hb, rfl⟩
  obtain ⟨r, hr⟩ := lk_meth_call
  refine call_function_entry (by decide +kernel) (by decide +kernel) kdk_entry_iter (args_iter2 _ _) ?_
  unfold Builtin.«iter»
  refine wpAny_bind (m := someArgs "iter" 1 2 _) (wpAny_of_eq (a := [Value.ref b, z]) (by first | rfl | kernel_rfl!) ?_)
  refine wpAny_bind (wpAny_specialOf hT hr ?_)
  show wpAny _ _ (if (some r).isNone = true then _ else _) _ _ _
  rw [if_neg (by simp)]
  refine wpAny_bind (wpAny_rule ?_)
  simp only [newFields]
  refine wpAny_bind (wpAny_newObj_type ?_ (by size_fits))
  exact wpAny_pure ⟨_, rfl, h⟩
private theorem callBorrowed_eq (f : Value) (pos : List Value) : callBorrowed f pos = (call f pos).keep [borrowed] := by
  unfold callBorrowed call runValue run
  show Sem.call _ _ _ _ _ = Sem.call _ _ _ _ _
  congr 1
  funext r
  rcases r with e | (_ | _ | _ | v) <;> rfl
private theorem wpAny_borrows {b f x : Addr} {of : Obj} {fd : FuncData} {Q : Bool → Shared → Prop} (hb : s.heap.get? b = some (methObj f x)) (hf : s.heap.get? f = some of) (hd : of.data = .func fd) (hq : Q true s) : wpAny (model prog w) A (borrowsExactly (.ref b)) Q E s := by
  unfold borrowsExactly
  refine wpAny_bind (wpAny_load hb ?_)
  show wpAny _ _ (if ((Value.type "method") == .type "method") = true then _ else _) _ _ _
  rw [if_pos (by decide)]
  show wpAny _ _ (load f >>= _) _ _ _
  refine wpAny_bind (wpAny_load hf ?_)
  rw [hd]
  exact wpAny_pure hq
private theorem wpAny_outOfSlot {b f x : Addr} {of : Obj} {fd : FuncData} {Q : Value → Shared → Prop} (hb : s.heap.get? b = some (methObj f x)) (hf : s.heap.get? f = some of) (hd : of.data = .func fd)
    (h : codeAny (model prog w) A (.call (.ref f) ⟨[.ref x], []⟩) (fun r s' => match r with | .ok (.ret v) => Q v s' | .ok _ => False | .error e => E e s') s) : wpAny (model prog w) A (callOutOfASlot (.ref b)) Q E s := by
  unfold callOutOfASlot
  refine wpAny_bind (wpAny_borrows hb hf hd ?_)
  show wpAny _ _ (if true = true then _ else _) _ _ _
  rw [if_pos rfl]
  rw [callBorrowed_eq]
  exact wpAny_keep (wpAny_call (ks_codeAny_call_bound hb h))
private theorem ci_next {it b f x : Addr} {of : Obj} {fd : FuncData} {t : Tok} {Q : Option Value → Shared → Prop} (hh : A.handled = none) (hI : s.heap.get? it = some (ciObj (.ref b) (.str ⟨#[]⟩ t) (.bool false))) (hb : s.heap.get? b = some (methObj f x)) (hf : s.heap.get? f = some of) (hd : of.data = .func fd)
    (hcall : ∀ Q' E' : Value → Shared → Prop, (∀ l u b2 t2 s', s'.heap.get? it = some (ciObj (.ref b2) (.str ⟨#[]⟩ t2) (.bool false)) → (l ≠ ⟨#[]⟩ → Q (some (.str l u)) s') →
          (l = ⟨#[]⟩ → (∃ x2, s'.heap.get? b2 = some (methObj f x2)) ∧ s'.heap.get? f = some of ∧ ∀ h', h'.get? it = some (ciObj .none .none (.bool true)) → Heap.ExtBut it s'.heap h' → Q none { s' with heap := h' }) → Q' (.str l u) s') →
      codeAny (model prog w) A.in1 (.call (.ref f) ⟨[.ref x], []⟩) (fun r s' => match r with | .ok (.ret v) => Q' v s' | .ok _ => False | .error e => E' e s') s) : wpAny (model prog w) A (pyNext (.ref it)) Q E s := by
  have hT : s.TypeIs (.ref it) "callable_iterator" := ⟨_, hI, rfl⟩
  unfold pyNext
  refine wpAny_bind (wpAny_attempt (wpAny_callSpecial?_slot (name := Str.ofString "__next__") hT slot_ci_next
    (wpAny_call_entry slot_ci_next hT entry_ci_next ?_ (args_ci_next _))))
  show wpAny _ _ (field (.ref it) 2 >>= _) _ _ s
  refine wpAny_bind (wpAny_field hI rfl (x := .bool false) rfl ?_)
  show wpAny _ _ (if (Value.bool false == .bool true) = true then _ else _) _ _ s
  rw [if_neg (by decide)]
  show wpAny _ _ (field (.ref it) 0 >>= _) _ _ s
  refine wpAny_bind (wpAny_field hI rfl (x := .ref b) rfl ?_)
  refine wpAny_bind (wpAny_attempt (wpAny_outOfSlot hb hf hd ?_))
  refine hcall _ _ fun l u b2 t2 s' hI' h1 h2 => ?_
  show wpAny _ _ (field (.ref it) 2 >>= _) _ _ _
  refine wpAny_bind (wpAny_field hI' rfl (x := .bool false) rfl ?_)
  show wpAny _ _ (if (Value.bool false == .bool true) = true then _ else _) _ _ _
  rw [if_neg (by decide)]
  show wpAny _ _ (field (.ref it) 1 >>= _) _ _ _
  refine wpAny_bind (wpAny_field hI' rfl (x := .str ⟨#[]⟩ t2) rfl ?_)
  refine wpAny_bind (wpAny_holding (wpAny_eqBool_str ?_))
  by_cases hl : l = ⟨#[]⟩
  · subst hl
    obtain ⟨⟨x2, g1⟩, g2, g3⟩ := h2 rfl
    rw [show decide ((⟨#[]⟩ : Str) = ⟨#[]⟩) = true from by simp]
    show wpAny _ _ (if (!true) = true then _ else _) _ _ _
    rw [if_neg (by decide)]
    refine wpAny_bind (wpAny_rule ?_)
    refine wpAny_bind ?_
    show wpAny _ _ (field (.ref it) 0 >>= _) _ _ _
    refine wpAny_bind (wpAny_field hI' rfl (x := .ref b2) rfl ?_)
    refine wpAny_bind ?_
    unfold slotLetsGo
    show wpAny _ _ (borrowsExactly (.ref b2) >>= _) _ _ _
    refine wpAny_bind (wpAny_borrows g1 g2 hd ?_)
    show wpAny _ _ (if true = true then _ else _) _ _ _
    rw [if_pos rfl]
    refine wpAny_pure ?_
    refine wpAny_bind (wpAny_setField hI' rfl (by simp) ?_)
    have u1 := Heap.get?_update_self (Obj.mapFields (·.setIfInBounds 0 .none)) hI' rfl
    refine wpAny_bind (wpAny_setField u1 rfl (by simp) ?_)
    have u2 := Heap.get?_update_self (Obj.mapFields (·.setIfInBounds 1 .none)) u1 rfl
    refine wpAny_setField u2 rfl (by simp) ?_
    have u3 := Heap.get?_update_self (Obj.mapFields (·.setIfInBounds 2 (.bool true))) u2 rfl
    show wpAny _ _ (newExc (.type "StopIteration") [] >>= _) _ _ _
    refine wpAny_bind ?_
    simp only [newExc, newTuple]
    refine wpAny_bind (wpAny_newObj_type ?_ (by size_fits))
    refine wpAny_bind (m := firstArgMember _ _) (wpAny_of_eq (a := Value.none) (by first | rfl | (simp only [firstArgMember]; rfl)) ?_)
    refine wpAny_newObj_type ?_ (by size_fits)
    simp only [raiseNew]
    refine wpAny_bind (wpAny_handled ?_)
    first | rw [show A.in1.handled = none from hh] | rw [hh]
    refine wpAny_bind (wpAny_pure (wpAny_throw ?_))
    refine wpAny_bind (wpAny_isInstance (T := "StopIteration") (b := true) ⟨_, Heap.get?_push_size _ rfl, rfl⟩ isSubtype_stop ?_)
    refine wpAny_pure (g3 _ (Heap.get?_push_of_some _ (Heap.get?_push_of_some _ ?_)) ?_)
    · exact u3
    · exact ((((Heap.SameBut.update ..).trans (Heap.SameBut.update ..)).trans (Heap.SameBut.update ..)).extBut.push _).push _
  · rw [show decide ((⟨#[]⟩ : Str) = l) = false from by simpa using fun h => hl h.symm]
    show wpAny _ _ (if (!false) = true then _ else _) _ _ _
    rw [if_pos (by decide)]
    refine wpAny_pure ⟨_, rfl, ?_⟩
    exact wpAny_pure (h1 hl)
private theorem ci_done {it : Addr} {b z : Value} {Q : Option Value → Shared → Prop} (hh : A.handled = none) (hI : s.heap.get? it = some (ciObj b z (.bool true)))
    (h : ∀ h', (∀ a o, s.heap.get? a = some o → h'.get? a = some o) → Q none { s with heap := h' }) : wpAny (model prog w) A (pyNext (.ref it)) Q E s := by
  have hT : s.TypeIs (.ref it) "callable_iterator" := ⟨_, hI, rfl⟩
  unfold pyNext
  refine wpAny_bind (wpAny_attempt (wpAny_callSpecial?_slot (name := Str.ofString "__next__") hT slot_ci_next
    (wpAny_call_entry slot_ci_next hT entry_ci_next ?_ (args_ci_next _))))
  show wpAny _ _ (field (.ref it) 2 >>= _) _ _ s
  refine wpAny_bind (wpAny_field hI rfl (x := .bool true) rfl ?_)
  show wpAny _ _ (if (Value.bool true == .bool true) = true then _ else _) _ _ s
  rw [if_pos (by decide)]
  refine wpAny_bind (wpAny_rule ?_)
  refine wpAny_bind ?_
  show wpAny _ _ (newExc (.type "StopIteration") [] >>= _) _ _ _
  refine wpAny_bind ?_
  simp only [newExc, newTuple]
  refine wpAny_bind (wpAny_newObj_type ?_ (by size_fits))
  refine wpAny_bind (m := firstArgMember _ _) (wpAny_of_eq (a := Value.none) (by first | rfl | (simp only [firstArgMember]; rfl)) ?_)
  refine wpAny_newObj_type ?_ (by size_fits)
  simp only [raiseNew]
  refine wpAny_bind (wpAny_handled ?_)
  first | rw [show A.in1.handled = none from hh] | rw [hh]
  refine wpAny_bind (wpAny_pure (wpAny_throw ?_))
  refine wpAny_bind (wpAny_isInstance (T := "StopIteration") (b := true) ⟨_, Heap.get?_push_size _ rfl, rfl⟩ isSubtype_stop ?_)
  exact wpAny_pure (h _ fun a o e => Heap.get?_push_of_some _ (Heap.get?_push_of_some _ e))
end
end
section
open PySem PySem.W PyProof.Rows PySem.Calls PySem.SeqAt
noncomputable def CallC (X : Amb) (D : Nat) (f : Addr) (m : Mem) (avs : List AV) (r : AV) (m' : Mem) : Prop :=
  ∀ (A : Around) (c : Cf) (vs : List Value), Room A D → Hp X c m → Reps c.M avs vs → ∀ (Q E : Value → Shared → Prop), (∀ v d, Got X c m' r v d → Q v d.s) →
    codeAny (model X.prog X.w) A (.call (.ref f) ⟨vs, []⟩) (fun r s' => match r with | .ok (.ret v) => Q v s' | .ok _ => False | .error e => E e s') c.s
section
variable {X : Amb} {D : Nat} {sc : Names} {L : Lc} {m m1 m2 m' : Mem} {P : RP} {rest : List Stmt}
private theorem CallC.to {f : Addr} {avs : List AV} {r : AV} (h : CallC X D f m avs r m') : Call X D (opF f) m avs r m' := fun A c vs R S rs Q E k => wpAny_call (h A c vs R S rs Q E k)
private theorem FnAt.callC {F : Fd} {q : Str} {a : Addr} {ps : List Str} {avs : List AV} {r : AV} {mF : Mem} (h : FnAt X.B F q [] .none a) (lim : NoLim X.B) (ok : CloOk ps F.scope) (hbind : ∀ doc pm cd ct, BindN (fnXD F q [] .none doc pm cd ct) ps [] []) (hl : avs.length = ps.length)
    (hb : W X D F.scope.names F.body (ps.zip avs) m (Ret (IsV r mF))) : CallC X (D + 1) a m avs r mF := fun A c vs Ro S rs Q E k => by
  obtain ⟨o, doc, pm, cd, ct, h⟩ := h
  refine codeAny_call_def (fd := fnXD F q [] .none doc pm cd ct) (binds := ps.zip vs) (by have := Ro.2.1; lia) (S.base h.m) h.data (lim.lim S) (h.code.go S) rfl (BindsTo.of_eq ((hbind doc pm cd ct).to (rs.len.trans hl))) ok.nc (fun x hx => ok.kd _ (List.of_mem_zip hx).1) (fun h₁ hns hk => ?_) ok.co ok.gen ok.kind
  have e := enterF (fd := fnXD F q [] .none doc pm cd ct) (fvs := []) (a := a) (tk := c.s.toks + (ps.zip vs).length) ok rfl rfl ⟨nofun, nofun⟩ Ro S rs hns hk
  rw [List.append_nil] at e
  exact wpAny_mono (e.run hb.e fun v d r' m'' hr g => by cases hr; exact k v d g) (fun zz zz x => x) fun zz zz x => x.elim
inductive NextK (X : Amb) (D : Nat) (f : Addr) (m : Mem) (j : Nat) : Option AV → Mem → Prop
  | done : m[j]? = some (.cit none) → NextK X D f m j none m
  | some {C i l m1 C2 i2} : m[j]? = some (.cit (some (f, C, i))) → CallC X D f m [.inst C i] (.str l) m1 → m1[j]? = some (.cit (some (f, C2, i2))) → l ≠ [] → NextK X D f m j (some (.str l)) m1
  | last {C i m1 m2 C2 i2} : m[j]? = some (.cit (some (f, C, i))) → CallC X D f m [.inst C i] (.str []) m1 → m1[j]? = some (.cit (some (f, C2, i2))) → m1.set j (.cit none) = m2 → NextK X D f m j none m2
inductive ORep (M : Map) : Option AV → Option Value → Prop
  | none : ORep M none none
  | some {a : AV} {v : Value} : Rep M a v → ORep M (some a) (some v)
structure GotO (X : Amb) (c : Cf) (m : Mem) (o : Option AV) (v : Option Value) (d : Cf) : Prop where
  l : c.M.le d.M
  h : Hp X d m
  r : ORep d.M o v
private theorem nextC {F : Fd} {q : Str} {f : Addr} (hf : FnAt X.B F q [] .none f) {c : Cf} (S : Hp X c m) {j : Nat} {a : Addr} (ha : c.M.h a = some (.mu j)) {o : Option AV} (h : NextK X D f m j o m') {A : Around} (R : Room A (D + 1)) {Q : Option Value → Shared → Prop} {E : Value → Shared → Prop} (k : ∀ v d, GotO X c m' o v d → Q v d.s) :
    wpAny (model X.prog X.w) A (pyNext (.ref a)) Q E c.s := by
  obtain ⟨of, doc, pm, cd, ct, hf⟩ := hf
  have R' : Room A.in1 D := ⟨R.1, by have := R.2.1; show A.depth + D < _; exact Nat.le_of_lt this, by have := R.2.2; show A.units + 1 + 16 * D + 16 < _; lia⟩
  cases h with
  | done hm =>
    cases S.mu ha hm with
    | cit0 hI => exact ci_done R.1 hI fun h' hk => k none ⟨{ c.s with heap := h' }, c.M⟩ ⟨.rf _, S.keep (tk := c.s.toks) fun b o zz e => hk b o e, .none⟩
  | @some C i l _ C2 i2 hm hc hm1 hl =>
    cases S.mu ha hm with
    | cit hI hb r =>
      refine ci_next R.1 hI (S.frz hb) (S.base hf.m) hf.data fun Q' E' hq => hc A.in1 c [_] R' S (.one r) Q' E' fun v d g => ?_
      obtain ⟨t', rfl⟩ := g.r.i_str
      cases g.h.mu (g.l.h _ _ ha) hm1 with
      | cit hI2 hb2 r2 => exact hq _ _ _ _ d.s hI2 (fun zz => k _ d ⟨g.l, g.h, .some (.str _ _)⟩) fun hl' => absurd (congrArg (fun z : Str => z.cps.toList) hl') hl
  | @last C i m1 _ C2 i2 hm hc hm1 hm2 =>
    subst hm2
    cases S.mu ha hm with
    | cit hI hb r =>
      refine ci_next R.1 hI (S.frz hb) (S.base hf.m) hf.data fun Q' E' hq => hc A.in1 c [_] R' S (.one r) Q' E' fun v d g => ?_
      obtain ⟨t', rfl⟩ := g.r.i_str
      have ha2 := g.l.h _ _ ha
      cases g.h.mu ha2 hm1 with
      | cit hI2 hb2 r2 => exact hq _ _ _ _ d.s hI2 (fun hl => absurd rfl hl) fun zz => ⟨⟨_, g.h.frz hb2⟩, g.h.base hf.m, fun h' hI3 hx => k none ⟨{ d.s with heap := h' }, d.M⟩ ⟨g.l, g.h.setMut (tk := d.s.toks) ha2 (fun b o hb' e' => hx b o hb' e') (.cit0 hI3), .none⟩⟩
private theorem pyIterCit {c : Cf} (S : Hp X c m) {j : Nat} {a : Addr} (ha : c.M.h a = some (.mu j)) {ct : Option (Addr × Addr × Nat)} (hm : m[j]? = some (.cit ct)) {A : Around} {Q E : Value → Shared → Prop} (h : Q (.ref a) c.s) : wpAny (model X.prog X.w) A (pyIter (.ref a)) Q E c.s := by
  cases S.mu ha hm with
  | cit0 hI => exact wpAny_pyIter_ci hI h
  | cit hI _ _ => exact wpAny_pyIter_ci hI h
inductive TurnC (X : Amb) (D : Nat) (sc : Names) (f : Addr) (j : Nat) (x : Str) (body rest : List Stmt) (I : Nat → Lc → Mem → Prop) (P : RP) (k : Nat) (L : Lc) (m : Mem) : Prop
  | stop {mB : Mem} : NextK X D f m j none mB → W X (D + 1) sc rest L mB P → TurnC X D sc f j x body rest I P k L m
  | go {a : AV} {mB : Mem} : NextK X D f m j (some a) mB → W X (D + 1) sc body ((x, a) :: L) mB (Loop (fun L m => ∃ i, i < k ∧ I i L m) (Then X (D + 1) sc rest P)) → TurnC X D sc f j x body rest I P k L m
private theorem W.forC {F : Fd} {q : Str} {f : Addr} (hf : FnAt X.B F q [] .none f) {p px : Pos} {x : Str} {iter : Expr} {body : List Stmt} {j : Nat} {ct : Option (Addr × Addr × Nat)} (hi : PE X (D + 1) sc iter L m (.mref j) m1) (hm : m1[j]? = some (.cit ct)) (hx : okB sc x = true) (I : Nat → Lc → Mem → Prop) (n : Nat) (h0 : I n L m1)
    (hs : ∀ k L m, I k L m → TurnC X D sc f j x body rest I P k L m) (set : ∀ env x, foldedSetIterable iter env x = pure x) : W X (D + 1) sc (.For (.Name x px) iter body [] p :: rest) L m P :=
  .seq fun env own A c T Q E q => by
    refine wpAny_For (hi.go T fun v d l F r => ?_) (set env)
    cases r.i_mref with
    | @mk a ha =>
      refine pyIterCit F.S ha hm ?_
      refine forLoop (fun k s2 => ∃ c2 L m, s2 = c2.s ∧ Map.leB own c.M c2.M ∧ c2.M.h a = some (.mu j) ∧ FS X env sc own c2 m L ∧ I k L m) ?_ n ⟨d, L, m1, rfl, l, ha, F, h0⟩
      rintro k _ ⟨c2, L2, mm, rfl, l2, ha2, F2, i2⟩
      cases hs k L2 mm i2 with
      | stop hn hr =>
        refine nextC hf F2.S ha2 hn T.R fun v d3 g => ?_
        cases g.r with
        | none => exact wpAny_execs_nil (q _ d3 .next _ _ ⟨l2.tr (g.l.b own), F2.keep g.l g.h, .next, hr⟩)
      | go hn hb =>
        refine nextC hf F2.S ha2 hn T.R fun v d3 g => ?_
        cases g.r with
        | some r =>
          have F3 := F2.keep g.l g.h
          refine wpAny_pure ?_
          rw [PySem.assign_Name]
          refine wpAny_bind (wpAny_standAt (wpAny_bindName (F3.store (T.T x (nameOk hx)) r fun d4 l4 F4 => ?_)))
          refine hb env own A d4 (T.on F4) _ _ fun u d5 fl L5 m5 g5 => ?_
          have lc := ((l2.tr (g.l.b own)).tr l4).tr g5.l
          have ha5 := F4.l0 g5.l a _ (F3.l0 l4 a _ (g.l.h _ _ ha2) Cel.mnp) Cel.mnp
          cases g5.r with
          | next => exact g5.p.elim fun i h => ⟨i, h.1, d5, L5, m5, rfl, lc, ha5, g5.F, h.2⟩
          | cont => exact g5.p.elim fun i h => ⟨i, h.1, d5, L5, m5, rfl, lc, ha5, g5.F, h.2⟩
          | brk => exact q _ d5 .next L5 m5 ⟨lc, g5.F, .next, g5.p⟩
          | ret r => exact q _ d5 (.ret _) L5 m5 ⟨lc, g5.F, .ret r, g5.p⟩
end
end
section
open PySem PySem.W PyProof.Rows PySem.Calls PySem.SeqAt
section
variable {X : Amb} {D : Nat} {sc : Names} {L : Lc} {m m1 m2 : Mem} {P : RP} {rest : List Stmt}
private theorem W.app {pre : List Stmt} (h : W X D sc pre L m (Then X D sc rest P)) : W X D sc (pre ++ rest) L m P := fun env own A c T Q E k => by
  rw [execs_app]
  refine wpAny_bind (h env own A c T _ _ fun v d fl L' m' f => ?_)
  cases f.r with
  | next => exact f.p env own A d (T.on f.F) Q E fun v e fl L m g => k v e fl L m (g.fr f.l)
  | brk => exact wpAny_pure (k _ _ _ _ _ ⟨f.l, f.F, .brk, f.p⟩)
  | cont => exact wpAny_pure (k _ _ _ _ _ ⟨f.l, f.F, .cont, f.p⟩)
  | ret r => exact wpAny_pure (k _ _ _ _ _ ⟨f.l, f.F, .ret r, f.p⟩)
private theorem PE.iterM {e : Expr} {name : Str} {apos pos p pc : Pos} {kc : Nat} {C : Addr} {mN : Str → Option Value} {F : Fd} {q : Str} {f : Addr} {i : Nat} {l : List (Str × AV)} (cl : Cls X C mN) (hfn : mN name = some (.ref f)) (mt : FnAt X.B F q [] .none f) {y : Option Value} (hB : typeLookup (.type "object") name = pure y)
    (hcp : (["__module__", "__name__", "__qualname__", "__doc__", "__annotations__"] : List Str).contains name = false) (hx : sc.lookup ("iter" : Str) = some .globalImplicit) (hg : Glo X.B "iter" (.builtin "iter"))
    (he : ∀ env, eval (.Attribute e name apos) env = (do
      let o ← eval e env
      standAt apos.atName
      let r ← holding [o] (getAttr o name true)
      letTemporaryGo e o r
      pure r)) (hp : Pl [.Attribute e name apos, .Constant (.str "") kc pc]) (hst : ∀ env, starEach [.Attribute e name apos, .Constant (.str "") kc pc] env = (false, eval (.Attribute e name apos) env) :: starEach [.Constant (.str "") kc pc] env) (hf : PE X D sc e L m (.inst C i) m1) (hm : m1[i]? = some (.ns l)) (hl : l.lookup name = Option.none) :
    PE X D sc (.Call (.Name "iter" p) [.Attribute e name apos, .Constant (.str "") kc pc] [] pos) L m (.mref m1.length) (sn m1 (.cit (some (f, C, i)))) := fun env A c T Q E k => by
  show wpAny (model X.prog X.w) A (do callWith pos (← eval (.Name "iter" p) env) [] (backTo pos (starEach _ env)) (backToKw pos (keywordEach [] env))) Q E c.s
  refine wpAny_bind (globGo T hx hg (callWith_builtin (hp env pos).1 ((hp env pos).2 _ _ _ _ _ _ (wpAny_items_cons (Attribute_any_ (hf env A c T _ _ fun v d g => ?_) (he env)) (hst env)))))
  obtain ⟨x, o, dd, mm, e1, I⟩ := instAt g.h g.r hm
  subst e1
  have r1 := g.r
  obtain ⟨_, hC, hN, nga, nsa, nge⟩ := cl
  obtain ⟨of, doc, pm, cd, ct, hf⟩ := mt
  have hI : o.cls = .ref C ∧ ∀ c, o.data ≠ .cls c := by
    obtain ⟨o2, e1, e2, e3, _⟩ := I.I
    rw [g.h.frz I.m] at e1; cases e1; exact ⟨e2, e3⟩
  refine bound_load (g.h.base hC) (hN.ns g.h) nga hfn (g.h.base hf.m) hf.cls hB nge (g.h.frz I.m) hI.1 hI.2 I.dict I.ns.ns (I.v.no hl) hcp ?_
  have S2 := g.h.new (methObj f x) rfl (d.s.toks + 1)
  refine wpAny_items_cons (Constant_str (wpAny_items_nil ?_)) rfl
  have hbm : (d.M.set d.s.heap.objs.size (.frz (methObj f x))).h d.s.heap.objs.size = some (.frz (methObj f x)) := Map.set_at _ _ _
  refine wpAny_iter2 (S2.frz hbm) ?_
  have le := Map.le_set (.frz (methObj f x)) g.h.top
  have S3 := S2.tok (d.s.toks + 1 + 1)
  have S4 := S3.newMut (ciObj (.ref d.s.heap.objs.size) (.str ⟨#[]⟩ (d.s.toks + 1)) (.bool false)) (ao := .cit (some (f, C, i))) (d.s.toks + 1 + 1) (.cit (Heap.get?_push_size _ rfl) ((Map.le_set _ S3.top).h _ _ hbm) ((r1.up le).up (Map.le_set _ S3.top)))
  exact k _ ⟨_, _⟩ ⟨g.l.tr (le.tr (Map.le_set _ S3.top)), S4, .mref (Map.set_at _ _ _)⟩
end
end
section
open PySem PySem.W PyProof.Rows PySem.Calls PySem.SeqAt
set_option backward.match.sparseCases false in
noncomputable def clsBody : List Stmt := match prog1[16]? with
  | some (Stmt.ClassDef _ _ _ body _ _ _ _ _ _ _) => body
  | _ => []
structure LexNs (mN : Str → Option Value) : Prop where
  init : mN "__init__" = some (.ref 109)
  rc : mN "_read_char" = some (.ref 116)
  gt : mN "get_token" = some (.ref 123)
  pt : mN "push_token" = some (.ref 130)
  lineno : mN "lineno" = none
  instream : mN "instream" = none
  white : mN "whitespace" = none
  pushback : mN "pushback" = none
set_option backward.match.sparseCases false in
noncomputable def lamRead : LamS := match (fdAt prog1 20).body[1]? with
  | some (Stmt.Assign _ (PySem.Expr.Lambda params body scope _) _) => ⟨body, params, scope⟩
  | _ => ⟨.Constant .none 0 default, ⟨[], [], none, [], [], none, []⟩, default⟩
private theorem isRead1 : IsRead lamRead where
  body := ⟨_, _, _, _, _, _, _, _, _, rfl, rfl⟩
  kind := rfl
  co := rfl
  gen := rfl
  names := rfl
  bind := fun fd h1 h2 h3 a => by
    obtain ⟨name, qual, params, body, scope, gl, cl, df, kw⟩ := fd
    dsimp only at h1 h2 h3
    subst h1; subst h2; subst h3
    rfl
structure KnL (X : Amb) : Prop extends KnB X where
  cls : ∃ mN, Cls X 133 mN ∧ LexNs mN
  gcls : Glo X.B "_netrclex" (.ref 133)
  mi' : FnAt X.B (fdAt clsBody 0) "_netrclex.__init__" [] .none 109
  mr : FnAt X.B (fdAt clsBody 1) "_netrclex._read_char" [] .none 116
  mg : FnAt X.B (fdAt clsBody 2) "_netrclex.get_token" [] .none 123
  mp : FnAt X.B (fdAt clsBody 3) "_netrclex.push_token" [] .none 130
private theorem lo_lineno : typeLookup (.type "object") "lineno" = pure none := by rw [typeLookup_type, builtinLookup_eq_fast]; kernel_rfl
private theorem lo_instream : typeLookup (.type "object") "instream" = pure none := by rw [typeLookup_type, builtinLookup_eq_fast]; kernel_rfl
private theorem lo_white : typeLookup (.type "object") "whitespace" = pure none := by rw [typeLookup_type, builtinLookup_eq_fast]; kernel_rfl
private theorem lo_pushback : typeLookup (.type "object") "pushback" = pure none := by rw [typeLookup_type, builtinLookup_eq_fast]; kernel_rfl
private theorem lo_rc : typeLookup (.type "object") "_read_char" = pure none := by rw [typeLookup_type, builtinLookup_eq_fast]; kernel_rfl
private theorem lo_gt : typeLookup (.type "object") "get_token" = pure none := by rw [typeLookup_type, builtinLookup_eq_fast]; kernel_rfl
private theorem lo_pt : typeLookup (.type "object") "push_token" = pure none := by rw [typeLookup_type, builtinLookup_eq_fast]; kernel_rfl
private theorem FnAt.meth {X : Amb} {D : Nat} {F : Fd} {q : Str} {a : Addr} {ps : List Str} {avs : List AV} {r : AV} {m mF : Mem} (h : FnAt X.B F q [] .none a) (lim : NoLim X.B) (hD : 4 ≤ D) (mu : List Nat) (ok : cloOkB ps F.scope = true) (hbind : ∀ doc pm cd ct, BindN (fnXD F q [] .none doc pm cd ct) ps [] []) (hl : avs.length = ps.length)
    (hb : wpS ⟨X, D, F.scope.names, mu⟩ 40 40 F.body (ps.zip avs) m (Ret (IsV r mF))) : Call X (D + 1) (opF a) m avs r mF :=
  (h.callF (fvs := []) lim (cloOk ok) ⟨nofun, nofun⟩ hbind hl (by rw [List.append_nil]; exact wpS_ok (G := ⟨X, D, F.scope.names, mu⟩) hD hb)).to
private theorem FnAt.methC {X : Amb} {D : Nat} {F : Fd} {q : Str} {a : Addr} {ps : List Str} {avs : List AV} {r : AV} {m mF : Mem} (h : FnAt X.B F q [] .none a) (lim : NoLim X.B) (hD : 4 ≤ D) (mu : List Nat) (ok : cloOkB ps F.scope = true) (hbind : ∀ doc pm cd ct, BindN (fnXD F q [] .none doc pm cd ct) ps [] []) (hl : avs.length = ps.length)
    (hb : wpS ⟨X, D, F.scope.names, mu⟩ 40 40 F.body (ps.zip avs) m (Ret (IsV r mF))) : CallC X (D + 1) a m avs r mF :=
  h.callC lim (cloOk ok) hbind hl ((wpS_ok (G := ⟨X, D, F.scope.names, mu⟩) hD hb))
end
section
open PySem PySem.W PyProof.Rows PySem.Calls PySem.SeqAt
structure MakeC (X : Amb) (C f : Addr) : Prop where
  made : ∀ h : Heap, (∀ b o, X.B.h b = some (.frz o) → h.get? b = some o) → PySem.W.Makes (model X.prog X.w) h C
  init : ∀ h : Heap, (∀ b o, X.B.h b = some (.frz o) → h.get? b = some o) → Looks (model X.prog X.w) h (typeLookup (.ref C) "__init__") (some (.ref f))
  bind : ∀ h : Heap, (∀ b o, X.B.h b = some (.frz o) → h.get? b = some o) → ∀ self, Looks (model X.prog X.w) h (bindSpecial (.ref f) self) (.ref f, [self])
private theorem tc_weight (C : Addr) (vs : List Value) : (Code.builtin "type.__call__" ⟨.ref C :: vs, []⟩).weight = 1 := by kernel_rfl
private theorem tc_units (C : Addr) (vs : List Value) : (Code.builtin "type.__call__" ⟨.ref C :: vs, []⟩).cUnits = 1 := by kernel_rfl
section
variable {X : Amb} {D : Nat} {m m' : Mem} {C f : Addr} {avs : List AV}
private theorem makeC (mk : MakeC X C f) (oi : CallC X D f (sn m (.ns [])) (.inst C m.length :: avs) .none m') : Call X (D + 1) (opF C) m avs (.inst C m.length) m' := fun A c vs R S rs Q E k => by
  obtain ⟨⟨h, g, d, t, os⟩, M⟩ := c
  have S : Sep X ⟨h, g, d, t, os⟩ M m := S
  refine wpAny_call (make_core (mk.made _ fun b o e => S.base e) (mk.init _ fun b o e => S.base e) (mk.bind _ fun b o e => S.base e) (.inl rfl) ?_)
  have hnd : (h.push emptyDict).Ns h.objs.size (fun zz => none) := ⟨_, #[], _, Heap.get?_push_size _ rfl, rfl, fun e he => absurd he (by simp), fun zz => rfl⟩
  have S1 := S.newMut emptyDict (ao := .ns []) t (.ns (Heap.Ns1.of_empty hnd) fun x => .inr ⟨rfl, rfl⟩)
  have S2 := S1.new (instObj C h.objs.size) rfl t
  have hx : (h.push emptyDict).objs.size = h.objs.size + 1 := Heap.size_push ..
  have le1 : M.le (M.set h.objs.size (.mu m.length)) := Map.le_set _ S.top
  have le2 := Map.le_set (.frz (instObj C h.objs.size)) S1.top
  have hr : Rep ((M.set h.objs.size (.mu m.length)).set (h.push emptyDict).objs.size (.frz (instObj C h.objs.size))) (.inst C m.length) (.ref (h.objs.size + 1)) := by
    rw [← hx]
    exact .inst (Map.set_at _ _ _) rfl (fun c q => by cases q) rfl (le2.h _ _ (Map.set_at _ _ _))
  have R' : Room (A.under (.builtin "type.__call__" ⟨.ref C :: vs, []⟩)) D := by
    have w1 := tc_weight C vs
    have w2 := tc_units C vs
    have r1 := R.2.1
    have r2 := R.2.2
    exact ⟨R.1, by show A.depth + _ + D < _; lia, by show A.units + _ + 16 * D + 16 < _; lia⟩
  refine codeAny_mono (oi _ ⟨_, _⟩ (.ref (h.objs.size + 1) :: vs) R' S2 (.cons hr (rs.up (le1.tr le2))) (fun v s' => v = .none ∧ Q (.ref (h.objs.size + 1)) s') E fun v d' g' => ?_) fun r s' z => ?_
  · exact ⟨g'.r.i_none, k _ d' ⟨(le1.tr le2).tr g'.l, g'.h, hr.up g'.l⟩⟩
  · rcases r with e | (_ | _ | _ | v)
    · exact z
    · exact z.elim
    · exact z.elim
    · exact z.elim
    · exact z
private theorem callWithC {M : Model} {A : Around} {E : Value → Shared → Prop} {s : Shared} {pos : Pos} {C : Addr} {args : List (Bool × Sem Value)} {Q : Value → Shared → Prop} (hplain : args.any (·.1) = false)
    (h : wpAny M A (evalArgs (.ref C) true args []) (fun a s₁ => (∃ r : ClsD, s₁.heap.get? C = some (r.obj C)) ∧ wpAny M A (call (.ref C) a.pos a.kw) Q E s₁) E s) :
    wpAny M A (callWith pos (.ref C) [] args []) Q E s := by
  unfold callWith
  refine wpAny_bind (wpAny_holding (wpAny_mono h (fun a s₁ h₁ => ?_) fun zz zz x => x))
  obtain ⟨⟨r, hC⟩, h₂⟩ := h₁
  obtain ⟨hh, g, d, t, os⟩ := s₁
  refine wpAny_bind (wpAny_standAt ?_)
  simp only [hplain, List.any_nil, Bool.or_false]
  refine wpAny_bind (wpAny_keeperOf_exc hC ?_)
  exact wpAny_bind (wpAny_mono h₂ (fun r s₂ hr => wpAny_bind (wpAny_holding (wpAny_point (wpAny_pure hr)))) fun zz zz x => x)
private theorem Fn.cls {x : Str} {mN : Str → Option Value} {r : AV} (cl : Cls X C mN) (hg : Glo X.B x (.ref C)) (ho : Call X D (opF C) m avs r m') : Fn X D x m avs r m' := fun sc L m0 p es pos hx hes env A c T Q E k => by
  show wpAny (model X.prog X.w) A (do callWith pos (← eval (.Name x p) env) [] (backTo pos (starEach es env)) (backToKw pos (keywordEach [] env))) Q E c.s
  refine wpAny_bind (globGo T hx hg (callWithC (hes.p env pos).1 ((hes.p env pos).2 _ _ _ _ _ _ (hes.v pos env A c T _ _ fun vs d g => ?_))))
  obtain ⟨r, cl⟩ := cl
  exact ⟨⟨r, g.h.base cl.m⟩, ho A d vs T.R g.h g.r Q E fun v d2 g2 => k v d2 (g2.fr g.l)⟩
end
end
section
open PySem PySem.W PyProof.Rows PySem.Calls PySem.SeqAt
noncomputable def lexBody : List Stmt := (fdAt prog1 20).body
set_option backward.match.sparseCases false in
set_option backward.match.sparseCases false in
noncomputable def lamP : PySem.Expr → Option Pos
  | .Lambda _ _ _ p => some p
  | _ => none
set_option backward.match.sparseCases false in
noncomputable def partsE : PySem.Expr → List PySem.Expr
  | .Tuple es _ _ => es
  | e => [e]
set_option backward.match.sparseCases false in
noncomputable def valE : Stmt → List PySem.Expr
  | .Assign _ e _ => partsE e
  | _ => []
noncomputable def siteLex : Site := ⟨155, 151, lexBody.flatMap fun st => (valE st).filterMap fun e => (lamP e).map fun p => (p, "_law_lexer.<locals>.<lambda>")⟩
noncomputable def holdsBody : List Stmt := (fdAt prog1 30).body
set_option backward.match.sparseCases false in
noncomputable def keyLam : List PySem.Expr := holdsBody.filterMap fun st => match st with
  | .Assign _ (.Tuple [_, .Lambda a b c p] _ _) _ => some (.Lambda a b c p)
  | _ => none
noncomputable def siteHolds : Site := ⟨215, 213, keyLam.map fun e => (e.pos, "_law_holds.<locals>.<lambda>")⟩
structure KnM (X : Amb) : Prop extends KnL X where
  mkc : MakeC X 133 109
  f_lexer : FnC X (fdAt prog1 20) 156 155
  f_holds : FnC X (fdAt prog1 30) 216 215
  s_lexer : Makes X siteLex
  s_holds : Makes X siteHolds
section
variable {X : Amb} {D : Nat} {sc : Names} {env : Env} {own : List Addr} {A : Around} {c : Cf} {L : Lc} {m : Mem}
noncomputable def LamO (params : Arguments) (body : Expr) (scope : Scope) (qual : Str) (cl : List (Str × Addr)) (fo : Obj) (cd : Value) : Prop := ∃ pm ct, fo = { cls := .type "function", data := .func (kla_fn "<lambda>" qual params body scope cl pm cd ct) }
private theorem LamO.at' {params : Arguments} {body : Expr} {scope : Scope} {qual : Str} {cl : List (Str × Addr)} {fo : Obj} {cd : Value} {M : Map} {r : Addr} {x : Str} {a : Addr} (h : LamO params body scope qual cl fo cd) (hm : M.h r = some (.frz fo)) (hc : cl = [(x, a)]) (hcd : CodeRecM M cd qual) : LamAt M ⟨body, params, scope⟩ r x a := by
  obtain ⟨pm, ct, rfl⟩ := h
  exact ⟨_, _, hm, rfl, rfl, rfl, rfl, rfl, rfl, rfl, hc, rfl, rfl, hcd⟩
private theorem LamO.fn {params : Arguments} {body : Expr} {scope : Scope} {qual : Str} {cl : List (Str × Addr)} {fo : Obj} {cd : Value} (h : LamO params body scope qual cl fo cd) : ∃ fd, fo.cls = .type "function" ∧ fo.dict = none ∧ fo.data = .func fd := by
  obtain ⟨pm, ct, rfl⟩ := h
  exact ⟨_, rfl, rfl, rfl⟩
private theorem lamGo (b : Bool) {st : Site} (Mk : Makes X st) (T : Now X D sc env own A c L m) {params : Arguments} {body : Expr} {scope : Scope} {pos : Pos} {qual : Str} (hcode : env.code = .ref st.c) (hq : env.qual ++ "<lambda>" = qual) (hd : defaultsOf params env = ([], []))
    (hcl : scope.names.all (fun p => p.2 != .free || sc.lookup p.1 == some .cell) = true) (hu : ∀ pq ∈ st.at', pq.1.line = pos.line → pq.1.col = pos.col → pq.2 = qual) (hin : ∃ pq ∈ st.at', pq.1 = pos) {Q E : Value → Shared → Prop}
    (k : ∀ f d fo cd, Made X c m b qual (LamO params body scope qual (closL env.cells scope.names [])) f d fo cd → FS X env sc own d m L → Q (.ref f) d.s) : wpAny (model X.prog X.w) A (eval (.Lambda params body scope pos) env) Q E c.s := by
  have hcc : closureFor scope env = pure (closL env.cells scope.names []) := closureFor_eq fun x hx => by
    have : sc.lookup x = some .cell := beq_iff_eq.mp (List.all_eq_true.mp hcl _ hx)
    rcases T.T x (.inr this) with q | ⟨_, c, h, _⟩
    · rw [show env.kindOf x = some .cell from T.F.N.names.at this nofun] at q; cases q
    · exact ⟨c, h⟩
  refine kla_eval hd ?_
  rw [hq]
  exact mkFn b T.F.S Mk (Φ := LamO params body scope qual (closL env.cells scope.names [])) hu hin
    (fun mg ps h1 h2 h3 h4 h5 h6 h7 k => kla_makeFunction hcc T.F.N.gl h1 hcode h2 h3 h4 h5 h6 h7 fun c' ctv h' tk a b c d e => k _ c' h' tk a b c d e rfl ⟨_, _, rfl⟩)
    (fun mg ps cv h1 h2 h3 h4 h5 h6 k => kla_makeFunctionHit hcc T.F.N.gl h1 hcode h2 h3 h4 h5 h6 fun ctv h' tk a b => k _ h' tk a b rfl ⟨_, _, rfl⟩) fun f d fo cd md => k f d fo cd md (T.F.keep md.l md.h)
end
end
section
open PySem PySem.W PyProof.Rows PySem.Calls PySem.SeqAt
section
variable {X X' : Amb} {D : Nat} {sc : Names} {L : Lc} {m m1 m2 : Mem}
private theorem FnC.up {F : Fd} {a c : Addr} (h : FnC X F a c) (l : X.B.le X'.B) : FnC X' F a c := ⟨h.g.up l, h.f.imp fun o q => q.imp fun doc q => q.imp fun pm q => q.imp fun ct q => { q with m := l.h _ _ q.m, code := q.code.up l.l0.f }⟩
private theorem Makes.up {st : Site} (h : Makes X st) (l : X.B.le X'.B) : Makes X' st := by
  obtain ⟨mg, bm, o, h⟩ := h
  exact ⟨mg, bm, o, { h with t := l.h _ _ h.t, hd := fun hp k => h.hd hp fun b o e => k b o (l.h _ _ e), gl := h.gl.up l, bm := l.h _ _ h.bm }⟩
private theorem BisAt.up {F : Fd} {a d k : Addr} (h : BisAt X F a d k) (l : X.B.le X'.B) : BisAt X' F a d k := by
  obtain ⟨o, doc, pm, cd, ct, P, t, u, h⟩ := h
  exact ⟨o, doc, pm, cd, ct, P, t, u, { h with g := h.g.up l, m := l.h _ _ h.m, code := h.code.up l.l0.f, d := l.h _ _ h.d, k := l.h _ _ h.k }⟩
private theorem KnB.up (kn : KnB X) (l : X.B.le X'.B) : KnB X' :=
  { kn.toKn.up l with
    ci := kn.ci.up l, mi := kn.mi.up l, cd := kn.cd.up l, md := kn.md.up l
    dl := kn.dl.imp fun v h => ⟨h.1.up l, fun M k => h.2 M (l.tr k)⟩
    bR := kn.bR.up l, bL := kn.bL.up l }
private theorem FnV.ob {a : Addr} {o : Obj} {fd : FuncData} {avs : List AV} {r : AV} (hm : X.B.h a = some (.frz o)) (hd : o.data = .func fd) (ho : Call X D (opF a) m avs r m1) : FnV X D (.ext (.ref a)) m avs r m1 := fun sc L m0 x p es pos hx hes env A c T Q E k => by
  obtain ⟨v, r1, q⟩ := T.N.var x _ hx
  have := r1.i_ext
  subst this
  exact (wpAny_bind (wpAny_Name (loadVar T.N T.S q (callWith_function (o := o) ((hes.p env pos).2 _ _ _ _ _ _ (hes.v pos env A c T _ _ fun vs d g => ⟨⟨g.h.base hm, hd⟩, ho A d vs T.R g.h g.r Q E fun v d2 g2 => k v d2 (g2.fr g.l)⟩)))) (q.dbg T.N.dbg')) : wpAny (model X.prog X.w) A (do callWith pos (← eval (.Name x p) env) [] (backTo pos (starEach es env)) (backToKw pos (keywordEach [] env))) Q E c.s)
private theorem PE.and2 {e1 e2 : Expr} {p : Pos} {r : AV} (h1 : PE X D sc e1 L m (.bool true) m1) (h2 : PE X D sc e2 L m1 r m2) : PE X D sc (.BoolOp .And [e1, e2] p) L m r m2 := fun env A c T Q E k =>
  BoolOp_and (h1 env A c T _ _ fun v d g => g.r.i_bool ▸ wpAny_truthy_bool (h2 env A d (T.up g.l g.h) Q E fun v d2 g2 => k v d2 (g2.fr g.l)))
end
end
section
open PySem PySem.W PyProof.Rows PySem.Calls PySem.SeqAt Builtin Builtin.ObjectAttr
private theorem slot_fn_sa : Slot "function" "__setattr__" "object.__setattr__" := .of (owner := "object") (n := "__setattr__") (by rw [typeLookup_type, builtinLookup_eq_fast]; kernel_rfl) (by decide +kernel) (by decide +kernel) (by decide +kernel) (by first | exact .inl (by decide +kernel) | exact .inr (by decide +kernel)) (by rw [isSubtype_type]; kernel_rfl)
private theorem args_osa (a b c : Value) : argsOk "object.__setattr__" ⟨[a, b, c], []⟩ := by unfold argsOk; kernel_rfl
private theorem mro_fn : mroOf (.type "function") = pure [.type "function", .type "object"] := by kernel_rfl
private theorem passes_fn (self : Value) : refuseLoop self "__setattr__" [.type "function", .type "object"] = pure () := by kernel_rfl
section
variable {prog : Program} {w : World} {A : Around} {E : Value → Shared → Prop} {h : Heap} {g : Array GenState} {dr : Drawn} {t : Nat} {os : OsState}
private theorem osa_fn {f : Addr} {o : Obj} {v : Value} {tk : Tok} {Q : PySem.Fin → Shared → Prop} {fd : FuncData} (ho : h.get? f = some o) (hc : o.cls = .type "function") (hd : o.dict = none) (hdt : o.data = .func fd)
    (hq : ∀ h' tk' d, h.get? d = none → h'.get? f = some { o with dict := some d } → h'.Ns1 d (fun y => if y = "read" then some v else none) → Heap.ExtBut f h h' → Q (.done (.ret .none)) ⟨h', g, dr, tk', os⟩) : wpAny (model prog w) A (Builtin.«object.__setattr__» ⟨[.ref f, .str "read" tk, v], []⟩) Q E ⟨h, g, dr, t, os⟩ := by
  unfold Builtin.«object.__setattr__»
  repeat (first | rw [refuse_eq] | (rw [passes_fn]) | (with_reducible refine wpAny_loadPart_at ho ?_; rw [hc]) | (with_reducible refine wpAny_of_eq mro_fn ?_) | (with_reducible refine wpAny_of_eq lk_fn_read ?_) | wp_step)
  rw [hd]
  dsimp only
  rw [show (!true || !typeHasDict (Value.type "function")) = false from by kernel_rfl, if_neg Bool.false_ne_true, hdt]
  have hx₁ : (h.push { cls := .type "dict", data := .dict #[] }).get? f = some o := Heap.get?_push_of_some _ ho
  have hxs : f ≠ h.objs.size := Nat.ne_of_lt (Heap.lt_size ho)
  refine wpAny_bind (wpAny_alloc' ?_)
  refine wpAny_bind (wpAny_update' hx₁ ?_)
  have hgd : ((h.push { cls := .type "dict", data := .dict #[] }).update f fun o => { cls := o.cls, dict := some h.objs.size, data := o.data, slots := o.slots }).get? h.objs.size
      = some { cls := .type "dict", data := .dict #[] } :=
    (Heap.get?_update_ne _ _ _ _ hxs.symm).trans (Heap.get?_push_at rfl rfl)
  have hnd : ((h.push { cls := .type "dict", data := .dict #[] }).update f fun o => { cls := o.cls, dict := some h.objs.size, data := o.data, slots := o.slots }).Ns h.objs.size (fun zz => none) :=
    ⟨_, #[], _, hgd, rfl, fun e he => absurd he (by simp), fun zz => rfl⟩
  have hgf : ((h.push { cls := .type "dict", data := .dict #[] }).update f fun o => { cls := o.cls, dict := some h.objs.size, data := o.data, slots := o.slots }).get? f = some { cls := o.cls, dict := some h.objs.size, data := o.data, slots := o.slots } := by
    refine Heap.get?_update_self _ hx₁ ?_
    obtain ⟨oc, od, odt, osl⟩ := o
    dsimp only at hdt
    subst hdt; rfl
  unfold dictMade
  show wpAny _ _ (if finalisedInACycleAlone "function" = true then _ else _) _ _ _
  rw [if_neg (by decide +kernel)]
  refine wpAny_pure ?_
  show wpAny _ _ (storeInDict h.objs.size (.str "read" tk) "read" v) _ _ _
  unfold storeInDict newKeyGuard
  refine wpAny_bind (wpAny_pure (wpAny_bind (wpAny_nsSet1 (Heap.Ns1.of_empty hnd) fun h' hn' hs => ?_)))
  obtain ⟨oD, esD, epD, hoD, hdD, hcD⟩ := hn'.count (Within.cons "read" v Within.nil)
  refine wpAny_bind (wpAny_lookBehind hoD (by rw [hdD]; exact pastItsLine_dict (Nat.le_trans hcD (by rw [List.length_cons, List.length_nil, sizeLine_eq]; lia))) ?_)
  wp_walk
  refine hq h' _ h.objs.size (Heap.get?_none_of_le (Nat.le_refl _)) ((hs.2 f hxs).trans hgf) hn' fun b ob hbx hb => ?_
  exact (hs.2 b (Nat.ne_of_lt (Heap.lt_size hb))).trans ((Heap.get?_update_ne _ _ _ _ hbx).trans (Heap.get?_push_of_some _ hb))
private theorem fn_setAttr {f : Addr} {o : Obj} {v : Value} {Q : Unit → Shared → Prop} {fd : FuncData} (ho : h.get? f = some o) (hc : o.cls = .type "function") (hd : o.dict = none) (hdt : o.data = .func fd)
    (hq : ∀ h' tk' d, h.get? d = none → h'.get? f = some { o with dict := some d } → h'.Ns1 d (fun y => if y = "read" then some v else none) → Heap.ExtBut f h h' → Q () ⟨h', g, dr, tk', os⟩) : wpAny (model prog w) A (setAttr (.ref f) "read" v) Q E ⟨h, g, dr, t, os⟩ := by
  have hT : ∀ t', (⟨h, g, dr, t', os⟩ : Shared).TypeIs (.ref f) "function" := fun zz => ⟨o, ho, hc⟩
  unfold setAttr
  refine wpAny_bind (wpAny_mkText (wpAny_bind ?_))
  refine wpAny_callSpecial?_slot (name := Str.ofString "__setattr__") (hT _) slot_fn_sa (wpAny_call_entry slot_fn_sa (hT _) F.entry_object_sa (osa_fn ho hc hd hdt fun h' tk' d h1 h2 h3 h4 => ?_) (args_osa _ _ _))
  exact ⟨_, rfl, wpAny_pure (hq h' tk' d h1 h2 h3 h4)⟩
end
end
section
open PySem PySem.W PyProof.Rows PySem.Calls PySem.SeqAt
section
variable {X : Amb} {D : Nat} {m : Mem}
private theorem BinM.add {i : Nat} {xs ys : List AV} (e : m[i]? = some (.lst xs)) (hz : xs.length + ys.length ≤ 2 ^ 23) : BinM X D (binaryOp .Add) m (.mref i) (.lst ys) (.mref m.length) (sn m (.lst (xs ++ ys))) := fun A c v w R S r q Q E k => by
  cases r.i_mref with
  | mk ha => cases q.i_lst with
    | mk hk ry =>
      obtain ⟨vs, n, h1, rx⟩ := S.mlist ha e
      refine PySem.P.add_list h1 (S.frz hk) ?_ (by have := rx.len; have := ry.len; simp [sizeLine_is]; lia)
      have e3 : ∀ ws : List Value, ({ cls := .type "list", data := .seq (vs.toArray ++ ws.toArray) } : Obj) = lo (vs ++ ws) := fun ws => by rw [List.append_toArray]
      rw [e3]
      exact k _ _ (Got.newMut S (rx.app ry) c.s.toks)
end
end
section
open PySem PySem.W PyProof.Rows PySem.Calls PySem.SeqAt
section
variable {M : Model} {A : Around} {R : GenEnd} {Y : Protocol} {n : Nat} {s₀ : Shared} {c : Code} {fs : List Frame} {s : Shared} {env : Env}
  {K : Flow → Sem PySem.Fin} {H : Value → Sem PySem.Fin} {gd : Bool → Bool} {lv : List Value → List Value}
private theorem seg_If {test : Expr} {body orelse : List Stmt} {pos : Pos}
    (h : wpAny M (A.over c fs) (isTrue test env (eval test env)) (fun b s' => if b = true then Seg M A R Y n s₀ c ((execs body env).wrap K H gd lv) fs s' else Seg M A R Y n s₀ c ((execs orelse env).wrap K H gd lv) fs s') (fun zz zz => False) s) :
    Seg M A R Y n s₀ c ((exec (.If test body orelse pos) env).wrap K H gd lv) fs s := by
  show Seg M A R Y n s₀ c (.at pos fun zz => (isTrue test env (eval test env) >>= fun b => if b = true then execs body env else execs orelse env).wrap K H gd lv) fs s
  refine seg_at (seg_bind_wrap (wpAny_mono h (fun b s' hb => ?_) fun zz zz x => x.elim))
  cases b with
  | true => exact hb
  | false => exact hb
private theorem seg_plain {st : Stmt} (h : wpAny M (A.over c fs) (exec st env) (fun f s' => Seg M A R Y n s₀ c (K f) fs s') (fun zz zz => False) s) : Seg M A R Y n s₀ c ((exec st env).wrap K H gd lv) fs s :=
  seg_wrap (wpAny_mono h (fun zz zz x => x) fun zz zz x => x.elim)
private theorem seg_For {target iter : Expr} {body orelse : List Stmt} {pos : Pos} (hs : ∀ x, foldedSetIterable iter env x = pure x)
    (h : wpAny M (A.over c fs) (eval iter env) (fun x s₁ => wpAny M (A.over c fs) (pyIter x) (fun it s₂ =>
      ∀ p, Seg M A R Y n s₀ (.forLoop target it body orelse env) (M.den (.forLoop target it body orelse env))
        (.ret (fun r => ((match r with | .ok f => (.pure f : Sem Flow) | .error e => .raise e).onRaise fun (x : Value) => do
          if (← field x 1) == Value.none then unsupported "frame.own-activation:exception-without-traceback"
          setFlight x env.frame).wrap K H gd lv) none (gd false) (lv []) c p [] :: fs) s₂) (fun zz zz => False) s₁) (fun zz zz => False) s) :
    Seg M A R Y n s₀ c ((exec (.For target iter body orelse pos) env).wrap K H gd lv) fs s := by
  show Seg M A R Y n s₀ c (.at pos fun zz => (eval iter env >>= fun x => foldedSetIterable iter env x >>= fun x => standAt iter.pos >>= fun zz => holding [x] (pyIter x) >>= fun it => runOwn (.forLoop target it body orelse env) env).wrap K H gd lv) fs s
  refine seg_at (seg_bind_wrap (wpAny_mono h (fun x s₁ h₁ => ?_) fun zz zz x => x.elim))
  rw [hs x]
  show Seg M A R Y n s₀ c (.at iter.pos fun zz => (holding [x] (pyIter x) >>= fun it => runOwn (.forLoop target it body orelse env) env).wrap K H gd lv) fs s₁
  refine seg_at (seg_bind_wrap (wpAny_holding (wpAny_mono h₁ (fun it s₂ h₂ => ?_) fun zz zz x => x.elim)))
  exact seg_call h₂
end
section
variable {prog : Program} {w : World} {A : Around} {R : GenEnd} {Y : Protocol} {n : Nat} {s₀ : Shared} {fs : List Frame} {s : Shared} {env : Env}
noncomputable def notes (env : Env) : Value → Sem PySem.Fin := fun e => (do noteFrame e env; theTreesLotGoes e : Sem Unit).wrap (fun zz => .raise e) .raise id id
private theorem seg_forLoop {target : Expr} {it : Value} {body orelse : List Stmt}
    (h : wpAny (model prog w) (A.over (.forLoop target it body orelse env) fs) (pyNext it) (fun r s₁ => match r with
      | none => Seg (model prog w) A R Y n s₀ (.block orelse env) ((model prog w).den (.block orelse env)) fs s₁
      | some v => wpAny (model prog w) (A.over (.forLoop target it body orelse env) fs) (letOwnedTupleGo target it v) (fun zz s₂ => wpAny (model prog w) (A.over (.forLoop target it body orelse env) fs) (assign target env v) (fun zz s₃ =>
          Seg (model prog w) A R Y n s₀ (.forLoop target it body orelse env) ((execs body env).wrap (fun f => match f with
            | .next | .cont => .pure (.again (.forLoop target it body orelse env))
            | .brk => .pure (.done .next)
            | .ret v => .pure (.done (.ret v))) (notes env) id id) fs s₃) (fun zz zz => False) s₂) (fun zz zz => False) s₁) (fun zz zz => False) s) :
    Seg (model prog w) A R Y n s₀ (.forLoop target it body orelse env) ((model prog w).den (.forLoop target it body orelse env)) fs s := by
  show Seg _ A R Y n s₀ _ ((forTurn target it body orelse env).onRaise (fun x => do noteFrame x env; theTreesLotGoes x)) fs s
  unfold forTurn
  rw [Sem.onRaise_eq_wrap]
  refine seg_bind_wrap (wpAny_standAt ?_)
  refine seg_bind_wrap (wpAny_onRaise (wpAny_mono h (fun r s₁ h₁ => ?_) fun zz zz x => x.elim))
  cases r with
  | none => exact seg_again rfl h₁
  | some v =>
    dsimp only at h₁ ⊢
    refine seg_bind_wrap (wpAny_mono h₁ (fun zz s₂ h₂ => ?_) fun zz zz x => x.elim)
    refine seg_bind_wrap (wpAny_mono h₂ (fun zz s₃ h₃ => ?_) fun zz zz x => x.elim)
    rw [Sem.bind_eq_wrap', Sem.wrap_wrap]
    rw [Sem.wrap_congr (execs body env) _ _ (K' := fun f => match f with
          | .next | .cont => .pure (.again (.forLoop target it body orelse env))
          | .brk => .pure (.done .next)
          | .ret v => .pure (.done (.ret v))) (H' := notes env) (fun f => by cases f <;> rfl)
        (fun e => by first | exact Sem.bind_eq_wrap _ _ | (show (do noteFrame e env; theTreesLotGoes e : Sem Unit).bind (fun zz => .raise e) = _; rw [Sem.bind_eq_wrap]; rfl))]
    exact h₃
private theorem seg_block_nil (hfin : Seg (model prog w) A R Y n s₀ (.block [] env) (leafOf (.ok .next)) fs s) : Seg (model prog w) A R Y n s₀ (.block [] env) ((model prog w).den (.block [] env)) fs s := by
  exact hfin
end
section
variable {prog : Program} {w : World} {A : Around} {E : Value → Shared → Prop} {s : Shared}
private theorem pyNext_genQ {a : Addr} {g n : Nat} {gs : GenState} {P : Nat → Shared → Shared → Prop} {Y : Protocol} {Q : Option Value → Shared → Prop} (hh : A.handled = none)
    (hl : s.heap.NoLimit) (hroom : A.depth < recursionLimit)
    (hg : s.heap.IsGen a g) (hgs : s.gens[g]? = some gs)
    (hgo : gs.Goes (model prog w) A.in1 (fun n s₀ r s₁ => r = .ok (.ret .none) ∧ P n s₀ s₁) Y n (.send .none) (s.setGen g .running))
    (hY : ∀ v s₁ gs', gs'.bare = true → Y (n - 1) (s.setGen g .running) v s₁ (fun r' s'' => match n with
        | 0 => False
        | m + 1 => gs'.Goes (model prog w) A.in1 (fun n s₀ r s₁ => r = .ok (.ret .none) ∧ P n s₀ s₁) Y m r' s'') → Q (some v) (s₁.setGen g gs'))
    (hP : ∀ s₁, P n (s.setGen g .running) s₁ → ∀ h', (∀ b o, s₁.heap.get? b = some o → h'.get? b = some o) → Q none { s₁.setGen g .finished with heap := h' }) :
    wpAny (model prog w) A (pyNext (.ref a)) Q E s := by
  unfold pyNext
  refine wpAny_bind (wpAny_attempt (wpAny_callSpecial?_slot (name := Str.ofString "__next__") hg.typeIs slot_gen_next
    (wpAny_call_entry slot_gen_next hg.typeIs entry_gen_next ?_ (args_gen_next _))))
  show wpAny _ A.in1 (Builtin.Generator.genWake (.ref a) (.send .none)) _ _ s
  unfold Builtin.Generator.genWake
  refine wpAny_bind (wpAny_holding (wpAny_genNumber hg (wpAny_bind (wpAny_genState hgs ?_))))
  cases gs with
  | running => exact hgo.elim
  | finished => exact hgo.elim
  | _ =>
    refine wpAny_bind (wpAny_roomToWake hl hroom ?_)
    show wpAny _ A.in1 (.resume g (.send .none) [] _) _ _ s
    refine wpAny_resumeQ hgs hgo (fun x s₁ hx => ?_) (fun v s₁ gs' hb hv => ?_)
    · obtain ⟨rfl, hp⟩ := hx
      show wpAny _ A.in1 (newExc (.type "StopIteration") [] >>= _) _ _ _
      refine wpAny_bind ?_
      simp only [newExc, newTuple]
      refine wpAny_bind (wpAny_newObj_type ?_ (by size_fits))
      refine wpAny_bind (m := firstArgMember _ _) (wpAny_of_eq (a := Value.none) (by first | rfl | (simp only [firstArgMember]; rfl)) ?_)
      refine wpAny_newObj_type ?_ (by size_fits)
      simp only [raiseNew]
      refine wpAny_bind (wpAny_bind (wpAny_handled ?_))
      first | rw [show A.in1.handled = none from hh] | rw [hh]
      refine wpAny_throw ?_
      refine wpAny_bind (wpAny_isInstance (T := "StopIteration") (b := true) ⟨_, Heap.get?_push_size _ rfl, rfl⟩ isSubtype_stop ?_)
      exact wpAny_pure (hP s₁ hp _ fun b o hb => Heap.get?_push_of_some _ (Heap.get?_push_of_some _ hb))
    · exact wpAny_pure ⟨v, rfl, wpAny_pure (hY v s₁ gs' hb hv)⟩
end
end
section
open PySem PySem.W PyProof.Rows PySem.Calls PySem.SeqAt
noncomputable def frzOf : Option Cel → Option Cel
  | some (.frz o) => some (.frz o)
  | _ => none
noncomputable def XI (X : Amb) (os : OsState) : Amb := { X with B := ⟨fun a => frzOf (X.B.h a), fun zz => none⟩, os := os }
noncomputable def allM (X : Amb) (s : Shared) (t : Addr) : Map := ⟨fun a => (frzOf (X.B.h a)).elim (if a = t then (s.heap.get? a).map .frz else (s.heap.get? a).map .pin) some, fun i => s.gens[i]?⟩
private theorem frzOf_is {x : Option Cel} {y : Cel} (h : frzOf x = some y) : ∃ o, x = some (.frz o) ∧ y = .frz o := by
  cases x with
  | none => cases h
  | some z => cases z <;> cases h; exact ⟨_, rfl, rfl⟩
private theorem NsM.xi {X : Amb} {os : OsState} {a : Addr} {m : Str → Option Value} (h : NsM X.B a m) : NsM (XI X os).B a m := by
  cases h with
  | mk a b c d => exact .mk (by show frzOf _ = _; rw [a]; rfl) b c d
private theorem Glo.xi {X : Amb} {os : OsState} {x : Str} {v : Value} (h : Glo X.B x v) : Glo (XI X os).B x v := by
  cases h with
  | main a b => exact .main a.xi b
  | bu a b c d => exact .bu a.xi b c.xi d
structure Since (own : List Addr) (s₀ s : Shared) : Prop where
  h : ∀ a o, a ∉ own → s₀.heap.get? a = some o → s.heap.get? a = some o
  g : ∀ (i : Nat) (x : GenState), s₀.gens[i]? = some x → s.gens[i]? = some x
  os : s.os = s₀.os
  bare : AllBare s.gens
private theorem Since.tr {own : List Addr} {a b c : Shared} (x : Since own a b) (y : Since own b c) : Since own a c := ⟨fun p o h e => y.h p o h (x.h p o h e), fun i z e => y.g i z (x.g i z e), y.os.trans x.os, y.bare⟩
private theorem Since.rf {own : List Addr} {a : Shared} (h : AllBare a.gens) : Since own a a := ⟨fun zz zz zz e => e, fun zz zz e => e, rfl, h⟩
private theorem Since.more {own own' : List Addr} {a b : Shared} (x : Since own a b) (h : ∀ p ∈ own, p ∈ own') : Since own' a b := ⟨fun p o n e => x.h p o (fun q => n (h p q)) e, x.g, x.os, x.bare⟩
structure Stands (X : Amb) (s : Shared) : Prop where
  g : ∀ a o, X.B.h a = some (.frz o) → s.heap.get? a = some o
  bare : AllBare s.gens
structure GEnv (X : Amb) (env : Env) (sc : Names) (L : Addr) : Prop where
  names : env.scope.names = sc
  kind : env.scope.kind = .function
  gl : env.globals = mainGlobals
  bu : env.builtins = builtinsNs
  lc : env.locals = L
  cells : env.cells = []
  dbg : sc.lookup ("__debug__" : Str) = none
  cld : sc.lookup ("__classdict__" : Str) = none
  gL : X.B.h L = none
  nc : ∀ x, sc.lookup x ≠ some .cell
structure GAt (X : Amb) (env : Env) (sc : Names) (L : Addr) (Lc : Lc) (s : Shared) (t : Addr) : Prop where
  ns : ∃ o es ep, s.heap.get? L = some o ∧ o.data = .dict es ep ∧ StrKeys es ∧ ∀ x av, Lc.lookup x = some av → ∃ v, Rep (allM X s t) av v ∧ sc.lookup x = some .local ∧ nsFind es x = some v
  st : Stands X s
section
variable {X : Amb} {env : Env} {sc : Names} {L t : Addr} {lc lc' : Lc} {s : Shared} {m : Mem} {d : Cf} {D : Nat}
inductive AllM (X : Amb) (s : Shared) (t a : Addr) : Option Cel → Prop
  | base {o} : X.B.h a = some (.frz o) → AllM X s t a (some (.frz o))
  | t : a = t → AllM X s t a ((s.heap.get? a).map .frz)
  | pin : a ≠ t → AllM X s t a ((s.heap.get? a).map .pin)
private theorem allM_is (a : Addr) : AllM X s t a ((allM X s t).h a) := by
  show AllM X s t a ((frzOf (X.B.h a)).elim (if a = t then (s.heap.get? a).map .frz else (s.heap.get? a).map .pin) some)
  cases q : frzOf (X.B.h a) with
  | some y => obtain ⟨o, h, rfl⟩ := frzOf_is q; exact .base h
  | none =>
    show AllM X s t a (if a = t then _ else _)
    split
    · exact .t ‹_›
    · exact .pin ‹_›
private theorem allM_pin (hb : X.B.h L = none) (ht : L ≠ t) {o : Obj} (e : s.heap.get? L = some o) : (allM X s t).h L = some (.pin o) := by
  have := allM_is (X := X) (s := s) (t := t) L
  generalize (allM X s t).h L = z at this
  cases this with
  | base h => rw [hb] at h; cases h
  | t h => exact absurd h ht
  | pin _ => rw [e]; rfl
private theorem allM_ob (S : Stands X s) {a : Addr} {o : Obj} (e : s.heap.get? a = some o) : (allM X s t).ob a o := by
  unfold Map.ob
  have := allM_is (X := X) (s := s) (t := t) a
  generalize (allM X s t).h a = z at this
  cases this with
  | base h => have := S.g _ _ h; rw [e] at this; cases this; exact .inl rfl
  | t h => rw [e]; exact .inl rfl
  | pin _ => rw [e]; exact .inr rfl
private theorem allM_frz {o : Obj} (S : Stands X s) (e : s.heap.get? t = some o) : (allM X s t).h t = some (.frz o) := by
  have := allM_is (X := X) (s := s) (t := t) t
  generalize (allM X s t).h t = z at this
  cases this with
  | base h => have := S.g _ _ h; rw [e] at this; cases this; rfl
  | t h => rw [e]; rfl
  | pin h => exact absurd rfl h
private theorem allM_cell (S : Stands X s) {a : Addr} {x : Cel} (e : (allM X s t).h a = some x) : CellAt (allM X s t) m s.heap a x ∧ ∀ j, x ≠ .mu j := by
  have := allM_is (X := X) (s := s) (t := t) a
  rw [e] at this
  generalize hz : some x = z at this
  cases this with
  | base h => cases hz; exact ⟨.frz (S.g _ _ h), nofun⟩
  | t h => obtain ⟨o, h1, rfl⟩ := Option.map_eq_some_iff.mp hz.symm; exact ⟨.frz h1, nofun⟩
  | pin _ => obtain ⟨o, h1, rfl⟩ := Option.map_eq_some_iff.mp hz.symm; exact ⟨.pin h1, nofun⟩
private theorem GAt.fs (V : GEnv X env sc L) (ht : L ≠ t) (g : GAt X env sc L lc s t) : FS (XI X s.os) env sc [L] ⟨s, allM X s t⟩ [] lc := by
  obtain ⟨o, es, ep, h1, h2, h3, h4⟩ := g.ns
  have hp := allM_pin (t := t) V.gL ht h1
  exact {
    S := {
      c := fun a x e => (allM_cell g.st e).1
      i := fun a b j e zz => absurd rfl ((allM_cell (m := []) g.st e).2 j)
      g := fun zz zz e => e
      x := ⟨fun a x e => by
        have e : frzOf (X.B.h a) = some x := e
        show (frzOf (X.B.h a)).elim _ some = _; rw [e]; rfl, fun i x (e : none = some x) => by cases e⟩
      os := rfl
      bare := g.st.bare }
    N := {
      names := .of V.names
      kind := V.kind
      gl := V.gl
      bu := V.bu
      dbg := V.dbg
      cld := V.cld
      cel := fun x c h => by rw [V.cells] at h; cases h
      var := fun x av h => (h4 x av h).imp fun v q => ⟨q.1, .loc (by unfold Env.kindOf; rw [V.names]; exact q.2.1) (by rw [V.lc]; exact hp) h2 h3 q.2.2⟩ }
    ow := fun a ha => by cases List.mem_singleton.mp ha; exact ⟨⟨o, hp⟩, by show frzOf (X.B.h L) = none; rw [V.gL]; rfl⟩
    ns := ⟨nsFind es, by rw [V.lc]; exact ⟨o, es, ep, h1, h2, h3, fun zz => rfl⟩⟩
    L := by rw [V.lc]; exact List.mem_cons_self
    cell := fun x c h => by rw [V.cells] at h; cases h
    cL := fun x c h => by rw [V.cells] at h; cases h
    inj := fun x y c h => by rw [V.cells] at h; cases h }
private theorem GEnv.stos (V : GEnv X env sc L) : Stos sc env [L] := fun x h => h.elim (fun h => .inl (by unfold Env.kindOf; rw [V.names]; exact h)) fun h => absurd h (V.nc x)
private theorem Sep.stands {os : OsState} (S : Sep (XI X os) s d.M m) : Stands X s := ⟨fun a o e => S.frz (S.x.h a (.frz o) (by show frzOf (X.B.h a) = _; rw [e]; rfl)), S.bare⟩
private theorem since_of (st : Stands X s) (S : Hp (XI X s.os) d m) (l : Map.leB [L] (allM X s t) d.M) : Since [L] s d.s :=
  ⟨fun a o n e => (allM_ob st e).elim (fun h => S.frz (l.h a _ n h)) fun h => S.pin (l.h a _ n h), fun i x e => S.g i x (l.g i x e), S.os, S.bare⟩
end
end
section
open PySem PySem.W PyProof.Rows PySem.Calls PySem.SeqAt
noncomputable def esc : Nat → Bool → List Nat → List (Nat × List Nat)
  | i, true, [] => [(i - 1, [92])]
  | _, false, [] => []
  | i, true, c :: r => (i, [92, c]) :: esc (i + 1) false r
  | i, false, c :: r => if c = 92 then esc (i + 1) true r else (i, [c]) :: esc (i + 1) false r
noncomputable def escF : Fd := fdAt prog1 12
set_option backward.match.sparseCases false in
noncomputable def escFor : Expr × List Stmt := match escF.body with
  | [_, _, .For t _ b _ _, _] => (t, b)
  | _ => (.Name "" ⟨0, 0, 0, 0⟩, [])
structure GLoc (X : Amb) (L : Addr) (b : Bool) (p : Int) (s : Shared) : Prop where
  ns : ∃ o es ep t, s.heap.get? L = some o ∧ o.data = .dict es ep ∧ StrKeys es ∧ nsFind es "escape" = some (.bool b) ∧ nsFind es "pos" = some (.int p t)
  st : Stands X s
noncomputable def gLc (b : Bool) (p : Int) : Lc := [("escape", .bool b), ("pos", .int p)]
noncomputable def fin : Bool → List Nat → Bool
  | b, [] => b
  | true, _ :: r => fin false r
  | false, c :: r => fin (c == 92) r
noncomputable def ownAt (L : Addr) (own : List Addr) (tr : Bool) (n : Nat) : List Addr := cond (tr && n == 0) [L] own
private theorem ownAt_L {L : Addr} {own : List Addr} {tr : Bool} {n : Nat} (h : L ∈ own) : L ∈ ownAt L own tr n := by
  unfold ownAt
  cases tr && n == 0 with
  | true => exact List.mem_cons_self
  | false => exact h
private theorem ownAt_sub {L b : Addr} {own : List Addr} {tr : Bool} {n : Nat} (h : L ∈ own) (hb : b ∈ ownAt L own tr n) : b ∈ own := by
  unfold ownAt at hb
  cases e : tr && n == 0 with
  | true => rw [e] at hb; exact List.mem_singleton.mp hb ▸ h
  | false => rw [e] at hb; exact hb
private theorem fin_len : ∀ (r : List Nat) (i : Nat) (b : Bool), fin b r = true → (esc i b r).length ≠ 0
  | [], i, true, _ => nofun
  | c :: r, i, true, h => nofun
  | c :: r, i, false, h => by
    unfold esc
    split
    · rename_i hc
      exact fin_len r (i + 1) true (by subst hc; exact h)
    · exact nofun
private theorem ownAt_all {L : Addr} {own : List Addr} {tr : Bool} {r : List Nat} {i : Nat} {b : Bool} (h : tr = fin b r) : ownAt L own tr (esc i b r).length = own := by
  unfold ownAt
  cases tr with
  | false => rfl
  | true => rw [show ((esc i b r).length == 0) = false from beq_eq_false_iff_ne.mpr (fin_len r i b h.symm)]; rfl
noncomputable def gEnd (L : Addr) (own : List Addr) (tr : Bool) : GenEnd := fun n s₀ r s₁ => r = .ok (.ret .none) ∧ n = 0 ∧ Since (ownAt L own tr 0) s₀ s₁
noncomputable def pairAV (x : Nat × List Nat) : AV := .tup [.int (x.1 : Nat), .str x.2]
noncomputable def gProto (X : Amb) (L : Addr) (own : List Addr) (tr : Bool) (T : List (Nat × List Nat)) : Protocol := fun m s₀ v s kap =>
  (∃ x t n tk1 tk2, T.reverse[m]? = some x ∧ v = .ref t ∧ s₀.heap.get? t = none ∧ t ∉ own ∧ s.heap.get? t = some (tpo [.int x.1 tk1, .str ⟨x.2.toArray⟩ tk2] n)) ∧ Since own s₀ s ∧ (∀ b ∈ ownAt L own tr m, ∃ o, s.heap.get? b = some o) ∧
  ∀ s'' : Shared, (∀ b ∈ ownAt L own tr m, ∀ o, s.heap.get? b = some o → s''.heap.get? b = some o) → Stands X s'' → kap (.send .none) s''
private theorem rev_at {α : Type} (pre r : List α) (x : α) : (pre ++ x :: r).reverse[r.length]? = some x := by
  rw [List.reverse_append, List.reverse_cons, List.append_assoc, List.getElem?_append_right (Nat.le_of_eq List.length_reverse), List.length_reverse, Nat.sub_self]; rfl
noncomputable abbrev escN : Names := escF.scope.names
section
variable {X : Amb} {env : Env} {L : Addr} {s : Shared} {d : Cf} {m : Mem} {lc : Lc} {b : Bool} {p : Int}
private theorem gn : escN.lookup ("escape" : Str) = some .local ∧ escN.lookup ("pos" : Str) = some .local ∧ escN.lookup ("ch" : Str) = some .local := ⟨rfl, rfl, rfl⟩
private theorem GLoc.at' (g : GLoc X L b p s) (t : Addr) : GAt X env escN L (gLc b p) s t := by
  obtain ⟨o, es, ep, tk, h1, h2, h3, h4, h5⟩ := g.ns
  refine ⟨⟨o, es, ep, h1, h2, h3, fun x av h => ?_⟩, g.st⟩
  rcases lookup_set h with ⟨rfl, rfl⟩ | ⟨_, h⟩
  · exact ⟨_, .bool b, gn.1, h4⟩
  · rcases lookup_set h with ⟨rfl, rfl⟩ | ⟨_, h⟩
    · exact ⟨_, .int p tk, gn.2.1, h5⟩
    · cases h
private theorem GLoc.of (V : GEnv X env escN L) {os : OsState} (F : FS (XI X os) env escN [L] d m lc) (hb : lc.lookup ("escape" : Str) = some (.bool b)) (hp : lc.lookup ("pos" : Str) = some (.int p)) : GLoc X L b p d.s := by
  obtain ⟨v, r, z⟩ := F.N.var _ _ hb
  obtain ⟨w, r2, z2⟩ := F.N.var _ _ hp
  rw [r.i_bool] at z
  obtain ⟨t, rfl⟩ := r2.i_int
  have hk : ∀ x, escN.lookup x = some .local → ¬ (env.kindOf x = some .cell ∨ env.kindOf x = some .free) := fun x h q => by unfold Env.kindOf at q; rw [V.names, h] at q; exact q.elim nofun nofun
  cases z with
  | loc _ q1 q2 q3 q4 =>
    cases z2 with
    | loc _ q1' q2' q3' q4' =>
      rw [q1] at q1'; cases q1'
      rw [q2] at q2'; cases q2'
      rw [V.lc] at q1
      exact ⟨⟨_, _, _, t, F.S.pin q1, q2, q3, q4, q4'⟩, F.S.stands⟩
    | cel k => exact absurd k (hk _ gn.2.1)
  | cel k => exact absurd k (hk _ gn.1)
private theorem segYield {A : Around} {T : List (Nat × List Nat)} {n : Nat} {s₀ s3 : Shared} {c0 : Code} {fs : List Frame} {KF : Flow → Sem PySem.Fin} {H : Value → Sem PySem.Fin} {es : List Expr} {ke : Nat} {epos ypos pos : Pos} {own : List Addr} {t : Addr} {q : Nat} {tx : List Nat} {tr : Bool}
    (V : GEnv X env escN L) (co : env.scope.isCoroutine = false) (hfs : splitAtGen fs = none) (hfg : fs.any Frame.guarded = false) (R : Room (A.over c0 fs) 8) (hLo : L ∈ own) (hall : ∀ b ∈ ownAt L own tr n, ∃ o, s3.heap.get? b = some o) (st : Stands X s3) (F : FS (XI X s3.os) env escN [L] d [] lc) (l : Map.leB [L] (allM X s3 t) d.M)
    (hex : ∀ a ∈ own, ∃ a' o, a ≤ a' ∧ s3.heap.get? a' = some o) (hs : Since own s₀ s3) (hE : PEs (XI X s3.os) 8 escN es lc [] [.int (q : Nat), .str tx] []) (hT : T.reverse[n]? = some (q, tx)) (hb : lc.lookup ("escape" : Str) = some (.bool b)) (hp : lc.lookup ("pos" : Str) = some (.int (q : Nat)))
    (hnext : ∀ s5 s'', Since [L] s3 s5 → (∀ b ∈ ownAt L own tr n, ∀ o, s5.heap.get? b = some o → s''.heap.get? b = some o) → GLoc X L b q s'' → Seg (model X.prog X.w) A (gEnd L own tr) (gProto X L own tr T) n s'' c0 (KF .next) fs s'') :
    Seg (model X.prog X.w) A (gEnd L own tr) (gProto X L own tr T) (n + 1) s₀ c0 ((exec (.Expr (.Yield (some (.Tuple es ke epos)) ypos) pos) env).wrap KF H id id) fs d.s := by
  refine seg_Expr_Yield hfs rfl hfg ?_ co (by unfold interactive; rw [V.kind]; rfl)
  refine wpAny_Tuple (hE epos env _ d (F.at' R) _ _ fun vs d4 g => ⟨by rw [g.r.len]; show 2 ≤ 2 ^ 24; decide, ?_⟩)
  have F4 := F.keep g.l g.h
  have N := Got.newTup F4.S g.r d4.s.toks
  have l5 : Map.leB [L] (allM X s3 t) (d4.M.set d4.s.heap.objs.size (.frz (tpo vs))) := l.tr ((g.l.tr N.l).b [L])
  have F5 := F4.keep N.l N.h
  have below : ∀ a o, s3.heap.get? a = some o → a < d4.s.heap.objs.size := fun a o h => by
    by_cases hL : a = L
    · subst hL; exact (F4.ow a List.mem_cons_self).1.elim fun q hq => Heap.lt_size (F4.S.pin hq)
    · exact Heap.lt_size ((since_of st F4.S (l.tr (g.l.b [L]))).h a o (fun h => hL (List.mem_singleton.mp h)) h)
  have hsince := since_of st F5.S l5
  have hto : d4.s.heap.objs.size ∉ own := fun hto => (hex _ hto).elim fun a' h => h.elim fun o h => absurd (below a' o h.2) (Nat.not_lt.mpr h.1)
  intro kap hkap
  refine ⟨?_, hs.tr (hsince.more fun b hb => List.mem_singleton.mp hb ▸ hLo), fun b hb => ?_, fun s'' ho hg => hkap .none s'' (hnext _ s'' hsince ho ?_)⟩
  · cases g.r.i_cons with
    | mk r1 rs => cases rs.i_cons with
      | mk r2 rs2 =>
        cases rs2.i_nil
        obtain ⟨tk1, rfl⟩ := r1.i_int
        obtain ⟨tk2, rfl⟩ := r2.i_str
        refine ⟨(q, tx), d4.s.heap.objs.size, 0, tk1, tk2, hT, rfl, ?_, hto, Heap.get?_push_size _ rfl⟩
        cases h : s₀.heap.get? d4.s.heap.objs.size with
        | none => rfl
        | some o => exact absurd (below _ o (hs.h _ o hto h)) (Nat.lt_irrefl _)
  · by_cases hbL : b = L
    · exact (F5.ow b (hbL ▸ List.mem_cons_self)).1.imp fun q hq => F5.S.pin hq
    · exact (hall b hb).imp fun o ho => hsince.h b o (fun h => hbL (List.mem_singleton.mp h)) ho
  · obtain ⟨⟨o, es, ep, tk, h1, h2⟩, _⟩ := GLoc.of V F5 hb hp
    exact ⟨⟨o, es, ep, tk, ho _ (ownAt_L hLo) _ h1, h2⟩, hg⟩
end
end
section
open PySem PySem.W PyProof.Rows PySem.Calls PySem.SeqAt
structure GInv (X : Amb) (L e it : Addr) (St : Nat → Heap → Prop) (i : Nat) (b : Bool) (s : Shared) : Prop where
  loc : ∃ p, GLoc X L b p s ∧ (b = true → p = (i : Int) - 1 ∧ 1 ≤ i)
  en : ∃ old, IsEnum s.heap e it i old
  st : St i s.heap
noncomputable abbrev SegG (X : Amb) (A : Around) (L : Addr) (own : List Addr) (tr : Bool) (T : List (Nat × List Nat)) (n : Nat) (s₀ : Shared) (c : Code) (t : Sem PySem.Fin) (fs : List Frame) (s : Shared) : Prop := Seg (model X.prog X.w) A (gEnd L own tr) (gProto X L own tr T) n s₀ c t fs s
noncomputable def escLoop (e : Addr) (env : Env) : Code := .forLoop escFor.1 (.ref e) escFor.2 [] env
section
variable {X : Amb} {env : Env} {L e it : Addr} {l : List Nat} {St : Nat → Heap → Prop} {A : Around} {T : List (Nat × List Nat)} {KK : Result → Sem PySem.Fin} {c0 : Code} {pp : Pos} {tr : Bool}
private theorem okC {c : Nat} (hl : ∀ c ∈ l, c < 0x110000) (h : c ∈ l) : okS [c] := okS_1 (hl c h)
private theorem h48 : 4 ≤ 8 := by decide
private theorem ok92 : okS [92] := okS_1 (by decide)
private theorem PEs.wp {D : Nat} {sc : Names} {es : List Expr} {lc : Lc} {m m1 : Mem} {avs : List AV} (hD : 4 ≤ D) (hs : es.all notStar = true) (h : wpEs ⟨X, D, sc, []⟩ 20 es lc m (IsV avs m1)) : PEs X D sc es lc m avs m1 :=
  OkEs.go ((wpOk (G := ⟨X, D, sc, []⟩) hD 20).es _ _ _ _ hs h) fun zz zz h1 zz h => by cases h; exact h1
private theorem GLoc.lt {b : Bool} {p : Int} {s : Shared} (g : GLoc X L b p s) : L ≠ s.heap.objs.size := g.ns.elim fun zz h => h.elim fun zz h => h.elim fun zz h => h.elim fun zz h => Nat.ne_of_lt (Heap.lt_size h.1)
private theorem GLoc.live {b : Bool} {p : Int} {s : Shared} (g : GLoc X L b p s) : ∃ o, s.heap.get? L = some o := g.ns.imp fun zz h => h.elim fun zz h => h.elim fun zz h => h.elim fun zz h => h.1
private theorem segW {X' : Amb} (hp : X'.prog = X.prog ∧ X'.w = X.w) {own : List Addr} {n : Nat} {s₀ : Shared} {c : Code} {fs : List Frame} {KF : Flow → Sem PySem.Fin} {H : Value → Sem PySem.Fin} {sc : Names} {lc : Lc} {P : RP} {sts : List Stmt} {d : Cf} {ow : List Addr} {tr : Bool}
    (h : W X' 8 sc sts lc [] P) (T' : Now X' 8 sc env ow (A.over c fs) d lc []) (k : ∀ v d' fl L' m', Fin X' env sc ow d P v d' fl L' m' → SegG X A L own tr T n s₀ c (KF v) fs d'.s) : SegG X A L own tr T n s₀ c ((execs sts env).wrap KF H id id) fs d.s :=
  seg_wrap (by
    have := h env ow _ d T' (fun v s' => SegG X A L own tr T n s₀ c (KF v) fs s') (fun x s' => SegG X A L own tr T n s₀ c (H x) fs s') k
    rw [hp.1, hp.2] at this
    exact this)
private theorem genLoop (V : GEnv X env escN L) (co : env.scope.isCoroutine = false) (hne : L ≠ e ∧ L ≠ it ∧ e ≠ it) (nB : ∀ a o, X.B.h a = some (.frz o) → a ≠ e ∧ a ≠ it)
    (hD : ∀ A : Around, A.handled = none → Draws X.prog X.w A it [it] l.length (fun i v => ∃ c u, l.toArray[i]? = some c ∧ v = .str ⟨#[c]⟩ u) St) (hl : ∀ c ∈ l, c < 0x110000)
    (R : Room (A.over (escLoop e env) [.ret KK none false [] c0 pp []]) 8)
    (hEnd : ∀ s₀ s b p, tr = b → GLoc X L b p s → (b = true → p = (l.length : Int) - 1 ∧ 1 ≤ l.length) → (∃ pre, T = pre ++ esc l.length b []) → (∃ o, s.heap.get? e = some o) → Since [L, e, it] s₀ s → SegG X A L [L, e, it] tr T (esc l.length b []).length s₀ c0 (KK (.ok .next)) [] s) :
    ∀ (r : List Nat) (i : Nat) (b : Bool) (s₀ s : Shared), l.drop i = r → i ≤ l.length → GInv X L e it St i b s → Since [L, e, it] s₀ s → (∃ pre, T = pre ++ esc i b r) → tr = fin b r →
      SegG X A L [L, e, it] tr T (esc i b r).length s₀ (escLoop e env) ((model X.prog X.w).den (escLoop e env)) [.ret KK none false [] c0 pp []] s := by
  intro r
  induction r with
  | nil =>
    intro i b s₀ s hd hi I hs hT htr
    have hil : i = l.length := Nat.le_antisymm hi (List.drop_eq_nil_iff.mp hd)
    subst hil
    obtain ⟨p, g, hbp⟩ := I.loc
    obtain ⟨old, hen⟩ := I.en
    refine seg_forLoop (wpAny_pyNext_enum_endD (hD _ R.1) hen I.st fun h' hx => ?_)
    refine seg_block_nil (seg_leaf (.ok .next) (hEnd s₀ _ b p (by rw [htr]; cases b <;> rfl) ?_ hbp hT ⟨_, hx _ _ hne.2.2 hen⟩ (hs.tr ⟨fun a o ha e => hx a o (fun h => ha (h ▸ List.mem_cons_of_mem _ (List.mem_cons_of_mem _ List.mem_cons_self))) e, fun zz zz e => e, rfl, g.st.bare⟩)))
    obtain ⟨o, es, ep, t, h1, h2⟩ := g.ns
    exact ⟨⟨o, es, ep, t, hx _ _ hne.2.1 h1, h2⟩, fun a o e => hx a o (nB a o e).2 (g.st.g a o e), g.st.bare⟩
  | cons c r ih =>
    intro i b s₀ s hd hi I hs hT htr
    have hci : l[i]? = some c := by have : (l.drop i)[0]? = some c := by rw [hd]; rfl
                                    simpa using this
    have hlt : i < l.length := (List.getElem?_eq_some_iff.mp hci).1
    have hcm := okC hl (List.mem_of_getElem? hci)
    have hd' : l.drop (i + 1) = r := by rw [← List.drop_drop, hd]; rfl
    obtain ⟨p, g, hbp⟩ := I.loc
    obtain ⟨old, hen⟩ := I.en
    have hDA := hD (A.over (escLoop e env) [.ret KK none false [] c0 pp []]).in1 R.1
    refine seg_forLoop (wpAny_pyNext_enum_itemD hDA hen I.st hlt hne.2.2 (fun h => hne.2.2 (List.mem_singleton.mp h)) fun x h' tk ⟨cc, u, hcc, hxv⟩ hOut hSt hTup hsz hk => ?_)
    rw [List.getElem?_toArray, hci] at hcc; cases hcc
    subst hxv
    dsimp only
    refine wpAny_letOwnedTupleGo_enum hOut fun h3 hEn hsb => ?_
    have hsize : ∀ a o, s.heap.get? a = some o → a ≠ s.heap.objs.size := fun a o e h => by subst h; exact absurd (Heap.lt_size e) (Nat.lt_irrefl _)
    obtain ⟨oit, hoit⟩ := hDA.live i _ I.st
    obtain ⟨oL, esL, epL, tL, hL1, hL2, hL3, hL4, hL5⟩ := g.ns
    have keep3 : ∀ a o, a ≠ e → a ≠ it → s.heap.get? a = some o → h3.get? a = some o := fun a o h1 h2 q => hsb.extBut a o h1 (hk a o h1 h2 q)
    have hT3 : h3.get? s.heap.objs.size = some (tpo [.int (i : Nat) tk, .str ⟨#[c]⟩ u]) := hsb.extBut _ _ (hsize e _ hen).symm hTup
    have hst3 : St (i + 1) h3 := hDA.frame _ _ _ hSt fun b hb o q => hsb.extBut _ _ (fun h => hne.2.2 (h.symm.trans (List.mem_singleton.mp hb))) q
    generalize hs3 : ({ s with heap := h3, toks := tk + 1 } : Shared) = s3
    have hh3 : s3.heap = h3 := by rw [← hs3]
    subst hh3
    have hS3 : Since [L, e, it] s s3 := hs3 ▸ ⟨fun a o ha q => keep3 a o (fun h => ha (h ▸ List.mem_cons_of_mem _ List.mem_cons_self)) (fun h => ha (h ▸ List.mem_cons_of_mem _ (List.mem_cons_of_mem _ List.mem_cons_self))) q, fun zz zz e => e, rfl, g.st.bare⟩
    have st3 : Stands X s3 := ⟨fun a o q => keep3 a o (nB a o q).1 (nB a o q).2 (g.st.g a o q), hS3.bare⟩
    have F3 : FS (XI X s3.os) env escN [L] ⟨s3, allM X s3 s.heap.objs.size⟩ [] [("escape", .bool b)] := GAt.fs V (hsize L _ hL1) ⟨⟨oL, esL, epL, keep3 _ _ hne.1 hne.2.1 hL1, hL2, hL3, fun x av h => by
      rcases lookup_set h with ⟨rfl, rfl⟩ | ⟨_, h⟩
      · exact ⟨_, .bool b, gn.1, hL4⟩
      · cases h⟩, st3⟩
    refine Asg.tup (X := XI X s3.os) (D := 8) (st := escN) (xs := ["pos", "ch"]) (avs := [.int (i : Nat), .str [c]]) (.cons rfl (.cons rfl .nil)) rfl env [L] _ ⟨s3, _⟩ [] (.ref s.heap.objs.size) R V.stos F3 (.tupOf (allM_frz st3 hT3) (.cons (.int _ _) (.one (.str [c] _)))) _ _ fun d4 l4 F4 => ?_
    have mkI : ∀ (b' : Bool) (s5 s'' s6 : Shared), Since [L] s3 s5 → (∀ a ∈ [L, e, it], ∀ o, s5.heap.get? a = some o → s''.heap.get? a = some o) → Since [L] s'' s6 → GLoc X L b' (i : Nat) s6 → GInv X L e it St (i + 1) b' s6 := fun b' s5 s'' s6 h1 h2 h3' h4 =>
      have up : ∀ a o, a = e ∨ a = it → s3.heap.get? a = some o → s6.heap.get? a = some o := fun a o ha q =>
        have hnL : a ∉ [L] := fun hm => ha.elim (fun h => hne.1 ((List.mem_singleton.mp hm).symm.trans h)) (fun h => hne.2.1 ((List.mem_singleton.mp hm).symm.trans h))
        h3'.h a o hnL (h2 a (ha.elim (fun h => h ▸ List.mem_cons_of_mem _ List.mem_cons_self) fun h => h ▸ List.mem_cons_of_mem _ (List.mem_cons_of_mem _ List.mem_cons_self)) o (h1.h a o hnL q))
      ⟨⟨(i : Nat), h4, fun zz => ⟨by lia, Nat.succ_le_succ (Nat.zero_le _)⟩⟩, ⟨.str ⟨#[c]⟩ u, up e _ (.inl rfl) hEn⟩, hDA.frame _ _ _ hst3 fun a ha o q => up _ _ (.inr (List.mem_singleton.mp ha)) q⟩
    have nextT : ∀ b' pre', esc i b (c :: r) = pre' ++ esc (i + 1) b' r → ∃ pre, T = pre ++ esc (i + 1) b' r := fun b' pre' h => hT.elim fun pre hp => ⟨pre ++ pre', by rw [hp, h, List.append_assoc]⟩
    have hall : ∀ a ∈ [L, e, it], ∃ o, s3.heap.get? a = some o := fun a ha => (List.mem_cons.mp ha).elim (fun h => ⟨_, h ▸ keep3 _ _ hne.1 hne.2.1 hL1⟩) fun ha => (List.mem_cons.mp ha).elim (fun h => ⟨_, h ▸ hEn⟩) fun ha => (hDA.live _ _ hst3).imp fun o ho => List.mem_singleton.mp ha ▸ ho
    have hex : ∀ a ∈ [L, e, it], ∃ a' o, a ≤ a' ∧ s3.heap.get? a' = some o := fun a ha => (hall a ha).elim fun o h => ⟨a, o, Nat.le_refl _, h⟩
    have lown : ∀ b ∈ [L], b ∈ [L, e, it] := fun b hb => List.mem_singleton.mp hb ▸ List.mem_cons_self
    refine seg_execs_cons (seg_If ((PT.wp (G := ⟨XI X _, 8, escN, []⟩) (k := 9) (b := b) (m1 := []) h48 (by exact .mk)).go ⟨R, V.stos, F4⟩ fun d5 l5 F5 => ?_))
    have l5 := l4.tr l5
    cases b with
    | true =>
      have htr : tr = fin false r := htr
      rw [if_pos rfl]
      refine seg_execs_cons (segYield (q := i) (tx := [92, c]) (b := true) V co rfl rfl R List.mem_cons_self (by rw [ownAt_all htr]; exact hall) st3 F5 l5 hex (hs.tr hS3) ?_ (hT.elim fun pre h => h ▸ rev_at pre _ _) rfl rfl fun s6 s'' h6 hown g6 => segW (X := X) (X' := XI X _) ⟨rfl, rfl⟩ (P := fun fl L m => fl = .next ∧ L = ((("escape" : Str), AV.bool false) :: gLc true i) ∧ m = []) ?_ ⟨R, V.stos, (g6.at' s''.heap.objs.size).fs V g6.lt⟩ fun v d7 fl L7 m7 f => ?_)
      · exact .wp (by decide) rfl ⟨.addS (by show 2 ≤ 2 ^ 24; decide), .mk⟩
      · exact wpS_ok (G := ⟨XI X _, 8, escN, []⟩) (k := 9) (n := 9) h48 ⟨rfl, rfl, rfl⟩
      · obtain ⟨rfl, rfl, rfl⟩ := f.p
        cases f.r
        have hS7 := since_of g6.st f.F.S f.l
        exact seg_execs_nil (seg_again rfl (ih (i + 1) false s'' d7.s hd' hlt (mkI false s6 s'' d7.s h6 (by rw [ownAt_all htr] at hown; exact hown) hS7 (GLoc.of V f.F rfl rfl)) (hS7.more lown) (nextT false [(i, [92, c])] rfl) htr))
    | false =>
      rw [if_neg Bool.false_ne_true]
      refine seg_execs_cons (seg_If ((PT.wp (G := ⟨XI X _, 8, escN, []⟩) (k := 9) (b := decide ([c] = [92])) (m1 := []) h48 (by exact ⟨.eqS hcm ok92 h48, .mk⟩)).go ⟨R, V.stos, F5⟩ fun d6 l6 F6 => ?_))
      have l6 := l5.tr l6
      by_cases hc : c = 92
      · rw [if_pos (decide_eq_true (by rw [hc]))]
        refine segW (X := X) (X' := XI X _) ⟨rfl, rfl⟩ (P := fun fl L m => fl = .next ∧ L = ((("escape" : Str), AV.bool true) :: binds ["pos", "ch"] [.int (i : Nat), .str [c]] [("escape", .bool false)]) ∧ m = []) (wpS_ok (G := ⟨XI X _, 8, escN, []⟩) (k := 9) (n := 9) h48 (by exact ⟨rfl, rfl, rfl⟩)) ⟨R, V.stos, F6⟩ fun v d7 fl L7 m7 f => ?_
        obtain ⟨rfl, rfl, rfl⟩ := f.p
        cases f.r
        have hS7 := since_of st3 f.F.S (l6.tr f.l)
        have he : esc i false (c :: r) = esc (i + 1) true r := if_pos hc
        rw [he]
        exact seg_execs_nil (seg_execs_nil (seg_again rfl (ih (i + 1) true s₀ d7.s hd' hlt (mkI true d7.s d7.s d7.s hS7 (fun zz zz zz q => q) (.rf hS7.bare) (GLoc.of V f.F rfl rfl)) ((hs.tr hS3).tr (hS7.more lown)) (nextT true [] he) (by rw [htr, hc]; rfl))))
      · rw [if_neg (Bool.eq_false_iff.mp (decide_eq_false fun h => hc (List.cons.inj h).1))]
        have he : esc i false (c :: r) = (i, [c]) :: esc (i + 1) false r := if_neg hc
        have htr : tr = fin false r := by rw [htr]; show fin (c == 92) r = _; rw [beq_eq_false_iff_ne.mpr hc]
        rw [he]
        refine seg_execs_cons (segYield (q := i) (tx := [c]) (b := false) V co rfl rfl R List.mem_cons_self (by rw [ownAt_all htr]; exact hall) st3 F6 l6 hex (hs.tr hS3) ?_ (hT.elim fun pre h => h ▸ he ▸ rev_at pre _ _) rfl rfl fun s6 s'' h6 hown g6 => ?_)
        · exact .wp (by decide) rfl .mk
        · exact seg_execs_nil (seg_execs_nil (seg_execs_nil (seg_again rfl (ih (i + 1) false s'' s'' hd' hlt (mkI false s6 s'' s'' h6 (by rw [ownAt_all htr] at hown; exact hown) (.rf g6.st.bare) g6) (.rf g6.st.bare) (nextT false [(i, [c])] he) htr))))
end
end
section
open PySem PySem.W PyProof.Rows PySem.Calls PySem.SeqAt
noncomputable abbrev mkL (l : Lc) : Lc := l
private theorem room_func {A : Around} {D : Nat} {b : List Stmt} {env : Env} (R : Room A (D + 1)) : Room (A.over (.func b env) []) D := by
  have h1 : (A.over (.func b env) []).depth = A.depth + 0 + 1 := rfl
  have h2 : (A.over (.func b env) []).units = A.units + 0 + 3 := rfl
  exact ⟨R.1, by have := R.2.1; lia, by have := R.2.2; lia⟩
private theorem room_loop {A : Around} {D : Nat} {b lb : List Stmt} {env : Env} {t : Expr} {v : Value} {KK : Result → Sem PySem.Fin} {g : Bool} {lv : List Value} {p : Pos} (R : Room A (D + 2)) : Room (A.over (.forLoop t v lb [] env) [.ret KK none g lv (.func b env) p []]) D := by
  have h1 : (A.over (.forLoop t v lb [] env) [.ret KK none g lv (.func b env) p []]).depth = A.depth + (1 + 0) + 0 := rfl
  have h2 : (A.over (.forLoop t v lb [] env) [.ret KK none g lv (.func b env) p []]).units = A.units + (3 + 0) + 0 := rfl
  exact ⟨R.1, by have := R.2.1; lia, by have := R.2.2; lia⟩
section
variable {X : Amb} {env : Env} {L : Addr} {l : List Nat} {A : Around}
private theorem genFirst (V : GEnv X env escN L) (co : env.scope.isCoroutine = false) (hl : ∀ c ∈ l, c < 0x110000) (gen : Glo X.B "enumerate" (.type "enumerate")) (R : Room A 10) {s : Shared} {m : Str → Option Value} {t : Tok} (hn : s.heap.Ns L m) (ha : m "addr" = some (.str ⟨l.toArray⟩ t)) (st : Stands X s) {e it : Addr} (ee : e = s.heap.objs.size + 1) (ei : it = s.heap.objs.size) :
    SegG X A L [L, e, it] (fin false l) (esc 0 false l) (esc 0 false l).length s (.func escF.body env) ((model X.prog X.w).den (.func escF.body env)) [] s := by
  have kind : ∀ x, escN.lookup x = some .local → env.kindOf x = some .local := fun x h => by unfold Env.kindOf; rw [V.names]; exact h
  have plainF : (env.scope.kind == .class || (env.scope.kind == .module && env.locals != env.globals)) = false := by rw [V.kind]; rfl
  have R0 : Room (A.over (.func escF.body env) []) 8 := room_func (R.le (by decide))
  have hLlt : L < it := ei ▸ hn.lt
  have hnL : s.heap.Ns env.locals m := V.lc ▸ hn
  refine seg_func (seg_execs_cons (seg_plain (wpAny_Assign_Name (wpAny_Constant_int (wpAny_storeName_local (kind _ gn.2.1) hnL (fun h1 hn1 hs1 => ?_) plainF)) rfl)))
  refine seg_execs_cons (seg_plain (wpAny_Assign_Name (wpAny_pure (wpAny_storeName_local (kind _ gn.1) hn1 (fun h2 hn2 hs2 => ?_) plainF)) rfl))
  rw [V.lc] at hn2 hs1 hs2
  have keep2 : ∀ a o, a ≠ L → s.heap.get? a = some o → h2.get? a = some o := fun a o h e => hs2.extBut a o h (hs1.extBut a o h e)
  have hsz2 : h2.objs.size = it := by rw [hs2.1, ei]; exact hs1.1
  have st2 : Stands X { s with heap := h2, toks := s.toks + 1 + 1 + 1 } := ⟨fun a o e => keep2 a o (fun h => by rw [h, V.gL] at e; cases e) (st.g a o e), st.bare⟩
  obtain ⟨oL, esL, epL, hL1, hL2, hL3, hL4⟩ := hn2
  have F0 := GAt.fs (lc := [("addr", .str l)]) (s := { s with heap := h2, toks := s.toks + 1 + 1 + 1 }) (t := h2.objs.size) V (Nat.ne_of_lt (hsz2 ▸ hLlt)) ⟨⟨oL, esL, epL, hL1, hL2, hL3, fun x av h => by
    rcases lookup_set h with ⟨rfl, rfl⟩ | ⟨_, h⟩
    · exact ⟨_, .str l t, rfl, (hL4 _).trans ha⟩
    · cases h⟩, st2⟩
  refine seg_execs_cons (seg_For (fun zz => rfl) ?_)
  refine (wpAny_bind (globGo (F0.at' R0) rfl gen.xi (PySem.callWith_type rfl ((plain_pl rfl env _).2 _ _ _ _ _ _ ?_))) : wpAny _ _ (do callWith _ (← eval _ env) [] (backTo _ (starEach [.Name "addr" _] env)) (backToKw _ (keywordEach [] env))) _ _ _)
  obtain ⟨va, ra, za⟩ := F0.N.var ("addr" : Str) (.str l) rfl
  obtain ⟨ta, rfl⟩ := ra.i_str
  refine wpAny_items_cons (wpAny_Name (loadVar F0.N F0.S za ?_) (za.dbg F0.N.dbg')) rfl
  refine wpAny_items_nil (call_enumerate_str fun h4 hEn hIt hsz4 hk4 => ?_)
  dsimp only at hEn hIt hsz4 hk4 ⊢
  rw [hsz2] at hEn hIt hsz4
  rw [hsz2]
  rw [← ei] at ee
  rw [← ee] at hEn ⊢
  refine wpAny_pyIter_enum hEn fun pp => ?_
  obtain ⟨St, hD, h0⟩ : ∃ St, (∀ A : Around, A.handled = none → Draws X.prog X.w A it [it] l.length (fun i v => ∃ c u, l.toArray[i]? = some c ∧ v = .str ⟨#[c]⟩ u) St) ∧ St 0 h4 := by
    unfold strIterType at hIt
    split at hIt
    · exact ⟨fun i h => h.IsStrIter it "str_ascii_iterator" ⟨l.toArray⟩ ta (i : Nat), fun A hA => Draws.strAscii hA _ ⟨l.toArray⟩ ta, hIt⟩
    · exact ⟨fun i h => h.IsStrIter it "str_iterator" ⟨l.toArray⟩ ta (i : Nat), fun A hA => Draws.strWide hA _ ⟨l.toArray⟩ ta, hIt⟩
  have nB : ∀ a o, X.B.h a = some (.frz o) → a ≠ e ∧ a ≠ it := fun a o q => by
    have : a < it := ei ▸ Heap.lt_size (st.g a o q)
    exact ⟨Nat.ne_of_lt (ee ▸ Nat.lt_succ_of_lt this), Nat.ne_of_lt this⟩
  refine genLoop (St := St) V co ⟨Nat.ne_of_lt (ee ▸ Nat.lt_succ_of_lt hLlt), Nat.ne_of_lt hLlt, ee ▸ Nat.succ_ne_self _⟩ nB hD hl (room_loop R) (fun s₀ s1 b p htr g hb hT he1 hs => ?_) l 0 false s { s with heap := h4, toks := s.toks + 1 + 1 + 1 } rfl (Nat.zero_le _) ⟨⟨0, ⟨⟨oL, esL, epL, _, hk4 _ _ hL1, hL2, hL3, (hL4 _).trans rfl, (hL4 _).trans rfl⟩, fun a o q => hk4 a o (st2.g a o q), st.bare⟩, nofun⟩, ⟨_, hEn⟩, h0⟩ ⟨fun a o h q => hk4 a o (keep2 a o (fun h' => h (h' ▸ List.mem_cons_self)) q), fun zz zz q => q, rfl, st.bare⟩ ⟨[], rfl⟩ rfl
  show SegG X A _ _ _ _ _ s₀ _ ((execs [.If _ [.Expr (.Yield (some (.Tuple _ _ _)) _) _] [] _] env).wrap _ _ _ _) [] s1
  refine seg_execs_cons (seg_If ((PT.wp (G := ⟨XI X _, 8, escN, []⟩) (k := 9) (b := b) (m1 := []) h48 (by exact .mk)).go ⟨R0, V.stos, (g.at' s1.heap.objs.size).fs V g.lt⟩ fun d6 l6 F6 => ?_))
  have hS6 := since_of g.st F6.S l6
  cases b with
  | true =>
    obtain ⟨hp, hl1⟩ := hb rfl
    obtain ⟨n, hn⟩ : ∃ n : Nat, l.length = n + 1 := ⟨l.length - 1, by (clear hT hb he1; lia)⟩
    have hpn : p = (n : Nat) := by rw [hp, hn]; lia
    subst hpn
    rw [if_pos rfl]
    refine seg_execs_cons (segYield (n := 0) (q := n) (tx := [92]) (b := true) V co rfl rfl R0 List.mem_cons_self (by rw [htr]; exact fun b hb => List.mem_singleton.mp hb ▸ g.live) g.st F6 l6 ?_ hs (.wp (by decide) rfl .mk) (hT.elim fun pre h => ?_) rfl rfl fun s7 s'' zz zz g7 => seg_execs_nil (seg_execs_nil (seg_end (.ok (.ret .none)) ⟨rfl, rfl, .rf g7.st.bare⟩)))
    · exact fun a ha => he1.elim fun oe hoe => ⟨e, oe, (List.mem_cons.mp ha).elim (fun h => h ▸ ee ▸ Nat.le_of_lt (Nat.lt_succ_of_lt hLlt)) fun ha => (List.mem_cons.mp ha).elim (fun h => h ▸ Nat.le_refl _) fun ha => List.mem_singleton.mp ha ▸ ee ▸ Nat.le_succ _, hoe⟩
    · rw [h, hn]; exact rev_at pre [] _
  | false =>
    rw [if_neg Bool.false_ne_true]
    exact seg_execs_nil (seg_execs_nil (seg_end (.ok (.ret .none)) ⟨rfl, rfl, by rw [htr]; exact hs.tr (hS6.more fun b hb => List.mem_singleton.mp hb ▸ List.mem_cons_self)⟩))
end
end
section
open PySem PySem.W PyProof.Rows PySem.Calls PySem.SeqAt
noncomputable def star (D : Nat) : Around := { handled := none, depth := 999 - D, frames := none, guards := none, units := 9883 - 16 * D }
private theorem wpAny_star {α : Type} {M : Model} {A : Around} {D : Nat} {m : Sem α} {Q : α → Shared → Prop} {E : Value → Shared → Prop} {s : Shared} (R : Room A D) (h : wpAny M (star D) m Q E s) : wpAny M A m Q E s := fun Γ p hΓ => h Γ p
  ⟨hΓ.1.trans R.1, Nat.le_sub_of_add_le (Nat.le_trans (Nat.add_le_add_right hΓ.2.1 D) (Nat.le_of_lt_succ R.2.1)), fun l hl => (by cases hl), fun l hl => (by cases hl), Nat.le_sub_of_add_le (Nat.le_trans (Nat.add_le_add_right hΓ.2.2.2.2 (16 * D)) (Nat.le_of_add_le_add_right (b := 17) R.2.2))⟩
private theorem setGen_other {s : Shared} {g i : Nat} {x : GenState} (h : i ≠ g) : (s.setGen g x).gens[i]? = s.gens[i]? := by
  simp [Shared.setGen, Ne.symm h]
private theorem AllBare.setGen {s : Shared} {g : Nat} {x : GenState} (h : AllBare s.gens) (hx : x.bare = true) : AllBare (s.setGen g x).gens := fun y hy => by
  obtain ⟨i, hi⟩ := Array.mem_iff_getElem?.mp hy
  by_cases e : i = g
  · subst e
    have hlt : i < s.gens.size := by
      obtain ⟨hi', _⟩ := Array.getElem?_eq_some_iff.mp hi
      simpa [Shared.setGen] using hi'
    rw [setGen_self (gs := s.gens[i]) (Array.getElem?_eq_getElem hlt)] at hi
    cases hi; exact hx
  · rw [setGen_other e] at hi
    exact h y (Array.mem_of_getElem? hi)
noncomputable def Map.plus (M W : Map) : Map := ⟨fun a => (W.h a).elim (M.h a) some, fun i => (W.g i).elim (M.g i) some⟩
section
variable {X : Amb} {D : Nat} {sc : Names} {M W : Map} {s s' : Shared} {m : Mem}
private theorem Map.plus_h {a : Addr} (h : W.h a = none) : (M.plus W).h a = M.h a := congrArg (fun o => Option.elim o (M.h a) some) h
private theorem Map.plus_g {i : Nat} (h : W.g i = none) : (M.plus W).g i = M.g i := congrArg (fun o => Option.elim o (M.g i) some) h
private theorem Map.plus_W : W.le (M.plus W) := ⟨fun a x e => congrArg (fun o => Option.elim o (M.h a) some) e, fun a x e => congrArg (fun o => Option.elim o (M.g a) some) e⟩
structure Apart (M W : Map) : Prop where
  h : ∀ a x, M.h a = some x → W.h a = none
  g : ∀ i x, M.g i = some x → W.g i = none
private theorem Map.plus_M (p : Apart M W) : M.le (M.plus W) := ⟨fun a x e => (Map.plus_h (p.h a x e)).trans e, fun a x e => (Map.plus_g (p.g a x e)).trans e⟩
structure PinsIn (W : Map) (s : Shared) : Prop where
  h : ∀ a x, W.h a = some x → ∃ o, x = .pin o ∧ s.heap.get? a = some o
  g : ∀ i x, W.g i = some x → s.gens[i]? = some x
private theorem Sep.plus (S : Sep X s M m) (p : Apart M W) (w : PinsIn W s) : Sep X s (M.plus W) m :=
  have l := Map.plus_M p
  have old : ∀ a x, (M.plus W).h a = some x → W.h a = some x ∨ M.h a = some x := fun a x e => by
    cases q : W.h a with
    | none => exact .inr ((Map.plus_h q) ▸ e)
    | some y => rw [Map.plus_W.h _ _ q] at e; exact .inl e
  have mu : ∀ a j, (M.plus W).h a = some (.mu j) → M.h a = some (.mu j) := fun a j e => (old a _ e).elim (fun q => (w.h _ _ q).elim fun o h => nomatch h.1) id
  { S with
    c := fun a x e => (old a x e).elim (fun q => by obtain ⟨o, rfl, h⟩ := w.h _ _ q; exact .pin h) fun q => (S.c a x q).go l.l0 (fun zz e => e) fun zz zz => rfl
    i := fun a b j e1 e2 => S.i a b j (mu a j e1) (mu b j e2)
    g := fun i x e => by
      cases q : W.g i with
      | none => exact S.g i x ((Map.plus_g q) ▸ e)
      | some y => rw [Map.plus_W.g _ _ q] at e; cases e; exact w.g i _ q
    x := S.x.tr l }
private theorem Sep.subW (S : Sep X s M m) (w : W.le M) (wp : ∀ a x, W.h a = some x → ∃ o, x = .pin o) (b : Apart X.B W) (hk : ∀ a o, W.h a = none → M.h a ≠ none → s.heap.get? a = some o → s'.heap.get? a = some o) (hg : ∀ i x, W.g i = none → s.gens[i]? = some x → s'.gens[i]? = some x) (os : s'.os = s.os) (ba : AllBare s'.gens) : Sep X s' (M.sub W) m :=
  have l0 : M.le0 (M.sub W) := fun a x e n => (Map.sub_h (by
    cases q : W.h a with
    | none => rfl
    | some y => obtain ⟨o, rfl⟩ := wp a y q; have := w.h _ _ q; rw [e] at this; cases this; exact absurd rfl (n o))).trans e
  { c := fun a x e => (S.c a x (Map.sub_le.h _ _ e)).go l0 (fun o => hk a o (Map.sub_W e) (by rw [Map.sub_le.h _ _ e]; exact nofun)) fun zz zz => rfl
    i := fun a b j e1 e2 => S.i a b j (Map.sub_le.h _ _ e1) (Map.sub_le.h _ _ e2)
    g := fun i x e => hg i x (Map.sub_Wg e) (S.g i x (Map.sub_le.g _ _ e))
    x := ⟨fun a x e => (Map.sub_h (b.h a x e)).trans (S.x.h a x e), fun a x e => (Map.sub_g (b.g a x e)).trans (S.x.g a x e)⟩
    os := os.trans S.os
    bare := ba }
noncomputable def WG (own : List Addr) (g : Nat) (s : Shared) (gs : GenState) : Map := ⟨fun b => if b ∈ own then (s.heap.get? b).map .pin else none, fun i => if i = g then some gs else none⟩
variable {own own1 : List Addr} {g : Nat} {gs gs' : GenState} {s0 s1 : Shared} {a b t : Addr} {c : Cf}
private theorem WG_no (h : b ∉ own) : (WG own g s gs).h b = none := if_neg h
private theorem WG_is {x : Cel} (h : (WG own g s gs).h b = some x) : b ∈ own ∧ ∃ o, x = .pin o ∧ s.heap.get? b = some o := by
  by_cases e : b ∈ own
  · have h : (if b ∈ own then (s.heap.get? b).map Cel.pin else none) = some x := h
    rw [if_pos e] at h
    obtain ⟨o, h1, h2⟩ := Option.map_eq_some_iff.mp h
    exact ⟨e, o, h2.symm, h1⟩
  · rw [WG_no e] at h; cases h
private theorem WG_h (h : b ∈ own) {o : Obj} (e : s.heap.get? b = some o) : (WG own g s gs).h b = some (.pin o) := (if_pos h).trans (by rw [e]; rfl)
private theorem WG_g : (WG own g s gs).g g = some gs := if_pos rfl
private theorem WG_gn {i : Nat} (h : i ≠ g) : (WG own g s gs).g i = none := if_neg h
private theorem WG_gi {i : Nat} {x : GenState} (h : (WG own g s gs).g i = some x) : i = g ∧ x = gs := by
  by_cases e : i = g
  · subst e; rw [WG_g] at h; cases h; exact ⟨rfl, rfl⟩
  · rw [WG_gn e] at h; cases h
private theorem WG_pins (hg : s.gens[g]? = some gs) : PinsIn (WG own g s gs) s := ⟨fun zz zz e => (WG_is e).2, fun i x e => by obtain ⟨rfl, rfl⟩ := WG_gi e; exact hg⟩
private theorem genStep (S : Hp X c m) (w : (WG own g s0 gs).le c.M) (B : Apart X.B (WG own g s0 gs)) (hs : ∀ b o, b ∉ own → c.s.heap.get? b = some o → s1.heap.get? b = some o) (hg : ∀ i x, i ≠ g → c.s.gens[i]? = some x → s1.gens[i]? = some x) (os : s1.os = c.s.os) (ba : AllBare (s1.setGen g gs').gens) (gl : ∃ x, s1.gens[g]? = some x) {o : Obj} (ht : c.s.heap.get? t = none) (ht1 : s1.heap.get? t = some o) (h1 : ∀ b ∈ own1, b ∈ own ∨ c.s.heap.get? b = none) (hto : t ∉ own1) (ex : ∀ b ∈ own, ∃ o, s0.heap.get? b = some o) :
    ∃ M2, StepW X (WG own g s0 gs) c ⟨s1.setGen g gs', M2⟩ m ∧ M2.h t = some (.frz o) ∧ (WG own1 g (s1.setGen g gs') gs').le M2 ∧ NextW c.M (WG own g s0 gs) (WG own1 g (s1.setGen g gs') gs') := by
  have cn : ∀ b, c.s.heap.get? b = none → c.M.h b = none := fun b h => S.fresh h
  have own0 : ∀ b, b ∈ own → ∃ x, (WG own g s0 gs).h b = some x := fun b h => (ex b h).elim fun o e => ⟨_, WG_h h e⟩
  have S1 : Sep X (s1.setGen g gs') (c.M.sub (WG own g s0 gs)) m := S.subW (s' := s1.setGen g gs') w (fun a x e => (WG_is e).2.imp fun o h => h.1) B (fun b o n zz e => hs b o (fun h => (own0 b h).elim fun x q => by rw [n] at q; cases q) e)
    (fun i x n e => by
      have hi : i ≠ g := fun h => by rw [h, WG_g] at n; cases n
      rw [setGen_other hi]; exact hg i x hi e) os ba
  have st : (c.M.sub (WG own g s0 gs)).h t = none := by
    cases e : (c.M.sub (WG own g s0 gs)).h t with
    | none => rfl
    | some x => have := Map.sub_le.h _ _ e; rw [cn t ht] at this; cases this
  have S2 : Sep X (s1.setGen g gs') ((c.M.sub (WG own g s0 gs)).set t (.frz o)) m := S1.putNew (h' := s1.heap) (tk := s1.toks) (mem' := m) st (fun zz zz zz e => e) (fun zz zz zz zz => rfl) nofun (.frz ht1)
  have dis : ∀ b ∈ own1, (c.M.sub (WG own g s0 gs)).h b = none := fun b hb => (h1 b hb).elim (fun h => (by
    cases e : (c.M.sub (WG own g s0 gs)).h b with
    | none => rfl
    | some x => obtain ⟨y, q⟩ := own0 b h; rw [Map.sub_W e] at q; cases q)) fun h => (by
    cases e : (c.M.sub (WG own g s0 gs)).h b with
    | none => rfl
    | some x => have := Map.sub_le.h _ _ e; rw [cn b h] at this; cases this)
  have A2 : Apart ((c.M.sub (WG own g s0 gs)).set t (.frz o)) (WG own1 g (s1.setGen g gs') gs') := ⟨fun b x e => by
      by_cases hb : b ∈ own1
      · rw [Map.set_ne _ _ fun (q : b = t) => hto (q ▸ hb), dis b hb] at e; cases e
      · exact WG_no hb, fun i x e => WG_gn fun h => by
      have : (c.M.sub (WG own g s0 gs)).g i = some x := e
      have q := Map.sub_Wg this
      rw [h, WG_g] at q; cases q⟩
  have S3 := S2.plus A2 (WG_pins (gl.elim fun x q => setGen_self q))
  refine ⟨_, ⟨⟨fun b x n e => (Map.plus_M A2).h _ _ ((Map.set_ne _ _ fun q => by rw [q, cn t ht] at e; cases e).trans ((Map.sub_h n).trans e)), fun i x n e => (Map.plus_M A2).g _ _ ((Map.sub_g n).trans e)⟩, S3⟩, (Map.plus_M A2).h _ _ (Map.set_at _ _ _), Map.plus_W, fun b x e => (WG_is e).2.imp fun o h => h.1, fun b x e n => WG_no fun hb => ?_, fun i x e n => WG_gn fun h => by rw [h, WG_g] at n; cases n⟩
  rcases h1 b hb with h | h
  · obtain ⟨y, q⟩ := own0 b h; rw [n] at q; cases q
  · rw [cn b h] at e; cases e
end
end
section
open PySem PySem.W PyProof.Rows PySem.Calls PySem.SeqAt
section
variable {X : Amb} {D : Nat} {L a t : Addr} {g : Nat} {own : List Addr} {tr : Bool} {T : List (Nat × List Nat)} {M0 : Map} {tgt : Expr} {m : Mem} {c : Cf} {s0 s1 : Shared} {gs gs' : GenState} {itv : Value}
structure GenFix (X : Amb) (D : Nat) (a L : Addr) (g : Nat) (own : List Addr) : Prop where
  lim : NoLim X.B
  D : 12 ≤ D ∧ D ≤ 500
  na : a ∉ own
  hL : L ∈ own
  nB : ∀ b ∈ own, X.B.h b = none
  nBa : X.B.h a = none
  nBg : X.B.g g = none
private theorem GenFix.apart (V : GenFix X D a L g own) {ow : List Addr} (h : ∀ b ∈ ow, b = a ∨ b ∈ own) {s : Shared} : Apart X.B (WG ow g s gs) :=
  ⟨fun b x e => WG_no fun hb => (h b hb).elim (fun q => (by rw [q, V.nBa] at e; cases e)) fun q => (by rw [V.nB b q] at e; cases e), fun i x e => WG_gn fun q => (by rw [q, V.nBg] at e; cases e)⟩
private theorem genYield (V : GenFix X D a L g own) {ow : List Addr} (S : Hp X c m) (w : (WG ow g s0 gs).le c.M) (how : ∀ b ∈ ow, b = a ∨ b ∈ own) (haw : a ∈ ow) (ex : ∀ b ∈ ow, ∃ o, s0.heap.get? b = some o) (new : ∀ b ∈ own, b ∈ ow ∨ c.s.heap.get? b = none) (hg : c.s.heap.IsGen a g) (hgs : c.s.gens[g]? = some gs) {x : Nat × List Nat} {r : List (Nat × List Nat)} (hT : ∃ pre, T = pre ++ x :: r) {v : Value} {kap : Resume → Shared → Prop} (hb : gs'.bare = true) (Y : gProto X L own tr T r.length (c.s.setGen g .running) v s1 kap)
    (ih : (s1.setGen g gs').heap.IsGen a g → (∀ b ∈ a :: ownAt L own tr r.length, ∃ o, (s1.setGen g gs').heap.get? b = some o) → (∀ s'' : Shared, (∀ b ∈ a :: ownAt L own tr r.length, ∀ o, (s1.setGen g gs').heap.get? b = some o → s''.heap.get? b = some o) → Stands X s'' → kap (.send .none) s'') → Feeds X D tgt (.ref a) M0 (r.map pairAV) (WG (a :: ownAt L own tr r.length) g (s1.setGen g gs') gs'))
    {Q : Option Value → Shared → Prop} (q : ∀ (v : Value) (d : Cf), (∀ (A2 : Around) (Q2 : Unit → Shared → Prop) (E2 : Value → Shared → Prop), Room A2 D → (∀ d2 W2, StepW X (WG ow g s0 gs) c d2 m → Rep d2.M (pairAV x) v → W2.le d2.M → NextW c.M (WG ow g s0 gs) W2 → Feeds X D tgt (.ref a) M0 (r.map pairAV) W2 → Q2 () d2.s) → wpAny (model X.prog X.w) A2 (letOwnedTupleGo tgt (.ref a) v) Q2 E2 d.s) → Q (some v) d.s) : Q (some v) (s1.setGen g gs') := by
  obtain ⟨⟨y, t, n, tk1, tk2, hy, rfl, ht0, hto, ht1⟩, hs, hex, hkap⟩ := Y
  have hyx : y = x := by obtain ⟨pre, rfl⟩ := hT; rw [rev_at] at hy; exact (Option.some.inj hy).symm
  subst hyx
  obtain ⟨oa, nm, qn, hoa, hra⟩ := id hg
  have hoa1 : s1.heap.get? a = some oa := hs.h a oa V.na hoa
  have ht0 : c.s.heap.get? t = none := ht0
  have hat : t ≠ a := fun h => by rw [h, hoa] at ht0; cases ht0
  obtain ⟨M2, h1, h2, h3, h4⟩ := genStep (gs' := gs') (own1 := a :: ownAt L own tr r.length) S w (V.apart how) (fun b o n e => hs.h b o (fun h => (new b h).elim n fun q => by rw [q] at e; cases e) e) (fun i x hi e => hs.g i x (by rw [setGen_other hi]; exact e)) hs.os (AllBare.setGen hs.bare hb) ⟨_, hs.g _ _ (setGen_self hgs)⟩ ht0 ht1 (fun b hb => (List.mem_cons.mp hb).elim (fun h => .inl (h ▸ haw)) fun h => new b (ownAt_sub V.hL h)) (fun h => (List.mem_cons.mp h).elim hat fun h => hto (ownAt_sub V.hL h)) ex
  have isg : (s1.setGen g gs').heap.IsGen a g := ⟨oa, nm, qn, hoa1, hra⟩
  exact q (.ref t) ⟨s1.setGen g gs', M2⟩ fun A2 Q2 E2 zz q2 => letOwned_no (s := s1.setGen g gs') (o := oa) hoa1 hra.1 (by decide) (q2 ⟨s1.setGen g gs', M2⟩ _ h1 (.tupOf h2 (.cons (.int _ _) (.one (.str _ _)))) h3 h4 (ih isg (fun b hb => (List.mem_cons.mp hb).elim (fun h => h ▸ ⟨_, hoa1⟩) (hex b)) fun s'' h => hkap s'' fun b hb => h b (List.mem_cons_of_mem _ hb)))
private theorem feedsGen (V : GenFix X D a L g own) :
    ∀ (r : List (Nat × List Nat)) (s0 : Shared) (gs : GenState), (∃ pre, T = pre ++ r) → s0.heap.IsGen a g → (∀ b ∈ a :: ownAt L own tr r.length, ∃ o, s0.heap.get? b = some o) →
      (∀ s'' : Shared, (∀ b ∈ a :: ownAt L own tr r.length, ∀ o, s0.heap.get? b = some o → s''.heap.get? b = some o) → Stands X s'' → gs.Goes (model X.prog X.w) (star D).in1 (gEnd L own tr) (gProto X L own tr T) r.length (.send .none) s'') →
      Feeds X D tgt (.ref a) M0 (r.map pairAV) (WG (a :: ownAt L own tr r.length) g s0 gs) := by
  intro r
  have start : ∀ {n : Nat} {s0 : Shared} {gs : GenState} {c : Cf} {m : Mem}, s0.heap.IsGen a g → (∀ b ∈ a :: ownAt L own tr n, ∃ o, s0.heap.get? b = some o) → Hp X c m → (WG (a :: ownAt L own tr n) g s0 gs).le c.M →
      c.s.heap.IsGen a g ∧ c.s.gens[g]? = some gs ∧ (∀ b ∈ a :: ownAt L own tr n, ∀ o, s0.heap.get? b = some o → (c.s.setGen g .running).heap.get? b = some o) ∧ Stands X (c.s.setGen g .running) := fun {n s0 gs c m} hg he S w =>
    have k : ∀ b ∈ a :: ownAt L own tr n, ∀ o, s0.heap.get? b = some o → c.s.heap.get? b = some o := fun b hb o e => S.pin (w.h _ _ (WG_h hb e))
    ⟨hg.imp fun o h => h.imp fun nm h => h.imp fun qn h => ⟨k a List.mem_cons_self o h.1, h.2⟩, S.g _ _ (w.g _ _ WG_g), k, fun b o e => S.frz (S.x.h b _ e), AllBare.setGen S.bare rfl⟩
  induction r with
  | nil =>
    intro s0 gs hT hg he hgo A c m Q E R _ S w q
    obtain ⟨h1, h2, h3, h4⟩ := start hg he S w
    have B := V.apart (s := s0) (gs := gs) fun b (hb : b ∈ a :: ownAt L own tr 0) => (List.mem_cons.mp hb).imp id (ownAt_sub V.hL)
    refine wpAny_star R (pyNext_genQ (A := star D) (P := fun n s₀ s₁ => n = 0 ∧ Since (ownAt L own tr 0) s₀ s₁) rfl (V.lim.lim S) (by show 999 - D < 1000; have := V.D; (clear this; omega)) h1 h2 (hgo _ h3 h4) (fun v s₁ gs' zz hY => ?_) (fun s₁ hP h' hk => ?_))
    · obtain ⟨_, hs, _, hkap⟩ := hY
      exact (hkap s₁ (fun zz zz zz e => e) ⟨fun b o e => hs.h b o (fun h => by rw [V.nB b h] at e; cases e) (h4.g b o e), hs.bare⟩).elim
    · refine q ⟨{ s₁.setGen g .finished with heap := h' }, c.M.sub _⟩ ⟨⟨fun b x n e => (Map.sub_h n).trans e, fun i x n e => (Map.sub_g n).trans e⟩, S.subW w (fun b x e => (WG_is e).2.imp fun o h => h.1) B (fun b o n zz e => hk b o (hP.2.h b o (fun hb => ?_) e)) (fun i x n e => ?_) hP.2.os (AllBare.setGen hP.2.bare rfl)⟩
      · obtain ⟨o', e'⟩ := he b (List.mem_cons_of_mem _ hb)
        exact nomatch (WG_h (gs := gs) (g := g) (show b ∈ a :: ownAt L own tr ([] : List (Nat × List Nat)).length from List.mem_cons_of_mem _ hb) e').symm.trans n
      · have hi : i ≠ g := fun h => by rw [h] at n; exact Option.some_ne_none _ (WG_g.symm.trans n)
        show (s₁.setGen g .finished).gens[i]? = some x
        rw [setGen_other hi]
        exact hP.2.g i x (by rw [setGen_other hi]; exact e)
  | cons x r ih =>
    intro s0 gs hT hg he hgo A c m Q E R _ S w q
    obtain ⟨h1, h2, h3, h4⟩ := start hg he S w
    have ownN : ownAt L own tr (x :: r).length = own := by unfold ownAt; rw [show ((x :: r).length == 0) = false from rfl, Bool.and_false]; rfl
    refine wpAny_star R (pyNext_genQ (A := star D) (P := fun n s₀ s₁ => n = 0 ∧ Since (ownAt L own tr 0) s₀ s₁) rfl (V.lim.lim S) (by show 999 - D < 1000; have := V.D; (clear this; omega)) h1 h2 (hgo _ h3 h4) (fun v s₁ gs' hb hY => ?_) (fun s₁ hP => absurd hP.1 (Nat.succ_ne_zero _)))
    exact genYield V S w (fun b hb => (List.mem_cons.mp hb).imp id (ownAt_sub V.hL)) List.mem_cons_self he (fun b hb => .inl (List.mem_cons_of_mem _ (ownN.symm ▸ hb))) h1 h2 hT hb hY (fun hg' he' hk => ih _ gs' (hT.elim fun pre h => ⟨pre ++ [x], by rw [h, List.append_assoc]; rfl⟩) hg' he' hk) q
end
end
section
open PySem PySem.W PyProof.Rows PySem.Calls PySem.SeqAt
section
variable {X : Amb} {D : Nat} {L a : Addr} {g : Nat} {M0 : Map} {tgt : Expr} {l : List Nat} {env : Env}
private theorem feedsFirst {s0 : Shared} {m0 : Str → Option Value} {t : Tok} (V : GEnv X env escN L) (co : env.scope.isCoroutine = false) (hl : ∀ c ∈ l, c < 0x110000) (gen : Glo X.B "enumerate" (.type "enumerate")) (lim : NoLim X.B) (hD : 12 ≤ D ∧ D ≤ 500) (hn : s0.heap.Ns L m0) (ha : m0 "addr" = some (.str ⟨l.toArray⟩ t)) (hg : s0.heap.IsGen a g) (haL : a ≠ L) (nBa : X.B.h a = none) (nBg : X.B.g g = none) :
    Feeds X D tgt (.ref a) M0 ((esc 0 false l).map pairAV) (WG [a, L] g s0 (.fresh (.func escF.body env))) := by
  have R10 : Room (star D).in1 10 := ⟨rfl, Nat.lt_of_le_of_lt (Nat.add_le_add_right (Nat.sub_le_sub_left hD.1 999) 10) (by decide), Nat.lt_of_le_of_lt (Nat.add_le_add_right (Nat.add_le_add_right (Nat.add_le_add_right (Nat.sub_le_sub_left (Nat.mul_le_mul_left 16 hD.1) 9883) 1) (16 * 10)) 16) (by decide)⟩
  have nBL := V.gL
  have how : ∀ b ∈ [a, L], b = a ∨ b = L := fun b hb => (List.mem_cons.mp hb).imp id List.mem_singleton.mp
  have B : Apart X.B (WG [a, L] g s0 (.fresh (.func escF.body env))) := ⟨fun b x e => WG_no fun hb => (how b hb).elim (fun q => (by rw [q, nBa] at e; cases e)) fun q => (by rw [q, nBL] at e; cases e), fun i x e => WG_gn fun q => (by rw [q, nBg] at e; cases e)⟩
  have ex : ∀ b ∈ [a, L], ∃ o, s0.heap.get? b = some o := fun b hb => (how b hb).elim (fun h => h ▸ hg.imp fun o h => h.elim fun zz h => h.elim fun zz h => h.1) fun h => h ▸ hn.imp fun o h => h.elim fun zz h => h.elim fun zz h => h.1
  have start : ∀ {c : Cf} {m : Mem}, Hp X c m → (WG [a, L] g s0 (.fresh (.func escF.body env))).le c.M → c.s.heap.IsGen a g ∧ c.s.gens[g]? = some (.fresh (.func escF.body env)) ∧ (∃ o, c.s.heap.get? L = some o) ∧
      (GenState.fresh (.func escF.body env)).Goes (model X.prog X.w) (star D).in1 (gEnd L [L, c.s.heap.objs.size + 1, c.s.heap.objs.size] (fin false l)) (gProto X L [L, c.s.heap.objs.size + 1, c.s.heap.objs.size] (fin false l) (esc 0 false l)) (esc 0 false l).length (.send .none) (c.s.setGen g .running) := fun {c m} S w =>
    have k : ∀ b ∈ [a, L], ∀ o, s0.heap.get? b = some o → c.s.heap.get? b = some o := fun b hb o e => S.pin (w.h _ _ (WG_h hb e))
    have hL := List.mem_cons_of_mem a (List.mem_cons_self (a := L) (l := []))
    ⟨hg.imp fun o h => h.imp fun nm h => h.imp fun qn h => ⟨k a List.mem_cons_self o h.1, h.2⟩, S.g _ _ (w.g _ _ WG_g), (ex L hL).imp (k L hL),
      rfl, genFirst V co hl gen R10 (s := c.s.setGen g .running) (hn.imp fun o h => h.imp fun es h => h.imp fun ep h => ⟨k L hL o h.1, h.2⟩) ha ⟨fun b o e => S.frz (S.x.h b _ e), AllBare.setGen S.bare rfl⟩ rfl rfl⟩
  have big : ∀ (s : Shared) (b : Addr), s.heap.objs.size ≤ b → s.heap.get? b = none := fun s b h => by
    cases e : s.heap.get? b with
    | none => rfl
    | some o => exact absurd (Heap.lt_size e) (Nat.not_lt.mpr h)
  have fresh : ∀ (s : Shared), ∀ b ∈ [L, s.heap.objs.size + 1, s.heap.objs.size], b = L ∨ s.heap.get? b = none := fun s b hb => (List.mem_cons.mp hb).imp id fun hb => (List.mem_cons.mp hb).elim (fun h => big s b (by rw [h]; exact Nat.le_succ _)) fun h => big s b (by rw [List.mem_singleton.mp h]; exact Nat.le_refl _)
  cases hT : esc 0 false l with
  | nil =>
    intro A c m Q E R _ S w q
    obtain ⟨h1, h2, h3, hgo⟩ := start S w
    rw [hT] at hgo
    refine wpAny_star R (pyNext_genQ (A := star D) (n := 0) (P := fun n s₀ s₁ => n = 0 ∧ Since (ownAt L [L, c.s.heap.objs.size + 1, c.s.heap.objs.size] (fin false l) 0) s₀ s₁) rfl (lim.lim S) (by show 999 - D < 1000; (clear hD; omega)) h1 h2 hgo (fun v s₁ gs' zz hY => ?_) (fun s₁ hP h' hk => ?_))
    · obtain ⟨⟨_, _, _, _, _, hx, _⟩, _⟩ := hY; cases hx
    · refine q ⟨{ s₁.setGen g .finished with heap := h' }, c.M.sub _⟩ ⟨⟨fun b x n e => (Map.sub_h n).trans e, fun i x n e => (Map.sub_g n).trans e⟩, S.subW w (fun b x e => (WG_is e).2.imp fun o h => h.1) B (fun b o n zz e => hk b o (hP.2.h b o (fun hb => ?_) e)) (fun i x n e => ?_) hP.2.os (AllBare.setGen hP.2.bare rfl)⟩
      · rcases fresh c.s b (ownAt_sub List.mem_cons_self hb) with h | h
        · obtain ⟨o', e'⟩ := ex L (List.mem_cons_of_mem _ List.mem_cons_self)
          rw [h, WG_h (List.mem_cons_of_mem _ List.mem_cons_self) e'] at n; cases n
        · rw [h] at e; cases e
      · have hi : i ≠ g := fun h => by rw [h, WG_g] at n; cases n
        show (s₁.setGen g .finished).gens[i]? = some x
        rw [setGen_other hi]
        exact hP.2.g i x (by rw [setGen_other hi]; exact e)
  | cons x r =>
    intro A c m Q E R _ S w q
    obtain ⟨h1, h2, ⟨oL, hoL⟩, hgo⟩ := start S w
    rw [hT] at hgo
    have ha : ∃ o, c.s.heap.get? a = some o := h1.imp fun o h => h.elim fun zz h => h.elim fun zz h => h.1
    have V2 : GenFix X D a L g [L, c.s.heap.objs.size + 1, c.s.heap.objs.size] := ⟨lim, hD, fun h => (fresh c.s a h).elim haL fun e => ha.elim fun o q => (by rw [e] at q; cases q), List.mem_cons_self, fun b hb => (fresh c.s b hb).elim (fun h => h ▸ nBL) fun h => (by
      cases e : X.B.h b with
      | none => rfl
      | some y => have := S.x.h _ _ e; rw [S.fresh h] at this; cases this), nBa, nBg⟩
    refine wpAny_star R (pyNext_genQ (A := star D) (P := fun n s₀ s₁ => n = 0 ∧ Since (ownAt L [L, c.s.heap.objs.size + 1, c.s.heap.objs.size] (fin false l) 0) s₀ s₁) rfl (lim.lim S) (by show 999 - D < 1000; (clear hD; omega)) h1 h2 hgo (fun v s₁ gs' hb hY => ?_) (fun s₁ hP => absurd hP.1 (Nat.succ_ne_zero _)))
    exact genYield V2 S w (fun b hb => (how b hb).imp id fun (h : b = L) => h ▸ List.mem_cons_self) List.mem_cons_self ex (fun b hb => (fresh c.s b hb).imp (fun (h : b = L) => h ▸ List.mem_cons_of_mem _ List.mem_cons_self) id) h1 h2 ⟨[], rfl⟩ hb hY (fun hg' he' hk => feedsGen V2 r _ gs' ⟨[x], rfl⟩ hg' he' hk) q
end
end
section
open PySem PySem.W PyProof.Rows PySem.Calls PySem.SeqAt
section
variable {X : Amb} {D : Nat} {sc : Names} {L : Lc} {m m1 : Mem} {tgt : Expr} {l : List Nat}
private theorem Sep.ext {s s' : Shared} {M : Map} (S : Sep X s M m) (hk : ∀ b o, s.heap.get? b = some o → s'.heap.get? b = some o) (hg : ∀ (i : Nat) (x : GenState), s.gens[i]? = some x → s'.gens[i]? = some x) (os : s'.os = s.os) (ba : AllBare s'.gens) : Sep X s' M m :=
  { S with c := fun a x e => (S.c a x e).go (Map.le.rf M).l0 (hk a) fun zz zz => rfl, g := fun i x e => hg i x (S.g i x e), os := os.trans S.os, bare := ba }
private theorem PI.esc {fa : Addr} {p pos : Pos} {es : List Expr} (hF : FnG X escF fa) (lim : NoLim X.B) (gen : Glo X.B "enumerate" (.type "enumerate")) (hD : 12 ≤ D ∧ D ≤ 500) (hx : sc.lookup escF.name = some .globalImplicit) (hes : PA X D sc es L m [.str l] m1) (hl : ∀ c ∈ l, c < 0x110000) :
    PI X D sc tgt (.Call (.Name escF.name p) es [] pos) L m ((esc 0 false l).map pairAV) m1 := fun env A c T Q E k => by
  obtain ⟨o, doc, pm, cd, ct, hf⟩ := hF.f
  refine (wpAny_bind (globGo T hx hF.g (callWith_function (o := o) ((hes.p env pos).2 _ _ _ _ _ _ (hes.v pos env A c T _ _ fun vs d1 g => ⟨⟨g.h.base hf.m, hf.data⟩, ?_⟩)))) : wpAny (model X.prog X.w) A (do callWith pos (← eval (.Name escF.name p) env) [] (backTo pos (starEach es env)) (backToKw pos (keywordEach [] env))) _ _ c.s)
  cases g.r.i_cons with
  | mk r1 r2 =>
    cases r2.i_nil
    obtain ⟨t, rfl⟩ := r1.i_str
    obtain ⟨s1, M1⟩ := d1
    have S1 : Sep X s1 M1 m1 := g.h
    have l1 : c.M.le M1 := g.l
    dsimp only
    refine wpAny_call (codeAny_call_generator (body := escF.body) (by have := T.R.2.1; (clear hD; lia)) (S1.base hf.m) hf.data rfl rfl rfl (hf.code.go (s := s1) S1) ?_)
    show wpAny _ _ (pure [(("addr" : Str), Value.str ⟨l.toArray⟩ t)]) _ _ s1
    have ncell : ∀ y ∈ escN, y.2 ≠ .cell := fun y hy h => by
      have := List.all_eq_true.mp (show (escN.all fun p => p.2 != .cell) = true from rfl) y hy
      rw [h] at this; cases this
    refine wpAny_pure (wpAny_newFunctionEnv ncell (fun y hy => by cases List.mem_singleton.mp hy; rfl) (fun h' hns hsb => ?_) rfl)
    have keep : ∀ a o, s1.heap.get? a = some o → h'.get? a = some o := fun a o e => hsb.extBut a o (Nat.ne_of_lt (Heap.lt_size e)) (Heap.get?_push_of_some _ e)
    refine ⟨(lim.lim S1).keeps keep, ?_⟩
    have hsz : h'.objs.size = s1.heap.objs.size + 1 := by rw [hsb.1]; exact Heap.size_push ..
    have hLlt : s1.heap.objs.size < h'.objs.size := by rw [hsz]; exact Nat.lt_succ_self _
    show wpAny _ A (pyIter (.ref h'.objs.size)) Q E _
    generalize hgo : ({ cls := .type "generator", data := .fields #[.int s1.gens.size 0, .str escF.name (s1.toks + 1), .str escF.name (s1.toks + 1 + 1)] } : Obj) = gobj
    have hgobj : (h'.push gobj).get? h'.objs.size = some gobj := Heap.get?_push_size _ (by rw [← hgo]; rfl)
    have hisgen : (h'.push gobj).IsGen h'.objs.size s1.gens.size := ⟨gobj, _, _, hgobj, by rw [← hgo], by rw [← hgo], by rw [← hgo]⟩
    generalize henv : newEnv escF.scope s1.heap.objs.size mainGlobals [] (escF.name ++ ".<locals>.") (some fa) cd none builtinsNs = env'
    show wpAny (model X.prog X.w) A (pyIter (.ref h'.objs.size)) Q E { s1 with heap := h'.push gobj, gens := s1.gens.push (.fresh (.func escF.body env')), toks := s1.toks + 1 + 1 + 1 }
    have S3 : Sep X { s1 with heap := h'.push gobj, gens := s1.gens.push (.fresh (.func escF.body env')), toks := s1.toks + 1 + 1 + 1 } M1 m1 := S1.ext (fun b o e => Heap.get?_push_of_some _ (keep b o e)) (fun i y e => by
      rw [Array.getElem?_push, if_neg (Nat.ne_of_lt (Array.getElem?_eq_some_iff.mp e).1)]; exact e) rfl (S1.bare.push rfl)
    generalize hs3 : ({ s1 with heap := h'.push gobj, gens := s1.gens.push (.fresh (.func escF.body env')), toks := s1.toks + 1 + 1 + 1 } : Shared) = s3 at S3
    have eh : s3.heap = h'.push gobj := by rw [← hs3]
    have eg : s3.gens[s1.gens.size]? = some (.fresh (.func escF.body env')) := by rw [← hs3]; exact Array.getElem?_push_size
    have hNs : s3.heap.Ns s1.heap.objs.size (fun x => ([(("addr" : Str), Value.str ⟨l.toArray⟩ t)] : List (Str × Value)).reverse.lookup x) := eh ▸ hns.push gobj
    have hig : s3.heap.IsGen h'.objs.size s1.gens.size := eh ▸ hisgen
    have gn : M1.g s1.gens.size = none := by
      cases e : M1.g s1.gens.size with
      | none => rfl
      | some x => have := S1.g _ _ e; rw [Array.getElem?_eq_none (Nat.le_refl _)] at this; cases this
    have dn : ∀ b ∈ [h'.objs.size, s1.heap.objs.size], M1.h b = none := fun b hb => S1.fresh (by
      cases e : s1.heap.get? b with
      | none => rfl
      | some q =>
        refine absurd (Heap.lt_size e) (Nat.not_lt.mpr ?_)
        rcases List.mem_cons.mp hb with h | h
        · rw [h]; exact Nat.le_of_lt hLlt
        · rw [List.mem_singleton.mp h]; exact Nat.le_refl _)
    have Bn : ∀ b ∈ [h'.objs.size, s1.heap.objs.size], X.B.h b = none := fun b hb => by
      cases e : X.B.h b with
      | none => rfl
      | some x => have := S1.x.h _ _ e; rw [dn b hb] at this; cases this
    have Bg : X.B.g s1.gens.size = none := by
      cases e : X.B.g s1.gens.size with
      | none => rfl
      | some x => have := S1.x.g _ _ e; rw [gn] at this; cases this
    have AP : Apart M1 (WG [h'.objs.size, s1.heap.objs.size] s1.gens.size s3 (.fresh (.func escF.body env'))) := ⟨fun b x e => WG_no fun hb => (by rw [dn b hb] at e; cases e), fun i x e => WG_gn fun h => (by rw [h, gn] at e; cases e)⟩
    have le := Map.plus_M AP
    have V : GEnv X env' escN s1.heap.objs.size := henv ▸ ⟨rfl, rfl, rfl, rfl, rfl, rfl, rfl, rfl, Bn _ (List.mem_cons_of_mem _ List.mem_cons_self), fun y h => ncell _ (mem_of_lookup h) rfl⟩
    refine wpAny_pyIter_gen hig (k _ ⟨s3, _⟩ _ { l := l1.tr le, h := S3.plus AP (WG_pins eg), w := Map.plus_W, p := ⟨fun a x e => (WG_is e).2.imp fun o h => h.1, fun a x e => AP.h a x (l1.h _ _ e), fun i x e => AP.g i x (l1.g _ _ e)⟩, f := feedsFirst V (henv ▸ rfl) hl gen lim hD hNs rfl hig (Nat.ne_of_gt hLlt) (Bn _ List.mem_cons_self) Bg, self := fun A2 e2 m2 Q2 E2 w2 S2 hq => ?_ })
    exact wpAny_pyIter_gen (g := s1.gens.size) ⟨gobj, _, _, S2.pin (w2.h _ _ (WG_h List.mem_cons_self (eh ▸ hgobj))), by rw [← hgo], by rw [← hgo], by rw [← hgo]⟩ hq
end
end
section
open PySem PySem.W PyProof.Rows PySem.Calls PySem.SeqAt
private theorem and_high (x s : Nat) : x &&& (x / 2 ^ s * 2 ^ s) = x / 2 ^ s * 2 ^ s := by
  have h : x / 2 ^ s * 2 ^ s = (x >>> s) <<< s := by rw [Nat.shiftRight_eq_div_pow, Nat.shiftLeft_eq]
  rw [h]
  refine Nat.eq_of_testBit_eq fun i => ?_
  rw [Nat.testBit_and, Nat.testBit_shiftLeft, Nat.testBit_shiftRight]
  by_cases hi : s ≤ i
  · have : s + (i - s) = i := by lia
    simp [hi, this]
  · simp [hi]
private theorem xor_low (x s : Nat) : Builtin.bitXor (x : Int) ((x / 2 ^ s * 2 ^ s : Nat) : Int) = ((x % 2 ^ s : Nat) : Int) := by
  rw [bitXor_and]
  have h1 : Builtin.bitAnd (x : Int) ((x / 2 ^ s * 2 ^ s : Nat) : Int) = ((x &&& (x / 2 ^ s * 2 ^ s) : Nat) : Int) := by
    unfold Builtin.bitAnd
    have a : decide ((0 : Int) ≤ x) = true := by simp
    have b : decide ((0 : Int) ≤ ((x / 2 ^ s * 2 ^ s : Nat) : Int)) = true := decide_eq_true (Int.natCast_nonneg _)
    rw [a, b]; rfl
  rw [h1, and_high]
  have h2 := Nat.div_add_mod x (2 ^ s)
  rw [Nat.mul_comm] at h2
  lia
noncomputable def digsF (n : Nat) : Nat → Nat → List Nat
  | 0, _ => []
  | c + 1, x => (x % 2 ^ n) :: digsF n c (x / 2 ^ n)
private theorem digs_len (n : Nat) : ∀ c x, (digsF n c x).length = c
  | 0, _ => rfl
  | c + 1, x => by simp [digsF, digs_len n c]
private theorem digs_split (n : Nat) : ∀ a b x, digsF n (a + b) x = digsF n a (x % 2 ^ (n * a)) ++ digsF n b (x / 2 ^ (n * a))
  | 0, b, x => by simp [digsF]
  | a + 1, b, x => by
    rw [show a + 1 + b = (a + b) + 1 by lia]
    simp only [digsF]
    have hp : 2 ^ (n * (a + 1)) = 2 ^ n * 2 ^ (n * a) := by rw [Nat.mul_succ, Nat.add_comm, Nat.pow_add]
    rw [digs_split n a b (x / 2 ^ n), List.cons_append, hp, Nat.mod_mul_right_mod, Nat.mod_mul_right_div_self, Nat.div_div_eq_div_mul]
private theorem digs_one {n x : Nat} (h : x < 2 ^ n) : digsF n 1 x = [x] := by simp [digsF, Nat.mod_eq_of_lt h]
noncomputable def ofDigs (n : Nat) : List Nat → Nat
  | [] => 0
  | d :: r => d + 2 ^ n * ofDigs n r
private theorem ofDigs_app (n : Nat) : ∀ a b, ofDigs n (a ++ b) = ofDigs n a + 2 ^ (n * a.length) * ofDigs n b
  | [], b => by simp [ofDigs]
  | d :: r, b => by
    simp only [List.cons_append, ofDigs, ofDigs_app n r b, List.length_cons]
    have hp : 2 ^ (n * (r.length + 1)) = 2 ^ n * 2 ^ (n * r.length) := by rw [Nat.mul_succ, Nat.add_comm, Nat.pow_add]
    rw [hp, Nat.mul_add, Nat.mul_assoc, Nat.add_assoc]
private theorem ofDigs_digs (n : Nat) : ∀ c x, ofDigs n (digsF n c x) = x % 2 ^ (n * c)
  | 0, x => by simp [digsF, ofDigs, Nat.mod_one]
  | c + 1, x => by
    simp only [digsF, ofDigs, ofDigs_digs n c]
    have hp : 2 ^ (n * (c + 1)) = 2 ^ n * 2 ^ (n * c) := by rw [Nat.mul_succ, Nat.add_comm, Nat.pow_add]
    rw [hp, Nat.mod_mul]
private theorem digs_lt (n : Nat) : ∀ c x, ∀ d ∈ digsF n c x, d < 2 ^ n
  | 0, _ => by simp [digsF]
  | c + 1, x => by
    intro d hd
    simp only [digsF, List.mem_cons] at hd
    rcases hd with rfl | hd
    · exact Nat.mod_lt _ (Nat.two_pow_pos n)
    · exact digs_lt n c _ d hd
private theorem ofDigs_lt (n : Nat) : ∀ ds : List Nat, (∀ d ∈ ds, d < 2 ^ n) → ofDigs n ds < 2 ^ (n * ds.length)
  | [], _ => by simp [ofDigs]
  | d :: r, h => by
    have h1 := ofDigs_lt n r fun x hx => h x (List.mem_cons_of_mem _ hx)
    have h2 := h d List.mem_cons_self
    have hp : 2 ^ (n * (r.length + 1)) = 2 ^ n * 2 ^ (n * r.length) := by rw [Nat.mul_succ, Nat.add_comm, Nat.pow_add]
    simp only [ofDigs, List.length_cons, hp]
    calc d + 2 ^ n * ofDigs n r < 2 ^ n + 2 ^ n * ofDigs n r := by lia
      _ = 2 ^ n * (ofDigs n r + 1) := by rw [Nat.mul_succ, Nat.add_comm]
      _ ≤ 2 ^ n * 2 ^ (n * r.length) := Nat.mul_le_mul_left _ h1
end
section
open PySem PySem.W PyProof.Rows PySem.Calls PySem.SeqAt
private theorem esc_ok : ∀ (l : List Nat) (i : Nat) (b : Bool), okS l → ∀ x ∈ esc i b l, okS x.2
  | [], i, true, h, x, hx => by simp [esc] at hx; subst hx; intro c hc; simp at hc; lia
  | [], i, false, h, x, hx => by simp [esc] at hx
  | c :: r, i, true, h, x, hx => by
    simp only [esc, List.mem_cons] at hx
    rcases hx with rfl | hx
    · intro d hd; simp at hd; rcases hd with rfl | rfl
      · lia
      · exact h _ List.mem_cons_self
    · exact esc_ok r (i + 1) false (fun d hd => h d (List.mem_cons_of_mem _ hd)) x hx
  | c :: r, i, false, h, x, hx => by
    unfold esc at hx
    split at hx
    · exact esc_ok r (i + 1) true (fun d hd => h d (List.mem_cons_of_mem _ hd)) x hx
    · simp only [List.mem_cons] at hx
      rcases hx with rfl | hx
      · intro d hd; simp at hd; subst hd; exact h _ List.mem_cons_self
      · exact esc_ok r (i + 1) false (fun d hd => h d (List.mem_cons_of_mem _ hd)) x hx
private theorem esc_length : ∀ (l : List Nat) (i : Nat) (b : Bool), (esc i b l).length ≤ l.length + 1
  | [], i, true => by simp [esc]
  | [], i, false => by simp [esc]
  | c :: r, i, true => by have := esc_length r (i + 1) false; simp [esc]; exact this
  | c :: r, i, false => by
    unfold esc
    split
    · have := esc_length r (i + 1) true; simp; exact Nat.le_succ_of_le this
    · have := esc_length r (i + 1) false; simp; exact this
private theorem foldl_take_succ {α β : Type} (f : β → α → β) (b : β) {l : List α} {k : Nat} {x : α} (h : l[k]? = some x) : (l.take (k + 1)).foldl f b = f ((l.take k).foldl f b) x := by
  rw [List.take_add_one, h, List.foldl_append]; rfl
noncomputable def stripStep (l : List Nat) (st : Nat × Option Nat × List (List Nat)) (x : Nat × List Nat) : Nat × Option Nat × List (List Nat) :=
  if x.2 = [34] then (match st.2.1 with
    | none => (st.1, some x.1, st.2.2)
    | some o => (x.1 + 1, none, if st.1 = o then st.2.2 else st.2.2 ++ [sl (some (st.1 : Int)) (some (o : Int)) l])) else st
noncomputable def stripAt (l : List Nat) (k : Nat) : Nat × Option Nat × List (List Nat) := ((esc 0 false l).take k).foldl (stripStep l) (0, none, [])
noncomputable def stripF (l : List Nat) : List Nat :=
  if 34 ∈ l then
    (let st := stripAt l (esc 0 false l).length
     if st.1 < l.length then st.2.2 ++ [sl (some (st.1 : Int)) none l] else st.2.2).flatten
  else l
noncomputable def openStep (o : Option Int) (x : Nat × List Nat) : Option Int := match o with
  | none => none
  | some n => if x.2 = [40] then some (n + 1) else if x.2 = [41] then (if n - 1 < 0 then none else some (n - 1)) else some n
noncomputable def checkF (l : List Nat) : Bool := match (esc 0 false (stripF l)).foldl openStep (some 0) with
  | some n => decide (n = 0)
  | none => false
private theorem stripAt_succ {l : List Nat} {k : Nat} {x : Nat × List Nat} (h : (esc 0 false l)[k]? = some x) : stripAt l (k + 1) = stripStep l (stripAt l k) x := foldl_take_succ _ _ h
private theorem stripAt_sum {l : List Nat} : ∀ k, k ≤ (esc 0 false l).length → (stripAt l k).2.2.length ≤ k ∧ ((stripAt l k).2.2.map List.length).sum ≤ k * l.length
  | 0, _ => by simp [stripAt]
  | k + 1, hk => by
    have ih := stripAt_sum (l := l) k (Nat.le_of_lt hk)
    rw [stripAt_succ (List.getElem?_eq_getElem (show k < _ from hk)), Nat.succ_mul]
    unfold stripStep
    split
    · split
      · exact ⟨by simp; exact Nat.le_succ_of_le ih.1, by simp; lia⟩
      · split
        · exact ⟨by simp; lia, by simp; lia⟩
        · rename_i o _ _
          have := sl_len (l := some ((stripAt l k).1 : Int)) (u := some (o : Int)) l
          exact ⟨by simp; exact ih.1, by simp; lia⟩
    · exact ⟨by lia, by lia⟩
private theorem sl_mem {α : Type} {lo hi : Option Int} {l : List α} {x : α} (h : x ∈ sl lo hi l) : x ∈ l := List.mem_of_mem_take (List.mem_of_mem_drop h)
private theorem okS_sl {lo hi : Option Int} {l : List Nat} (h : okS l) : okS (sl lo hi l) := fun c hc => h c (sl_mem hc)
private theorem okS_stripAt {l : List Nat} (h : okS l) : ∀ k, k ≤ (esc 0 false l).length → ∀ y ∈ (stripAt l k).2.2, okS y
  | 0, _ => by simp [stripAt]
  | k + 1, hk => by
    have ih := okS_stripAt h k (Nat.le_of_lt hk)
    rw [stripAt_succ (List.getElem?_eq_getElem (show k < _ from hk))]
    unfold stripStep
    split
    · split
      · exact ih
      · split
        · exact ih
        · intro y hy
          rcases List.mem_append.mp hy with hy | hy
          · exact ih y hy
          · simp at hy; subst hy; exact okS_sl h
    · exact ih
private theorem okS_strip {l : List Nat} (h : okS l) : okS (stripF l) := by
  unfold stripF
  split
  · intro c hc
    obtain ⟨y, hy, hcy⟩ := List.mem_flatten.mp hc
    dsimp only at hy
    split at hy
    · rcases List.mem_append.mp hy with hy | hy
      · exact okS_stripAt h _ (Nat.le_refl _) y hy c hcy
      · simp at hy; subst hy; exact okS_sl h c hcy
    · exact okS_stripAt h _ (Nat.le_refl _) y hy c hcy
  · exact h
noncomputable def openAt (l : List Nat) (k : Nat) : Option Int := ((esc 0 false l).take k).foldl openStep (some 0)
private theorem openAt_succ {l : List Nat} {k : Nat} {x : Nat × List Nat} (h : (esc 0 false l)[k]? = some x) : openAt l (k + 1) = openStep (openAt l k) x := foldl_take_succ _ _ h
private theorem openAt_none {l : List Nat} {k : Nat} (h : openAt l k = none) : (esc 0 false l).foldl openStep (some 0) = none := by
  have : (esc 0 false l).foldl openStep (some 0) = ((esc 0 false l).drop k).foldl openStep (openAt l k) := by
    unfold openAt; rw [← List.foldl_append, List.take_append_drop]
  rw [this, h]
  induction ((esc 0 false l).drop k) with
  | nil => rfl
  | cons x r ih => exact ih
end
section
open PySem PySem.W PyProof.Rows PySem.Calls PySem.SeqAt
noncomputable def optAV : Option Nat → AV
  | none => .none
  | some n => .int (n : Nat)
private theorem sum_flatten (outs : List (List Nat)) : (outs.map List.length).sum = outs.flatten.length := by simp [List.length_flatten]
private theorem strip_app {a q : Nat} {out : List (List Nat)} {l : List Nat} (h : ¬ (a : Int) = q) : out.map AV.str ++ [.str (sl (some (a : Int)) (some (q : Int)) l)] = (if a = q then out else out ++ [sl (some (a : Int)) (some (q : Int)) l]).map .str := by rw [if_neg fun e => h (congrArg _ e), List.map_append]; rfl
private theorem strip_no {a q : Nat} {out : List (List Nat)} {l : List Nat} (h : (a : Int) = q) : out.map AV.str = (if a = q then out else out ++ [sl (some (a : Int)) (some (q : Int)) l]).map .str := by rw [if_pos (Int.ofNat.inj h)]
private theorem ok34 : okS [34] := okS_1 (by decide)
private theorem op_strip {X : Amb} {D : Nat} (kn : Kn X) (hD : 12 ≤ D ∧ D ≤ 500) {l : List Nat} (hz : l.length ≤ 1000) (hl : okS l) {m : Mem} : Fn X (D + 1) "_strip_quoted_realnames" m [.str l] (.str (stripF l)) m := by
  have hD4 : 4 ≤ D := Nat.le_trans (by decide) hD.1
  have hlen := esc_length l 0 false
  refine (kn.fn 13 88 rfl).mk' kn.lim hD4 (ps := ["addr"]) [] (by rfl) (fun zz zz zz zz zz => rfl) rfl ⟨.notInS (x := 34), .n (fun h => ?_) fun h34 => ?_⟩
  · rw [show stripF l = l from if_neg h]; exact .s
  · refine W.forP (G := ⟨X, D, _, []⟩) (σ := Unit) hD4 (.esc (kn.fn 12 81 rfl) kn.lim (kn.bu "enumerate" _ rfl) hD rfl ⟨.wp hD4 rfl (by exact .mk), plain_pl rfl⟩ hl) (fun k zz => bd "result" (.mref m.length) (bd "open_pos" (optAV (stripAt l k).2.1) (bd "start" (.int (stripAt l k).1) (bd "addr" (.str l) [])))) (fun k zz => sn m (.lst ((stripAt l k).2.2.map .str))) (fun zz zz => True) (.mk () trivial rfl (.rf rfl)) (fun k x s hx zz => ?_) (fun s zz => ?_) (fun zz zz => rfl)
    · have hch : okS x.2 := esc_ok _ 0 false hl _ (List.mem_of_getElem? hx)
      have hk : k < _ := (List.getElem?_eq_some_iff.mp hx).1
      have hb : (stripAt l k).2.2.length ≤ 2 ^ 23 := by have := (stripAt_sum (l := l) k (Nat.le_of_lt hk)).1; lia
      have hs := stripAt_succ hx
      generalize stripAt l (k + 1) = st' at hs
      generalize stripAt l k = st at hs hb
      obtain ⟨a, o, out⟩ := st
      obtain ⟨p, ch⟩ := x
      refine ⟨_, .tup (.cons rfl (.cons rfl .nil)) rfl, .eqS hch ok34 hD4, .d (fun (h : ch = [34]) => ?_) fun (h : ¬ ch = [34]) => ?_⟩
      · replace hs := hs.trans (if_pos h)
        subst hs
        cases o with
        | none => exact ⟨.isNN, .t rfl (.mk () trivial rfl (.rf rfl))⟩
        | some q =>
          exact ⟨.isIN, .f rfl (.n (fun h2 => ⟨.str (Nat.le_trans hz (by decide)), .appendN (by rw [List.length_map]; exact hb), .mk (.mk () trivial (congrArg (fun z => sn m (.lst z)) (strip_app h2)) (.cons rfl (.cons rfl (.cons rfl (.cons rfl .nil)))))⟩) fun h2 => .mk () trivial (congrArg (fun z => sn m (.lst z)) (strip_no h2)) (.cons rfl (.cons rfl (.cons rfl (.cons rfl .nil)))))⟩
      · replace hs := hs.trans (if_neg h)
        subst hs
        exact .mk () trivial rfl (.rf rfl)
    · obtain ⟨hn, hsum⟩ := stripAt_sum (l := l) _ (Nat.le_refl _)
      have hmul : (esc 0 false l).length * l.length ≤ 1001 * 1000 := Nat.mul_le_mul (by lia) hz
      replace hn := Nat.le_trans hn (show _ ≤ 1001 by lia)
      replace hsum := Nat.le_trans hsum hmul
      have e : stripF l = _ := if_pos h34
      generalize stripAt l (esc 0 false l).length = st at hn hsum e
      obtain ⟨a, o, out⟩ := st
      have := sl_len (l := some (a : Int)) (u := none) l
      exact ⟨.b (kn.bu "len" _ rfl) (.lenS (Nat.le_trans hz (by decide))), .d (fun h => ⟨.str (Nat.le_trans hz (by decide)), .appendN (by rw [List.length_map]; exact Nat.le_trans hn (by decide)), .mk ⟨.joinM (zs := out ++ [sl (some (a : Int)) none l]) (by rw [List.map_append]; exact sn_get _ _) (by rw [List.map_append, List.sum_append]; simp; lia), (e.trans (congrArg List.flatten (if_pos (Int.ofNat_lt.mp h)))) ▸ .s1⟩⟩) fun h => ⟨.joinM (sn_get _ _) (Nat.le_trans hsum (by decide)), (e.trans (congrArg List.flatten (if_neg fun q => h (Int.ofNat_lt.mpr q)))) ▸ .s1⟩⟩
end
section
open PySem PySem.W PyProof.Rows PySem.Calls PySem.SeqAt
private theorem ok40 : okS [40] := okS_1 (by decide)
private theorem ok41 : okS [41] := okS_1 (by decide)
private theorem open_40 {n : Int} {o : Option Int} {p : Nat} {ch : List Nat} (hs : o = openStep (some n) (p, ch)) (h : ch = [40]) : o = some (n + 1) := hs.trans (if_pos h)
private theorem open_41 {n : Int} {o : Option Int} {p : Nat} {ch : List Nat} (hs : o = openStep (some n) (p, ch)) (h : ch = [41]) : o = if n - 1 < 0 then none else some (n - 1) := (hs.trans (if_neg (show ¬ ch = [40] by rw [h]; decide))).trans (if_pos h)
private theorem open_no {n : Int} {o : Option Int} {p : Nat} {ch : List Nat} (hs : o = openStep (some n) (p, ch)) (h : ¬ ch = [40]) (h' : ¬ ch = [41]) : o = some n := (hs.trans (if_neg h)).trans (if_neg h')
private theorem op_check {X : Amb} {D : Nat} (kn : Kn X) (hD : 13 ≤ D ∧ D ≤ 500) {l : List Nat} (hz : l.length ≤ 1000) (hl : okS l) {m : Mem} : Fn X (D + 1) "_check_parenthesis" m [.str l] (.bool (checkF l)) m := by
  obtain ⟨D, rfl⟩ : ∃ d, D = d + 1 := ⟨D - 1, by lia⟩
  have hD4 : 4 ≤ D + 1 := Nat.le_trans (by decide) hD.1
  have hD1 : 12 ≤ D ∧ D ≤ 500 := by exact ⟨dC hD.1 rfl, Nat.le_of_lt hD.2⟩
  have hS := okS_strip hl
  refine (kn.fn 14 95 rfl).mk' kn.lim hD4 (ps := ["addr"]) [] (by rfl) (fun zz zz zz zz zz => rfl) rfl ⟨op_strip kn hD1 hz hl, ?_⟩
  refine W.forP (G := ⟨X, D + 1, _, []⟩) (σ := Int) hD4 (.esc (l := stripF l) (kn.fn 12 81 rfl) kn.lim (kn.bu "enumerate" _ rfl) ⟨by exact Nat.le_succ_of_le hD1.1, hD.2⟩ rfl ⟨.wp hD4 rfl (by exact .mk), plain_pl rfl⟩ hS) (fun k n => bd "opens" (.int n) []) (fun k zz => m) (fun k n => openAt (stripF l) k = some n) (.mk 0 rfl rfl (.cons rfl .nil)) (fun k x n hx hI => ?_) (fun n hI => ?_) (fun zz zz => rfl)
  · have hch : okS x.2 := esc_ok _ 0 false hS _ (List.mem_of_getElem? hx)
    have hs := openAt_succ hx
    rw [hI] at hs
    obtain ⟨p, ch⟩ := x
    refine ⟨_, .tup (.cons rfl (.cons rfl .nil)) rfl, .eqS hch ok40 hD4, .d (fun h => .mk _ (open_40 hs h) rfl (.cons rfl .nil)) fun h => ⟨.eqS hch ok41 hD4, .d (fun h' => .d (fun hn => ?_) fun hn => .mk _ ((open_41 hs h').trans (if_neg hn)) rfl (.cons rfl .nil)) fun h' => .mk _ (open_no hs h h') rfl (.cons rfl .nil)⟩⟩
    have := openAt_none ((open_41 hs h').trans (if_pos hn))
    exact (show checkF l = false by unfold checkF; rw [this]) ▸ .b
  · have h4 : (esc 0 false (stripF l)).foldl openStep (some 0) = some n := by rw [← hI]; unfold openAt; rw [List.take_length]
    exact (show checkF l = decide (n = 0) by unfold checkF; rw [h4]) ▸ .b
end
section
open PySem PySem.W PyProof.Rows PySem.Calls PySem.SeqAt
noncomputable def rowStep (code : Int) (pairs : Nat) (row : List Nat) (place : Nat) : List Nat :=
  row ++ [if row.count 40 < pairs ∧ (2 * row.count 40 = place ∨ Builtin.bitAnd (code.fdiv (2 ^ place)) 1 = 0) then 40 else 41]
noncomputable def rowL (code : Int) (pairs : Nat) : List Nat := (List.range (2 * pairs)).foldl (rowStep code pairs) []
noncomputable def rowAt (code : Int) (n k : Nat) : List Nat := (List.range k).foldl (rowStep code n) []
private theorem rowAt_succ (code : Int) (n k : Nat) : rowAt code n (k + 1) = rowStep code n (rowAt code n k) k := by simp [rowAt, List.range_succ]
private theorem rowAt_len (code : Int) (n : Nat) : ∀ k, (rowAt code n k).length = k
  | 0 => rfl
  | k + 1 => by rw [rowAt_succ, rowStep]; simp [rowAt_len code n k]
private theorem range_at {n k x : Nat} (h : (List.range n)[k]? = some x) : x = k := by
  obtain ⟨h1, h2⟩ := List.getElem?_eq_some_iff.mp h
  rw [← h2, List.getElem_range]
private theorem row_cond (c n k : Nat) (code : Int) : (decide ((c : Int) < n) && (decide (2 * (c : Int) = k) || decide (Builtin.bitAnd (code.fdiv (2 ^ (k : Int).toNat)) 1 = 0))) = decide (c < n ∧ (2 * c = k ∨ Builtin.bitAnd (code.fdiv (2 ^ k)) 1 = 0)) := by
  rw [show decide ((c : Int) < n) = decide (c < n) from decide_eq_decide.mpr Int.ofNat_lt, show decide (2 * (c : Int) = k) = decide (2 * c = k) from decide_eq_decide.mpr (Int.ofNat_inj (m := 2 * c)), Bool.decide_and, Bool.decide_or]; rfl
private theorem op_row {X : Amb} {D : Nat} (kn : Kn X) (hD : 4 ≤ D) {m : Mem} {code : Int} {n : Nat} (hn : n ≤ 1000) : Fn X (D + 1) "_law_row" m [.int code, .int n] (.str (rowL code n)) m := by
  refine (kn.fn 18 144 rfl).mk' kn.lim hD (ps := ["code", "pairs"]) [] (by rfl) (fun zz zz zz zz zz zz => rfl) rfl ?_
  refine W.forW (G := ⟨X, D, _, []⟩) (σ := Unit) (xs := List.range (2 * n)) (av := .rng 0 ((2 * n : Nat) : Int)) (m1 := m) hD ⟨.mul (.inl (by decide)), .t (kn.bu "range" _ rfl) .range, .mk⟩ (.rng' (by lia)) (fun k zz => bd "row" (.str (rowAt code n k)) (bd "code" (.int code) (bd "pairs" (.int n) []))) (fun zz zz => m) (fun zz zz => True) (.mk () trivial rfl (.rf rfl)) (fun k x s hx zz => ?_) (fun s zz => ?_) (fun zz zz => rfl)
  · cases range_at hx
    have hk := rowAt_len code n k
    have hk2 : k < 2 * n := by have := (List.getElem?_eq_some_iff.mp hx).1; simpa using this
    exact ⟨_, .name rfl, .count (c := 40), fun zz => ⟨.mul (.inl (by decide)), fun zz => ⟨.shr (Int.natCast_nonneg _), .and, .mk⟩, .mk⟩, .str [if (rowAt code n k).count 40 < n ∧ (2 * (rowAt code n k).count 40 = k ∨ Builtin.bitAnd (code.fdiv (2 ^ k)) 1 = 0) then 40 else 41], m, fun h => by
      rw [row_cond] at h; rw [if_pos (of_decide_eq_true h)]; exact .mk, fun h => by
      rw [row_cond] at h; rw [if_neg (of_decide_eq_false h)]; exact .mk, .iaddS (by rw [hk]; exact Nat.le_trans (Nat.succ_le_of_lt hk2) (by lia)), .mk () trivial rfl (.cons (congrArg (some ∘ AV.str) (rowAt_succ code n k).symm) (.cons rfl (.cons rfl .nil)))⟩
  · exact (show rowAt code n (List.range (2 * n)).length = rowL code n by rw [List.length_range]; rfl) ▸ .s
end
section
open PySem PySem.W PyProof.Rows PySem.Calls PySem.SeqAt
noncomputable def guardF (w : List Nat) : List Nat := (w.map fun c => [92, c]).flatten
noncomputable def baseF (w : List Nat) (k : Nat) : List Nat := match k with
  | 0 => w
  | 1 => 34 :: (w ++ [34])
  | 2 => guardF w
  | _ => 34 :: (guardF w ++ [34])
noncomputable def endF (s : Int) : List Nat := match (s.fdiv 4 % 4).toNat with
  | 0 => if s % 2 = 0 then [32] else []
  | 1 => [10]
  | 2 => [9]
  | _ => [13]
noncomputable def writtenF (w : List Nat) (s : Int) : List Nat := baseF w (s % 4).toNat ++ endF s
private theorem guardF_len (w : List Nat) : (guardF w).length = 2 * w.length := by
  induction w with
  | nil => rfl
  | cons c w ih => simp only [guardF, List.map_cons, List.flatten_cons, List.length_append] at ih ⊢; rw [ih]; simp; lia
private theorem guardF_sum (w : List Nat) : ((w.map fun c => [92, c]).map List.length).sum = 2 * w.length := by
  rw [sum_flatten]; exact guardF_len w
private theorem fm {a b : Int} (h : 0 ≤ b) : a.fmod b = a % b := Int.fmod_eq_emod_of_nonneg a h
private theorem at4 {α : Type} {a b c d : α} {s : Int} {f : Nat → α} (h0 : f 0 = a) (h1 : f 1 = b) (h2 : f 2 = c) (h3 : ∀ n, 3 ≤ n → f n = d) : [a, b, c, d][(s.fmod 4).toNat]? = some (f (s % 4).toNat) := by
  rw [fm (by decide)]
  have : s % 4 = 0 ∨ s % 4 = 1 ∨ s % 4 = 2 ∨ s % 4 = 3 := by lia
  rcases this with h | h | h | h <;> rw [h]
  · exact congrArg some h0.symm
  · exact congrArg some h1.symm
  · exact congrArg some h2.symm
  · exact congrArg some (h3 3 (Nat.le_refl _)).symm
private theorem at2 {s : Int} : [AV.str [32], .str []][(s.fmod 2).toNat]? = some (.str (if s % 2 = 0 then [32] else [])) := by
  rw [fm (by decide)]
  have : s % 2 = 0 ∨ s % 2 = 1 := by lia
  rcases this with h | h <;> rw [h] <;> rfl
private theorem md {a b : Int} (h : 0 < b) (hb : b < 2 ^ 62) : 0 ≤ a.fmod b ∧ a.fmod b < 2 ^ 62 := by
  rw [fm (Int.le_of_lt h)]
  exact ⟨Int.emod_nonneg _ (Int.ne_of_gt h), Int.lt_trans (Int.emod_lt_of_pos _ h) hb⟩
private theorem base_len (w : List Nat) (k : Nat) : (baseF w k).length ≤ 2 * w.length + 2 := by
  have := guardF_len w
  unfold baseF
  split
  · lia
  · rw [List.length_cons, List.length_append]; show w.length + 1 + 1 ≤ _; lia
  · lia
  · rw [List.length_cons, List.length_append]; show (guardF w).length + 1 + 1 ≤ _; lia
private theorem end_len (s : Int) : (endF s).length ≤ 1 := by
  unfold endF
  split
  · split
    · exact Nat.le_refl _
    · exact Nat.zero_le _
  all_goals exact Nat.le_refl _
private theorem op_written {X : Amb} {D : Nat} (kn : Kn X) (hD : 4 ≤ D) {w : List Nat} {s : Int} (hz : w.length ≤ 1000) {m : Mem} : Fn X (D + 1) "_law_written" m [.str w, .int s] (.str (writtenF w s)) m := by
  have q1 := guardF_len w
  refine (kn.fn 19 149 rfl).mk' kn.lim hD (ps := ["word", "style"]) [] (by rfl) (fun zz zz zz zz zz zz => rfl) rfl (OkE.map (G := ⟨X, D, _, []⟩) (xs := w) (av := .str w) (m1 := m) hD (by rfl) (fun zz zz => rfl) .mk .str' (Nat.le_trans hz (by decide)) (fun c => .str [92, c]) (fun c hc => ⟨_, .name rfl, .addS (by show 2 ≤ 2 ^ 24; decide), .mk⟩) ?_)
  have q2 := base_len w (s % 4).toNat
  have q3 := end_len s
  exact ⟨.join' (zs := w.map fun c => [92, c]) (by rw [List.map_map]; rfl) (by rw [guardF_sum]; lia), .addS (by show 1 + w.length ≤ _; lia), .addS (by rw [List.length_append]; show 1 + w.length + 1 ≤ _; lia), .addS (by show 1 + (guardF w).length ≤ _; lia), .addS (by rw [List.length_append]; show 1 + (guardF w).length + 1 ≤ _; lia),
    .mod (by decide), .lst (md (by decide) (by decide)).1 (md (by decide) (by decide)).2 (at4 (f := fun k => .str (baseF w k)) rfl rfl rfl fun | 3, _ => rfl | _ + 4, _ => rfl), .mod (by decide), .lst (md (by decide) (by decide)).1 (md (by decide) (by decide)).2 at2, .div (by decide) (by decide), .mod (by decide), .lst (md (by decide) (by decide)).1 (md (by decide) (by decide)).2 (at4 (s := s.fdiv 4) (f := fun k => .str (match k with
      | 0 => if s % 2 = 0 then [32] else []
      | 1 => [10]
      | 2 => [9]
      | _ => [13])) rfl rfl rfl fun | 3, _ => rfl | _ + 4, _ => rfl), .addS (Nat.le_trans (Nat.add_le_add q2 q3) (by lia)), .s⟩
end
section
open PySem PySem.W PyProof.Rows PySem.Calls PySem.SeqAt
noncomputable abbrev PP' := List (Int × Int)
noncomputable def partsStep (st : Option (PP' × PP')) (c : Nat) : Option (PP' × PP') := match st with
  | some (parts, pile) => (match pile.getLast? with
    | some (p, d) => if c = 40 then some (parts, pile.dropLast ++ [(2 * p + 1, d + 1), (2 * p, d + 1)]) else some (parts ++ [(p, d)], pile.dropLast)
    | none => none)
  | none => none
noncomputable def partsAt (l : List Nat) (k : Nat) : Option (PP' × PP') := (l.take k).foldl partsStep (some ([], [(0, 0)]))
private theorem partsAt_succ {l : List Nat} {k c : Nat} (h : l[k]? = some c) : partsAt l (k + 1) = partsStep (partsAt l k) c := foldl_take_succ _ _ h
noncomputable def partsF (l : List Nat) : Option PP' := (partsAt (l ++ [41]) (l ++ [41]).length).map (·.1)
noncomputable def ppAV (x : Int × Int) : AV := .tup [.int x.1, .int x.2]
private theorem foldl_none {α β : Type} (f : Option α → β → Option α) (h : ∀ b, f none b = none) : ∀ l : List β, l.foldl f none = none
  | [] => rfl
  | b :: r => by rw [List.foldl_cons, h]; exact foldl_none f h r
private theorem foldl_some_at {α β : Type} (f : Option α → β → Option α) (h : ∀ b, f none b = none) (a : Option α) {l : List β} {x : α} (e : l.foldl f a = some x) (k : Nat) : ∃ y, (l.take k).foldl f a = some y := by
  cases h1 : (l.take k).foldl f a with
  | none => rw [← List.take_append_drop k l, List.foldl_append, h1, foldl_none f h] at e; cases e
  | some y => exact ⟨y, rfl⟩
structure PartsI (l : List Nat) (k : Nat) (s : PP' × PP') : Prop where
  e : partsAt l k = some s
  a : s.1.length ≤ k
  b : s.2.length ≤ k + 1
private theorem parts_next {l : List Nat} {k c : Nat} {s : PP' × PP'} (I : PartsI l k s) (hx : l[k]? = some c) {r : PP' × PP'} (hr : partsAt l l.length = some r) : ∃ q p d, s.2 = q ++ [(p, d)] ∧ q.length ≤ k ∧
    ((c = 40 ∧ PartsI l (k + 1) (s.1, q ++ [(2 * p + 1, d + 1), (2 * p, d + 1)])) ∨ (c ≠ 40 ∧ PartsI l (k + 1) (s.1 ++ [(p, d)], q))) := by
  obtain ⟨z, hz⟩ := foldl_some_at partsStep (fun zz => rfl) _ hr (k + 1)
  rw [List.take_take, Nat.min_eq_left (List.getElem?_eq_some_iff.mp hx).1] at hz
  have hz : partsAt l (k + 1) = some z := hz
  obtain ⟨parts, pile⟩ := s
  have hs := partsAt_succ hx
  rw [hz, I.e] at hs
  rcases List.eq_nil_or_concat pile with h | ⟨q, ⟨p, d⟩, h⟩
  · subst h; cases hs
  · rw [List.concat_eq_append] at h
    subst h
    have hb := I.b
    have ha := I.a
    rw [List.length_append] at hb
    have hq : q.length ≤ k := Nat.le_of_succ_le_succ hb
    refine ⟨q, p, d, rfl, hq, ?_⟩
    simp only [partsStep, List.getLast?_append, List.getLast?_singleton, Option.some_or, List.dropLast_concat] at hs
    split at hs
    · exact .inl ⟨‹_›, hz.trans hs, Nat.le_succ_of_le ha, by rw [List.length_append]; exact Nat.add_le_add_right hq 2⟩
    · exact .inr ⟨‹_›, hz.trans hs, by rw [List.length_append]; exact Nat.succ_le_succ ha, Nat.le_succ_of_le (Nat.le_succ_of_le hq)⟩
private theorem op_parts {X : Amb} {D : Nat} (kn : Kn X) (hD : 4 ≤ D) {l : List Nat} (hz : l.length ≤ 1000) (hl : okS l) {r : PP'} (hr : partsF l = some r) {m : Mem} : Fn X (D + 1) "_law_parts" m [.str l] (.lst (r.map ppAV)) m := by
  obtain ⟨⟨r1, r2⟩, hr2, e⟩ := Option.map_eq_some_iff.mp hr
  have e : r1 = r := e
  subst e
  refine (kn.fn 27 199 rfl).mk' kn.lim hD (ps := ["row"]) [262] (by rfl) (fun zz zz zz zz zz => rfl) rfl (W.tupR (G := ⟨X, D, _, _⟩) (xs := ["parts", "pile"]) hD rfl rfl rfl (.mk rfl ?_))
  refine W.forW (G := ⟨X, D, _, _⟩) (σ := PP' × PP') (xs := l ++ [41]) (av := .str (l ++ [41])) hD ⟨.addS (by show l.length + 1 ≤ _; exact dF hz rfl), .mk⟩ .str' (fun zz zz => bd "parts" (.mref m.length) (bd "pile" (.mref (sn m (.lst [])).length) [])) (fun zz s => sn (sn m (.lst (s.1.map ppAV))) (.lst (s.2.map ppAV))) (PartsI (l ++ [41])) (.mk ([], [(0, 0)]) ⟨rfl, Nat.le_refl _, Nat.le_refl _⟩ rfl (.cons rfl (.cons rfl .nil))) (fun k c s hx I => ?_) (fun s I => ?_) (fun zz zz => rfl)
  · have hch : okS [c] := okS_at (okS_app hl ok41) hx
    have hk : k < l.length + 1 := by have := (List.getElem?_eq_some_iff.mp hx).1; rwa [List.length_append] at this
    have ha := I.a
    obtain ⟨q, p, d, hp, hq, h⟩ := parts_next I hx hr2
    obtain ⟨pa, pi⟩ := s
    cases hp
    have z1 : (q.map ppAV).length ≤ 2 ^ 23 := by rw [List.length_map]; lia
    have z2 : (pa.map ppAV).length ≤ 2 ^ 23 := by rw [List.length_map]; lia
    have e1 : (sn (sn m (.lst (pa.map ppAV))) (.lst ((q ++ [(p, d)]).map ppAV)))[(sn m (AObj.lst [])).length]? = some (.lst (q.map ppAV ++ [ppAV (p, d)])) := by
      rw [sn_len, ← sn_len m (.lst (pa.map ppAV)), sn_get, List.map_append]; rfl
    have e2 : (sn (sn m (.lst (pa.map ppAV))) (.lst (q.map ppAV)))[(sn m (AObj.lst [])).length]? = some (.lst (q.map ppAV)) := by
      rw [sn_len, ← sn_len m (.lst (pa.map ppAV)), sn_get]
    refine ⟨_, .name rfl, W.tup (G := ⟨X, D, _, _⟩) (xs := ["part", "depth"]) hD rfl rfl (.cons rfl (.cons rfl .nil)) ⟨.pop e1 e1 z1 (m3 := sn (sn m (.lst (pa.map ppAV))) (.lst (q.map ppAV))) ?_, .mk rfl ⟨.eqS hch ok40 hD, .d (fun hc => ?_) fun hc => ?_⟩⟩⟩
    · rw [sn_len, ← sn_len m (.lst (pa.map ppAV)), sn_set]
    · have h := h.elim (fun h => h.2) fun h => absurd (List.cons.inj hc).1 h.1
      refine ⟨.mul (.inl (by decide)), .mul (.inl (by decide)), .extend (m3 := sn (sn m (.lst (pa.map ppAV))) (.lst (q.map ppAV ++ [ppAV (2 * p + 1, d + 1), ppAV (2 * p, d + 1)]))) e2 e2 (by rw [List.length_map]; show q.length + 2 ≤ _; lia) (by rw [sn_len, ← sn_len m (.lst (pa.map ppAV)), sn_set]; rfl), .mk (.mk _ h (congrArg (fun z => sn (sn m (.lst (pa.map ppAV))) (.lst z)) (by rw [List.map_append]; rfl)) (.cons rfl (.cons rfl .nil)))⟩
    · have h := h.elim (fun h => absurd (congrArg (fun z => [z]) h.1) hc) fun h => h.2
      exact ⟨.append (m3 := sn (sn m (.lst (pa.map ppAV ++ [ppAV (p, d)]))) (.lst (q.map ppAV))) (sn_get1 _ _ _) (sn_get1 _ _ _) z2 (sn_set1 _ _ _ _), .mk (.mk _ h (congrArg (fun z => sn (sn m (.lst z)) (.lst (q.map ppAV))) (by rw [List.map_append]; rfl)) (.cons rfl (.cons rfl .nil)))⟩
  · have := I.e.symm.trans hr2
    cases this
    exact KeptA.sn2 fun M => .mrefL (Nat.le_refl _) (sn_get1 _ _ _) (.map (f := ppAV) (g := ppAV) (fun x => .tupL (.cons (.int _) (.cons (.int _) .nil))) _)
end
section
open PySem PySem.W PyProof.Rows PySem.Calls PySem.SeqAt
noncomputable def putStep (st : Option (List Nat × List (List Nat))) (c : Nat) : Option (List Nat × List (List Nat)) := match st with
  | some (out, ws) => if c = 40 then some (out ++ [40], ws) else (match ws with
    | w :: r => some (out ++ w, r)
    | [] => none)
  | none => none
noncomputable def putAt (ws : List (List Nat)) (l : List Nat) (k : Nat) : Option (List Nat × List (List Nat)) := (l.take k).foldl putStep (some ([], ws))
private theorem putAt_succ {ws : List (List Nat)} {l : List Nat} {k c : Nat} (h : l[k]? = some c) : putAt ws l (k + 1) = putStep (putAt ws l k) c := foldl_take_succ _ _ h
noncomputable def putF (l : List Nat) (ws : List (List Nat)) : Option (List Nat) := (putAt ws (l ++ [41]) (l ++ [41]).length).map fun r => r.1.dropLast
private theorem sl_dropLast {α : Type} (l : List α) : sl none (some (-1)) l = l.dropLast := by
  have h := clipAt_cast l.length (-1)
  rw [List.dropLast_eq_take]
  refine congrArg (fun n => (l.take n).drop 0) (?_ : clipAt l.length (-1) = l.length - 1)
  rw [if_pos (by decide)] at h
  omega
structure PutI (ws : List (List Nat)) (l : List Nat) (k : Nat) (outs r : List (List Nat)) : Prop where
  e : putAt ws l k = some (outs.flatten, r)
  n : r.length ≤ ws.length
  b : outs.flatten.length + (r.map List.length).sum ≤ k + (ws.map List.length).sum
private theorem put_next {ws : List (List Nat)} {l : List Nat} {k c : Nat} {outs r : List (List Nat)} (I : PutI ws l k outs r) (hx : l[k]? = some c) {z : List Nat × List (List Nat)} (hr : putAt ws l l.length = some z) :
    (c = 40 ∧ PutI ws l (k + 1) (outs ++ [[40]]) r) ∨ (c ≠ 40 ∧ ∃ w q, r = w :: q ∧ PutI ws l (k + 1) (outs ++ [w]) q) := by
  obtain ⟨y, hy⟩ := foldl_some_at putStep (fun zz => rfl) _ hr (k + 1)
  rw [List.take_take, Nat.min_eq_left (List.getElem?_eq_some_iff.mp hx).1] at hy
  have hy : putAt ws l (k + 1) = some y := hy
  have hs := putAt_succ (ws := ws) hx
  rw [hy, I.e] at hs
  have fl : ∀ w : List Nat, (outs ++ [w]).flatten = outs.flatten ++ w := fun w => by rw [List.flatten_append]; simp
  have hb := I.b
  by_cases hc : c = 40
  · rw [show putStep (some (outs.flatten, r)) c = _ from if_pos hc] at hs
    exact .inl ⟨hc, by rw [fl]; exact hy.trans hs, I.n, by rw [fl, List.length_append]; simp only [List.length_singleton]; lia⟩
  · rw [show putStep (some (outs.flatten, r)) c = _ from if_neg hc] at hs
    cases r with
    | nil => cases hs
    | cons w q =>
      have h1 := I.n
      simp only [List.length_cons, List.map_cons, List.sum_cons] at h1 hb
      exact .inr ⟨hc, w, q, rfl, by rw [fl]; exact hy.trans hs, Nat.le_of_succ_le h1, by rw [fl, List.length_append]; lia⟩
private theorem op_put {X : Amb} {D : Nat} (kn : Kn X) (hD : 4 ≤ D) {l : List Nat} {ws : List (List Nat)} (hz : l.length ≤ 1000) (hl : okS l) (hw : ws.length ≤ 1000) (hs : (ws.map List.length).sum ≤ 1000000) {r : List Nat} (hr : putF l ws = some r) {m : Mem} : Fn X (D + 1) "_law_put" m [.str l, .lst (ws.map .str)] (.str r) m := by
  obtain ⟨⟨out, rest⟩, hr2, e⟩ := Option.map_eq_some_iff.mp hr
  have e : out.dropLast = r := e
  have hz1 : (l ++ [41]).length ≤ 1001 := by rw [List.length_append]; exact Nat.succ_le_succ hz
  refine (kn.fn 22 166 rfl).mk' kn.lim hD (ps := ["row", "words"]) [] (by rfl) (fun zz zz zz zz zz zz => rfl) rfl ⟨.t (kn.bu "list" _ rfl) (.list (by rw [List.length_map]; exact dB hw rfl)), ?_⟩
  refine OkE.lc (G := ⟨X, D, _, _⟩) (xs := l ++ [41]) (av := .str (l ++ [41])) (m1 := sn m (.lst (ws.map .str))) hD (by rfl) (fun zz zz => rfl) ⟨.addS (by rw [← List.length_append]; exact Nat.le_trans hz1 (by decide)), .mk⟩ .str' (fun k ys m' => ∃ outs r, PutI ws (l ++ [41]) k outs r ∧ ys = outs.map .str ∧ m' = sn m (.lst (r.map .str))) (Nat.le_trans hz1 (by decide)) ⟨[], ws, ⟨rfl, Nat.le_refl _, Nat.le_refl _⟩, rfl, rfl⟩ ?_ ?_
  · rintro k c ys m' hx ⟨outs, r, I, rfl, rfl⟩
    have hch : okS [c] := okS_at (okS_app hl ok41) hx
    have hr := I.n
    rcases put_next I hx hr2 with ⟨rfl, I'⟩ | ⟨hc, w, q, rfl, I'⟩
    · exact ⟨_, .name rfl, .t rfl ⟨.eqS hch ok40 hD, .str [40], sn m (.lst (r.map .str)), fun zz => .mk, nofun, _, _, I', by rw [List.map_append]; rfl, rfl⟩⟩
    · exact ⟨_, .name rfl, .t rfl ⟨.eqS hch ok40 hD, .str w, sn m (.lst (q.map .str)), fun e => absurd (List.cons.inj (of_decide_eq_true e)).1 hc, fun zz => ⟨.pop0 (sn_get _ _) (sn_get _ _) (by rw [List.length_map]; simp only [List.length_cons] at hr; lia) (sn_set _ _ _), .mk⟩, _, _, I', by rw [List.map_append]; rfl, rfl⟩⟩
  · rintro ys m' ⟨outs, r', I, rfl, rfl⟩
    cases I.e.symm.trans hr2
    have hb := I.b
    exact ⟨.join (by rw [sum_flatten]; lia), .neg, .str (by lia), e.symm.trans (sl_dropLast _).symm ▸ .s1⟩
end
section
open PySem PySem.W PyProof.Rows PySem.Calls PySem.SeqAt
private theorem clipAt_nat (n k : Nat) : clipAt n (k : Int) = min k n := by
  have := clipAt_cast n k
  rw [if_neg (Int.not_lt.mpr (Int.natCast_nonneg k))] at this
  rcases Nat.le_total k n with h | h
  · rw [Int.min_eq_left (Int.ofNat_le.mpr h), Int.max_eq_right (Int.natCast_nonneg _)] at this
    rw [Nat.min_eq_left h]; exact Int.ofNat.inj this
  · rw [Int.min_eq_right (Int.ofNat_le.mpr h), Int.max_eq_right (Int.natCast_nonneg _)] at this
    rw [Nat.min_eq_right h]; exact Int.ofNat.inj this
noncomputable def cutC (row : List Nat) (k : Nat) : Bool := decide (2 + 2 * k < row.length) && !checkF (row.take (2 + 2 * k))
noncomputable def cutR (row : List Nat) : Nat → Nat → Nat
  | 0, k => k
  | n + 1, k => if cutC row k then cutR row n (k + 1) else k
noncomputable def cutF (row : List Nat) : Nat := 2 + 2 * cutR row row.length 0
noncomputable def startsF : Nat → List Nat → Int → Int → List Int
  | 0, _, _, _ => []
  | n + 1, row, low, size => if row = [] then [low] else startsF n ((row.take (cutF row - 1)).drop 1) low (size.fdiv 2) ++ startsF n (row.drop (cutF row)) (low + size.fdiv 2) (size.fdiv 2)
private theorem startsF_len : ∀ n row low size, (startsF n row low size).length ≤ row.length + 1
  | 0, _, _, _ => by simp [startsF]
  | n + 1, row, low, size => by
    unfold startsF
    split
    · simp
    · rename_i hr
      have h1 : 0 < row.length := List.length_pos_iff.mpr hr
      have a := startsF_len n ((row.take (cutF row - 1)).drop 1) low (size.fdiv 2)
      have b := startsF_len n (row.drop (cutF row)) (low + size.fdiv 2) (size.fdiv 2)
      have h2 : 2 ≤ cutF row := Nat.le_add_right 2 _
      rw [List.length_append]
      rw [List.length_drop] at a b
      rcases Nat.le_total (cutF row) row.length with h | h
      · rw [List.length_take_of_le (Nat.le_trans (Nat.sub_le ..) h)] at a
        generalize cutF row = c at a b h2 h
        (clear hr h1; omega)
      · rw [Nat.sub_eq_zero_of_le h] at b
        have h3 := List.length_take_le' (cutF row - 1) row
        generalize (row.take (cutF row - 1)).length = c at a h3
        (clear hr h h2; omega)
private theorem sl_take {α : Type} (l : List α) (n : Nat) : sl none (some (n : Int)) l = l.take n := by
  unfold sl; simp only [Option.elim, clipAt_nat, List.drop_zero]
  rcases Nat.le_total n l.length with h | h
  · rw [Nat.min_eq_left h]
  · rw [Nat.min_eq_right h, List.take_length, List.take_of_length_le h]
private theorem sl_drop {α : Type} (l : List α) (n : Nat) : sl (some (n : Int)) none l = l.drop n := by
  unfold sl; simp only [Option.elim, clipAt_nat, List.take_length]
  rcases Nat.le_total n l.length with h | h
  · rw [Nat.min_eq_left h]
  · rw [Nat.min_eq_right h, List.drop_length, List.drop_eq_nil_of_le h]
private theorem sl_both {α : Type} (l : List α) (a b : Nat) : sl (some (a : Int)) (some (b : Int)) l = (l.take b).drop a := by
  have h1 := sl_take l b
  unfold sl at h1 ⊢
  simp only [Option.elim, clipAt_nat, List.drop_zero] at h1 ⊢
  rw [h1]
  rcases Nat.le_total a l.length with h | h
  · rw [Nat.min_eq_left h]
  · rw [Nat.min_eq_right h, List.drop_eq_nil_of_le (by simp; lia), List.drop_eq_nil_of_le (by simp; lia)]
private theorem okS_take {l : List Nat} {n : Nat} (h : okS l) : okS (l.take n) := fun c hc => h c (List.mem_of_mem_take hc)
private theorem okS_drop {l : List Nat} {n : Nat} (h : okS l) : okS (l.drop n) := fun c hc => h c (List.mem_of_mem_drop hc)
private theorem KeptA.ints {m : Mem} {l : List Int} : KeptA m (.lst (l.map .int)) (.lst (l.map .int)) m := .same fun zz => .lstL Frz.ints
private theorem cut_is (l : List Nat) (k : Nat) : (decide (((2 + 2 * k : Nat) : Int) < (l.length : Int)) && (checkF (sl none (some ((2 + 2 * k : Nat) : Int)) l) != true)) = cutC l k := by
  rw [sl_take]
  unfold cutC
  rw [show decide (((2 + 2 * k : Nat) : Int) < (l.length : Int)) = decide (2 + 2 * k < l.length) by simp only [Int.ofNat_lt]]
  cases checkF (l.take (2 + 2 * k)) <;> rfl
private theorem op_starts {X : Amb} (kn : Kn X) : ∀ (n : Nat) (_ : n ≤ 60) {D : Nat} (_ : 20 + n ≤ D ∧ D ≤ 500) {l : List Nat} {low size : Int} (_ : l.length < n) (_ : okS l) {m : Mem}, Fn X (D + 1) "_law_starts" m [.str l, .int low, .int size] (.lst ((startsF n l low size).map .int)) m
  | 0, _, _, _, _, _, _, h, _, _ => absurd h (Nat.not_lt_zero _)
  | n + 1, hn, D, hD, l, low, size, hz, hl, m => by
    obtain ⟨D, rfl⟩ : ∃ d, D = d + 1 := ⟨D - 1, by lia⟩
    have hD4 : 4 ≤ D + 1 := by lia
    have hDc : 13 ≤ D ∧ D ≤ 500 := by lia
    have hDn : 20 + n ≤ D ∧ D ≤ 500 := by lia
    have hz2 : l.length ≤ 60 := by lia
    have hzB : ∀ {a b : Option Int}, (sl a b l).length ≤ 1000 := Nat.le_trans (sl_len l) (Nat.le_trans hz2 (by decide))
    refine (kn.fn 25 185 rfl).mk' kn.lim hD4 (ps := ["row", "low", "size"]) [] (by rfl) (fun zz zz zz zz zz zz zz => rfl) rfl ⟨.eqS hl okS_nil hD4, .d (fun (h : l = []) => ?_) fun (h : ¬ l = []) => ?_⟩
    · have e : startsF (n + 1) l low size = [low] := if_pos h
      exact e ▸ KeptA.ints (l := [low])
    · refine W.whileW (G := ⟨X, D + 1, _, []⟩) (σ := Nat) hD4 (fun k => bd "end" (.int (2 + 2 * k : Nat)) (bd "row" (.str l) (bd "low" (.int low) (bd "size" (.int size) [])))) (fun zz => m) (fun j k => j + k = l.length ∧ cutR l j k = cutR l l.length 0) l.length (.mk 0 ⟨rfl, rfl⟩ rfl (.rf rfl)) (fun j k I => ?_)
      have hc := cut_is l k
      cases q : cutC l k with
      | true =>
        have hk : k < l.length := by
          have := (Bool.and_eq_true_iff.mp q).1
          simp at this; (clear q hc I; lia)
        obtain ⟨j, rfl⟩ : ∃ i, j = i + 1 := ⟨j - 1, by lia⟩
        have hr : cutR l (j + 1) k = cutR l j (k + 1) := if_pos q
        exact .go ⟨.b (kn.bu "len" _ rfl) (.lenS (dB hz2 rfl)), fun zz => ⟨.str (dB hz2 rfl), op_check kn hDc hzB (okS_sl hl), .isNotB, .mk⟩, hc.trans q, j, Nat.lt_succ_self _, .mk (k + 1) ⟨by lia, hr.symm.trans I.2⟩ rfl (.rf rfl)⟩
      | false =>
        have hf : cutF l = 2 + 2 * k := by
          unfold cutF
          rw [← I.2]
          cases j with
          | zero => rfl
          | succ j => rw [show cutR l (j + 1) k = k from if_neg (by rw [q]; exact Bool.false_ne_true)]
        have e1 : sl (some 1) (some (((2 + 2 * k : Nat) : Int) - 1)) l = (l.take (2 + 2 * k - 1)).drop 1 := by rw [show ((2 + 2 * k : Nat) : Int) - 1 = ((2 + 2 * k - 1 : Nat) : Int) by lia]; exact sl_both l 1 _
        have hl0 : 0 < l.length := List.length_pos_iff.mpr h
        have y1 : (sl (some 1) (some (((2 + 2 * k : Nat) : Int) - 1)) l).length < n := by rw [e1, List.length_drop, List.length_take]; (clear I hz2; omega)
        have y2 : (sl (some ((2 + 2 * k : Nat) : Int)) none l).length < n := by rw [sl_drop, List.length_drop]; (clear hl0 I hz2; omega)
        have e : startsF (n + 1) l low size = startsF n (sl (some 1) (some (((2 + 2 * k : Nat) : Int) - 1)) l) low (size.fdiv 2) ++ startsF n (sl (some ((2 + 2 * k : Nat) : Int)) none l) (low + size.fdiv 2) (size.fdiv 2) := by
          rw [e1, sl_drop, ← hf]
          exact if_neg h
        have z := startsF_len (n + 1) l low size
        rw [e, List.length_append] at z
        exact .no ⟨.b (kn.bu "len" _ rfl) (.lenS (dB hz2 rfl)), fun zz => ⟨.str (dB hz2 rfl), op_check kn hDc hzB (okS_sl hl), .isNotB, .mk⟩, hc.trans q, .str (dB hz2 rfl), .div (by decide) (by decide), op_starts kn n (Nat.le_of_lt hn) hDn y1 (okS_sl hl), .str (dB hz2 rfl), .div (by decide) (by decide), .div (by decide) (by decide), op_starts kn n (Nat.le_of_lt hn) hDn y2 (okS_sl hl), .addL (by rw [List.length_map, List.length_map]; (clear hl0 I; omega)), by rw [← List.map_append, ← e]; exact KeptA.ints⟩
end
section
open PySem PySem.W PyProof.Rows PySem.Calls PySem.SeqAt
noncomputable def ledGo (rest bits point : Int) : PP' → PP' → Nat → Option (List Int)
  | (p, d) :: ra, (o, e) :: rb, k => if 0 ≤ d ∧ d ≤ bits ∧ 0 ≤ e ∧ e ≤ bits ∧ p.natAbs < 2 ^ 900 ∧ o.natAbs < 2 ^ 900 then
      (if rest.fdiv (2 ^ (bits - d).toNat) = p then some [point - rest + o * 2 ^ (bits - e).toNat + ((rest - p * 2 ^ (bits - d).toNat) * 2 ^ d.toNat).fdiv (2 ^ e.toNat), 0, (k : Int)] else ledGo rest bits point ra rb (k + 1)) else none
  | _, _, _ => none
noncomputable def ledF (a b : List Nat) (point bits : Int) : Option (List Int) := match partsF a, partsF b with
  | some pa, some pb => if pa.length ≤ 2000 ∧ pb.length ≤ 2000 then ledGo (point % 2 ^ bits.toNat) bits point pa pb 0 else none
  | _, _ => none
private theorem pow_small {n : Int} (h : n ≤ 100) : (2 : Int) ^ n.toNat ≤ 2 ^ 100 := by
  exact_mod_cast Nat.pow_le_pow_right (by decide) (by lia)
private theorem natAbs_lt {a : Int} {n : Nat} (h0 : 0 ≤ a) (h : a < 2 ^ n) : a.natAbs < 2 ^ n := by
  have : ((a.natAbs : Nat) : Int) < ((2 ^ n : Nat) : Int) := by rw [Int.natAbs_of_nonneg h0]; exact_mod_cast h
  exact_mod_cast this
structure LedB (bits p d o e : Int) : Prop where
  d0 : 0 ≤ d
  d1 : d ≤ bits
  e0 : 0 ≤ e
  e1 : e ≤ bits
  p : p.natAbs < 2 ^ 900
  o : o.natAbs < 2 ^ 900
section
variable {bits p d o e : Int} (B : LedB bits p d o e) (hb : bits ≤ 100)
include B
private theorem LedB.d2 : 0 ≤ bits - d := Int.sub_nonneg_of_le B.d1
private theorem LedB.e2 : 0 ≤ bits - e := Int.sub_nonneg_of_le B.e1
include hb
private theorem LedB.d3 : bits - d ≤ 1000 := Int.le_trans (Int.sub_le_self _ B.d0) (Int.le_trans hb (by decide))
private theorem LedB.e3 : bits - e ≤ 1000 := Int.le_trans (Int.sub_le_self _ B.e0) (Int.le_trans hb (by decide))
private theorem LedB.d4 : d ≤ 1000 := Int.le_trans B.d1 (Int.le_trans hb (by decide))
end
private theorem led_next {rest bits point : Int} {pa pb : PP'} {k : Nat} {r : List Int} (I : ledGo rest bits point (pa.drop k) (pb.drop k) k = some r) (hk : k < pa.length) : ∃ p d o e, pa[k]? = some (p, d) ∧ pb[k]? = some (o, e) ∧ LedB bits p d o e ∧
    ((rest.fdiv (2 ^ (bits - d).toNat) = p ∧ r = [point - rest + o * 2 ^ (bits - e).toNat + ((rest - p * 2 ^ (bits - d).toNat) * 2 ^ d.toNat).fdiv (2 ^ e.toNat), 0, (k : Int)]) ∨ (rest.fdiv (2 ^ (bits - d).toNat) ≠ p ∧ ledGo rest bits point (pa.drop (k + 1)) (pb.drop (k + 1)) (k + 1) = some r)) := by
  have ea := List.drop_eq_getElem_cons hk
  rcases Nat.lt_or_ge k pb.length with hb | hb
  · have eb := List.drop_eq_getElem_cons hb
    rw [ea, eb] at I
    refine ⟨pa[k].1, pa[k].2, pb[k].1, pb[k].2, List.getElem?_eq_getElem hk, List.getElem?_eq_getElem hb, ?_⟩
    generalize pa[k] = x at I
    generalize pb[k] = y at I
    obtain ⟨p, d⟩ := x
    obtain ⟨o, e⟩ := y
    unfold ledGo at I
    split at I
    · rename_i h
      refine ⟨⟨h.1, h.2.1, h.2.2.1, h.2.2.2.1, h.2.2.2.2.1, h.2.2.2.2.2⟩, ?_⟩
      split at I
      · exact .inl ⟨‹_›, (Option.some.inj I).symm⟩
      · exact .inr ⟨‹_›, I⟩
    · cases I
  · rw [ea, List.drop_eq_nil_of_le hb] at I; cases I
private theorem led_small {rest bits p d : Int} (hq : rest.fdiv (2 ^ (bits - d).toNat) = p) (hb : bits ≤ 100) (hd : 0 ≤ d) : (rest - p * 2 ^ (bits - d).toNat).natAbs < 2 ^ 1000 := by
  have hp : (0 : Int) < 2 ^ (bits - d).toNat := Int.pow_pos (by decide)
  have m0 := Int.emod_nonneg rest (Int.ne_of_gt hp)
  have m1 := Int.emod_lt_of_pos rest hp
  rw [← hq, Int.fdiv_eq_ediv_of_nonneg _ (Int.le_of_lt hp), Int.mul_comm, ← Int.emod_def]
  exact Nat.lt_of_lt_of_le (natAbs_lt m0 (Int.lt_of_lt_of_le m1 (pow_small (by lia)))) (Nat.pow_le_pow_right (by decide) (by decide))
private theorem pp_at {l : PP'} {k : Nat} {p d : Int} (h : l[k]? = some (p, d)) : (l.map ppAV)[((k : Nat) : Int).toNat]? = some (.tup [.int p, .int d]) := by
  show (l.map ppAV)[k]? = _
  rw [List.getElem?_map, h]; rfl
private theorem lt_1000 {n : Nat} (h : n < 2 ^ 900) : n < 2 ^ 1000 := Nat.lt_trans h (Nat.pow_lt_pow_right (by decide) (by decide))
private theorem op_led {X : Amb} {D : Nat} (kn : Kn X) (hD : 5 ≤ D) {a b : List Nat} {point : Int} {nb : Nat} {r : List Int} (za : a.length ≤ 1000) (oa : okS a) (zb : b.length ≤ 1000) (ob : okS b) (hn : nb ≤ 100) (hr : ledF a b point nb = some r) {m : Mem} : Fn X (D + 1) "_law_led" m [.lst [.str a, .str b], .int point, .int nb] (.lst (r.map .int)) m := by
  obtain ⟨D, rfl⟩ : ∃ d, D = d + 1 := ⟨D - 1, by lia⟩
  have hD4 : 4 ≤ D + 1 := by exact Nat.le_of_lt hD
  unfold ledF at hr
  cases e1 : partsF a with
  | none => rw [e1] at hr; cases hr
  | some pa =>
    cases e2 : partsF b with
    | none => rw [e1, e2] at hr; cases hr
    | some pb =>
      rw [e1, e2] at hr
      dsimp only at hr
      split at hr
      · rename_i hz
        have hpos : (0 : Int) < 2 ^ nb := Int.pow_pos (by decide)
        have hb100 : (nb : Int) ≤ 100 := by exact Int.ofNat_le.mpr hn
        refine (kn.fn 28 204 rfl).mk' kn.lim hD4 (ps := ["pair", "point", "bits"]) [] (by rfl) (fun zz zz zz zz zz zz zz => rfl) rfl (W.tupR (G := ⟨X, D + 1, _, _⟩) (xs := ["rest", "parts"]) hD4 rfl rfl rfl ⟨.shl (Int.natCast_nonneg _) (by lia) (by decide), .mod (Int.mul_ne_zero (by decide) (Int.ne_of_gt (Int.pow_pos (by decide)))), ?_⟩)
        refine OkE.map (G := ⟨X, D + 1, _, _⟩) (xs := [(a, pa), (b, pb)]) (f := fun x => .str x.1) (av := .lst [.str a, .str b]) (m1 := m) hD4 (by rfl) (fun zz zz => rfl) .mk .lst (by show 2 ≤ 2 ^ 23; decide) (fun x => .lst (x.2.map ppAV)) (fun x hx => ⟨_, .name rfl, ?_⟩) (.mk rfl ?_)
        · rcases List.mem_cons.mp hx with h | h
          · subst h; exact ⟨op_parts kn (dC hD rfl) za oa e1, .mk⟩
          · cases List.mem_singleton.mp h; exact ⟨op_parts kn (dC hD rfl) zb ob e2, .mk⟩
        · clear e1 e2
          have hr : ledGo (point % 2 ^ nb) nb point pa pb 0 = some r := hr
          have hm : point.fmod (1 * 2 ^ (nb : Int).toNat) = point % 2 ^ nb := by rw [Int.one_mul]; exact Int.fmod_eq_emod_of_nonneg _ (Int.le_of_lt hpos)
          generalize point % 2 ^ nb = rest at hr hm
          refine W.forW (G := ⟨X, D + 1, _, _⟩) (σ := Unit) (xs := List.range (pa.map ppAV).length) (av := .rng 0 ((pa.map ppAV).length : Int)) (m1 := m) hD4 ⟨.lst (by decide) (by decide) rfl, .b (kn.bu "len" _ rfl) (.lenL (xs := pa.map ppAV) (by rw [List.length_map]; exact dB hz.1 rfl)), .t (kn.bu "range" _ rfl) .range, .mk⟩ (.rng' (by rw [List.length_map]; lia)) (fun zz zz => bd "parts" (.lst [.lst (pa.map ppAV), .lst (pb.map ppAV)]) (bd "rest" (.int rest) (bd "point" (.int point) (bd "bits" (.int nb) [])))) (fun zz zz => m) (fun k zz => ledGo rest nb point (pa.drop k) (pb.drop k) k = some r) (.mk () hr rfl (.cons rfl (.cons (congrArg (fun z => some (AV.int z)) hm) (.cons rfl (.cons rfl .nil))))) (fun k c s hx I => ?_) (fun s I => ?_) (fun zz zz => rfl)
          · have hk := (List.getElem?_eq_some_iff.mp hx).1
            rw [List.length_range, List.length_map] at hk
            cases Option.some.inj ((List.getElem?_range (by rwa [List.length_map])).symm.trans hx)
            obtain ⟨p, d, o, e, ha, hb, B, h⟩ := led_next I hk
            have hk2 : k < 2 ^ 62 := by lia
            refine ⟨_, .name rfl, W.tup (G := ⟨X, D + 1, _, _⟩) (xs := ["part", "depth"]) hD4 rfl rfl (.cons rfl (.cons rfl .nil)) ⟨.lst (by decide) (by decide) rfl, .lst (Int.natCast_nonneg _) (by lia) (pp_at ha), .mk rfl (W.tup (G := ⟨X, D + 1, _, _⟩) (xs := ["other", "deep"]) hD4 rfl rfl (.cons rfl (.cons rfl .nil)) ⟨.lst (by decide) (by decide) rfl, .lst (Int.natCast_nonneg _) (by lia) (pp_at hb), .mk rfl ⟨.shr B.d2, .d (fun hq => ?_) fun hq => ?_⟩⟩)⟩⟩
            · have h := h.elim (fun h => h.2) fun h => absurd hq h.1
              subst h
              exact ⟨.shl B.e2 (B.e3 hb100) (lt_1000 B.o), .shl B.d2 (B.d3 hb100) (lt_1000 B.p), .shl B.d0 (B.d4 hb100) (led_small hq hb100 B.d0), .shr B.e0, KeptA.ints (l := [_, _, _])⟩
            · have h := h.elim (fun h => absurd h.1 hq) fun h => h.2
              exact .mk () h rfl (.rf rfl)
          · rw [List.length_range, List.length_map, List.drop_length] at I; cases I
      · cases hr
end
section
open PySem PySem.W PyProof.Rows PySem.Calls PySem.SeqAt
noncomputable def lookI (ks : List (Int × Int)) (k : Int) : Option Int := (ks.find? fun kv => decide (kv.1 = k)).map (·.2)
noncomputable def caretT (w : List Nat) (p : Nat) : Bool := decide ((w.take (p + 3)).drop p = [40, 41, 41])
noncomputable def caretsF (w : List Nat) : List (Int × Int) := ((List.range (w.length - 2)).filter (caretT w)).foldl (fun ks (p : Nat) => storedI ks (((w.take p).count 41 : Nat) : Int) (p : Int)) []
noncomputable def commonF (a b : List Nat) : List (Int × Int) := ((caretsF a).filter fun kv => (caretsF b).any fun q => q.1 == kv.1).take 1
noncomputable def cutAt (w : List Nat) (p : Int) : List Nat := w.take p.toNat ++ w.drop (p.toNat + 2)
noncomputable def leafAt (w : List Nat) (leaf : Int) : Int := (lookI (caretsF w) leaf).getD 0
noncomputable def bareGo : Nat → List Nat → List Nat → List Nat × List Nat
  | 0, a, b => (a, b)
  | n + 1, a, b => match commonF a b with
    | [] => (a, b)
    | kv :: _ => bareGo n (cutAt a (leafAt a kv.1)) (cutAt b (leafAt b kv.1))
noncomputable def bareF (a b : List Nat) : List Nat × List Nat := let r := bareGo (a.length + 2) (a ++ [41]) (b ++ [41]); (r.1.dropLast, r.2.dropLast)
private theorem storedI_mem {ks : List (Int × Int)} {k v : Int} {x : Int × Int} (h : x ∈ storedI ks k v) : x ∈ ks ∨ x = (k, v) := by
  unfold storedI at h
  split at h
  · obtain ⟨y, hy, rfl⟩ := List.mem_map.mp h
    split
    · rename_i e; rw [← e]; exact .inr rfl
    · exact .inl hy
  · rcases List.mem_append.mp h with h | h
    · exact .inl h
    · exact .inr (List.mem_singleton.mp h)
private theorem foldl_stored {α : Type} {kf vf : α → Int} {C : Int → Prop} : ∀ (l : List α) (ks : List (Int × Int)), (∀ p ∈ l, C (vf p)) → (∀ y ∈ ks, C y.2) → ∀ y ∈ l.foldl (fun ks p => storedI ks (kf p) (vf p)) ks, C y.2
  | [], _, _, h => h
  | p :: l, ks, hl, hk => foldl_stored l _ (fun q hq => hl q (List.mem_cons_of_mem _ hq)) fun y hy => (storedI_mem hy).elim (hk y) fun e => e ▸ hl p List.mem_cons_self
private theorem carets_mem {w : List Nat} {x : Int × Int} (h : x ∈ caretsF w) : ∃ p : Nat, p < w.length - 2 ∧ caretT w p = true ∧ x.2 = p :=
  foldl_stored (C := fun i => ∃ p : Nat, p < w.length - 2 ∧ caretT w p = true ∧ i = p) _ [] (fun p hp => by
    rw [List.mem_filter, List.mem_range] at hp
    exact ⟨p, hp.1, hp.2, rfl⟩) nofun x h
private theorem foldl_len {α : Type} {kf vf : α → Int} : ∀ (l : List α) (ks : List (Int × Int)), (l.foldl (fun ks p => storedI ks (kf p) (vf p)) ks).length ≤ ks.length + l.length
  | [], ks => Nat.le_refl _
  | p :: l, ks => Nat.le_trans (foldl_len l _) (by have := storedI_len ks (kf p) (vf p); rw [List.length_cons]; lia)
private theorem carets_len (w : List Nat) : (caretsF w).length ≤ w.length := by
  have h1 := foldl_len (kf := fun p : Nat => (((w.take p).count 41 : Nat) : Int)) (vf := fun p : Nat => (p : Int)) ((List.range (w.length - 2)).filter (caretT w)) []
  have h2 := List.length_filter_le (caretT w) (List.range (w.length - 2))
  rw [List.length_range] at h2
  exact Nat.le_trans h1 (Nat.le_trans (Nat.le_of_eq (Nat.zero_add _)) (Nat.le_trans h2 (Nat.sub_le ..)))
private theorem lookI_mem {ks : List (Int × Int)} {k v : Int} (h : lookI ks k = some v) : (k, v) ∈ ks := by
  obtain ⟨⟨a, b⟩, h1, h2⟩ := Option.map_eq_some_iff.mp h
  cases h2
  have h3 : decide (a = k) = true := List.find?_some (p := fun kv : Int × Int => decide (kv.1 = k)) h1
  cases of_decide_eq_true h3
  exact List.mem_of_find?_eq_some h1
private theorem lookI_any {ks : List (Int × Int)} {k : Int} (h : (ks.any fun q => q.1 == k) = true) : ∃ v, lookI ks k = some v := by
  unfold lookI
  cases e : ks.find? fun kv => decide (kv.1 = k) with
  | none =>
    rw [List.find?_eq_none] at e
    obtain ⟨x, hx, hk⟩ := List.any_eq_true.mp h
    exact absurd (decide_eq_true (beq_iff_eq.mp hk)) (e x hx)
  | some y => exact ⟨y.2, rfl⟩
private theorem okS_cut {w : List Nat} {p : Int} (h : okS w) : okS (cutAt w p) := okS_app (okS_take h) (okS_drop h)
private theorem cut_len {w : List Nat} {p : Nat} (h : p < w.length - 2) : (cutAt w p).length + 2 = w.length := by
  show (w.take p ++ w.drop (p + 2)).length + 2 = _
  have h2 : p + 2 ≤ w.length := Nat.le_of_lt (Nat.add_lt_of_lt_sub h)
  rw [List.length_append, List.length_take_of_le (Nat.le_trans (Nat.le_add_right p 2) h2), List.length_drop, Nat.add_right_comm, Nat.add_sub_cancel' h2]
structure BareI (r : List Nat × List Nat) (n : Nat) (s : List Nat × List Nat × List Int) : Prop where
  a : okS s.1
  b : okS s.2.1
  la : s.1.length ≤ 901
  lb : s.2.1.length ≤ 901
  h : (s.2.2 = [] ∧ (s.1, s.2.1) = r) ∨ (∃ x, s.2.2 = [x]) ∧ bareGo n s.1 s.2.1 = r ∧ s.1.length < n
inductive BareN (r : List Nat × List Nat) (n : Nat) (a b : List Nat) : Prop
  | stop : commonF a b = [] → BareI r n (a, b, []) → BareN r n a b
  | go (k : Int × Int) (p q : Nat) : commonF a b = [k] → lookI (caretsF a) k.1 = some (p : Int) → lookI (caretsF b) k.1 = some (q : Int) → p < a.length - 2 → q < b.length - 2 → BareI r n (cutAt a p, cutAt b q, [k.1]) → BareN r n a b
private theorem bare_next {r : List Nat × List Nat} {n : Nat} {a b : List Nat} {x : Int} (I : BareI r n (a, b, [x])) : ∃ j, j + 1 = n ∧ BareN r j a b := by
  have h := I.h.elim (fun h => nomatch h.1) fun h => h.2
  cases n with
  | zero => cases h.2
  | succ n =>
    refine ⟨n, rfl, ?_⟩
    have hc : (commonF a b).length ≤ 1 := List.length_take_le _ _
    have hg := h.1
    unfold bareGo at hg
    cases hcm : commonF a b with
    | nil => rw [hcm] at hg; exact .stop hcm ⟨I.a, I.b, I.la, I.lb, .inl ⟨rfl, hg⟩⟩
    | cons k c =>
      have hm : k ∈ commonF a b := by rw [hcm]; exact List.mem_cons_self
      have hm := List.mem_filter.mp (List.mem_of_mem_take hm)
      rw [hcm] at hg hc
      cases List.length_eq_zero_iff.mp (Nat.le_zero.mp (Nat.le_of_succ_le_succ hc))
      obtain ⟨va, hva⟩ := lookI_any (ks := caretsF a) (k := k.1) (List.any_eq_true.mpr ⟨k, hm.1, beq_self_eq_true _⟩)
      obtain ⟨vb, hvb⟩ := lookI_any hm.2
      obtain ⟨p, hp, _, e1⟩ := carets_mem (lookI_mem hva)
      obtain ⟨q, hq, _, e2⟩ := carets_mem (lookI_mem hvb)
      cases e1
      cases e2
      have la : leafAt a k.1 = p := congrArg (fun o => Option.getD o 0) hva
      have lb : leafAt b k.1 = q := congrArg (fun o => Option.getD o 0) hvb
      dsimp only at hg
      rw [la, lb] at hg
      have c1 := cut_len hp
      have c2 := cut_len hq
      exact .go k p q hcm hva hvb hp hq ⟨okS_cut I.a, okS_cut I.b, Nat.le_trans (Nat.le_of_add_right_le (Nat.le_of_eq c1)) I.la, Nat.le_trans (Nat.le_of_add_right_le (Nat.le_of_eq c2)) I.lb, .inr ⟨⟨_, rfl⟩, hg, by have := h.2; (clear h; lia)⟩⟩
noncomputable def bareL (s : (List Nat × List Nat × List Int) × Mem) : Lc := bd "words" (.lst [.str s.1.1, .str s.1.2.1]) (bd "common" (.lst (s.1.2.2.map .int)) [])
private theorem KeptA.eq {m m' g : Mem} {r r' : AV} (e : m' = m ++ g) (h : ∀ M, Frz M m.length m' r' r) : KeptA m r r' m' := by
  subst e; exact .of h
private theorem ItV.lst' {X : Amb} {D : Nat} {tgt : Expr} {m : Mem} {xs ys : List AV} (e : xs = ys) : ItV X D tgt m (.lst xs) ys := e ▸ .lst
noncomputable def caretC (w : List Nat) (p : Nat) : Bool := decide (sl (some (p : Int)) (some ((p : Int) + 3)) w = [40, 41, 41])
private theorem carets_is (w : List Nat) : ((List.range ((w.length : Int) - 2).toNat).filter (caretC w)).foldl (fun ks (p : Nat) => storedI ks (((sl none (some (p : Int)) w).count 41 : Nat) : Int) (p : Int)) [] = caretsF w := by
  have e1 : ((w.length : Int) - 2).toNat = w.length - 2 := by lia
  have e2 : caretC w = caretT w := funext fun p => congrArg (fun l => decide (l = [40, 41, 41])) (sl_both w p (p + 3))
  have e3 : (fun (ks : List (Int × Int)) (p : Nat) => storedI ks (((sl none (some (p : Int)) w).count 41 : Nat) : Int) (p : Int)) = fun ks p => storedI ks (((w.take p).count 41 : Nat) : Int) (p : Int) := funext fun ks => funext fun p => congrArg (fun l => storedI ks ((List.count 41 l : Nat) : Int) (p : Int)) (sl_take w p)
  rw [e1, e2, e3]; rfl
private theorem cut_at (w : List Nat) (p : Nat) : sl none (some (p : Int)) w ++ sl (some ((p : Int) + 2)) none w = cutAt w p := by
  have := sl_drop w (p + 2)
  rw [sl_take]; exact congrArg _ this
private theorem common_is (a b : List Nat) : sl none (some 1) (((caretsF a).filter fun kv => (caretsF b).any fun q => decide (q.1 = kv.1)).map fun kv => AV.int kv.1) = ((commonF a b).map (·.1)).map .int := by
  have e : (fun kv : Int × Int => (caretsF b).any fun q => decide (q.1 = kv.1)) = fun kv => (caretsF b).any fun q => q.1 == kv.1 := rfl
  rw [e, List.map_map, commonF, List.map_take]; exact sl_take _ 1
private theorem op_bare {X : Amb} {D : Nat} (kn : Kn X) (hD : 4 ≤ D) {a0 b0 : List Nat} (za : a0.length ≤ 900) (oa : okS a0) (zb : b0.length ≤ 900) (ob : okS b0) {m : Mem} : Fn X (D + 1) "_law_bare" m [.lst [.str a0, .str b0]] (.lst [.str (bareF a0 b0).1, .str (bareF a0 b0).2]) m := by
  refine (kn.fn 23 171 rfl).mk' kn.lim hD (ps := ["pair"]) [] (by rfl) (fun zz zz zz zz zz => rfl) rfl (W.tup (G := ⟨X, D, _, _⟩) (xs := ["words", "common"]) hD rfl rfl (.cons rfl (.cons rfl .nil)) ⟨.lst (by decide) (by decide) rfl, .addS (by show a0.length + 1 ≤ _; exact dF za rfl), .lst (by decide) (by decide) rfl, .addS (by show b0.length + 1 ≤ _; lia), .mk rfl ?_⟩)
  refine W.whileW (G := ⟨X, D, _, []⟩) hD bareL (fun s => m ++ s.2) (fun n s => BareI (bareGo (a0.length + 2) (a0 ++ [41]) (b0 ++ [41])) n s.1) (a0.length + 2) (.mk ((a0 ++ [41], b0 ++ [41], [0]), []) ⟨okS_app oa ok41, okS_app ob ok41, by rw [List.length_append]; exact Nat.succ_le_succ za, by rw [List.length_append]; exact Nat.succ_le_succ zb, .inr ⟨⟨_, rfl⟩, rfl, by rw [List.length_append]; exact Nat.lt_succ_self _⟩⟩ (List.append_nil m).symm (.cons rfl (.cons rfl .nil))) ?_
  rintro n ⟨⟨a, b, c⟩, g⟩ I
  have la : a.length ≤ 901 := I.la
  have lb : b.length ≤ 901 := I.lb
  have hw : ∀ {x : List Nat}, x ∈ [a, b] → okS x ∧ x.length ≤ 901 := fun hx => (List.mem_cons.mp hx).elim (fun h => h ▸ ⟨I.a, la⟩) fun h => List.mem_singleton.mp h ▸ ⟨I.b, lb⟩
  rcases I.h with ⟨hc, hr⟩ | ⟨⟨x, hc⟩, _⟩
  · have hc : c = [] := hc
    subst hc
    unfold bareF
    dsimp only
    rw [← hr]
    refine .no ⟨.ne (.lst .nil) (.mref (sn_get _ _) .nil) rfl rfl rfl hD, rfl, ?_⟩
    exact OkE.map (G := ⟨X, D, _, _⟩) (xs := [a, b]) (f := .str) (av := .lst [.str a, .str b]) (m1 := sn (m ++ g) (.lst [])) hD (by rfl) (fun zz zz => rfl) .mk .lst (by show 2 ≤ 2 ^ 23; decide) (fun x => .str x.dropLast) (fun x hx => ⟨_, .name rfl, sl_dropLast x ▸ ⟨.neg, .str (Nat.le_trans (hw hx).2 (by decide)), .mk⟩⟩) (KeptA.eq (List.append_assoc m g [.lst []]) fun zz => .lstL (.cons (.str _) (.cons (.str _) .nil)))
  · have hc : c = [x] := hc
    subst hc
    obtain ⟨j, rfl, h⟩ := bare_next I
    refine .go ⟨.ne (.lst (.cons .int .nil)) (.mref (sn_get _ _) .nil) rfl rfl rfl hD, rfl, ?_⟩
    generalize hm1 : sn (m ++ g) (AObj.lst []) = m1
    have hm1 : m1 = m ++ (g ++ [.lst []]) := hm1.symm.trans (List.append_assoc ..)
    refine W.mapA (G := ⟨X, D, _, _⟩) (xs := [a, b]) (f := .str) (av := .lst [.str a, .str b]) (m1 := m1) hD (by rfl) (fun zz zz => rfl) .mk .lst (by show 2 ≤ 2 ^ 23; decide) (fun x => .dct (caretsF x)) (fun x hx => ⟨_, .name rfl, ?_⟩) (b := false) (by rfl) rfl ?_
    · obtain ⟨ox, lx⟩ := hw hx
      have lx2 : x.length ≤ 2 ^ 24 := Nat.le_trans lx (by decide)
      exact OkE.dfilter (G := ⟨X, D, relN _ _, _⟩) (xs := List.range ((x.length : Int) - 2).toNat) (f := fun (i : Nat) => .int i) (av := .rng 0 ((x.length : Int) - 2)) (m1 := m1) hD (by rfl) (fun zz zz => rfl) ⟨.b (kn.bu "len" _ rfl) (.lenS (dB lx rfl)), .t (kn.bu "range" _ rfl) .range, .mk⟩ (.rngZ (by lia) (by lia)) (by rw [List.length_range]; lia) (caretC x) (fun p => (((sl none (some (p : Int)) x).count 41 : Nat) : Int)) (fun p => (p : Int)) (fun p hp => ⟨_, .name rfl, ⟨.str lx2, .eqS (okS_sl ox) (okS_app ok40 (okS_app ok41 ok41)) hD, .mk⟩, fun zz => ⟨⟨.str lx2, .count, .mk⟩, .mk⟩⟩) (by rw [carets_is]; exact .mk)
    · refine OkE.filter (G := ⟨X, D, _, _⟩) (xs := caretsF a) (f := fun kv => .int kv.1) (av := .dct (caretsF a)) (m1 := m1) hD (by rfl) (fun zz zz => rfl) ⟨.lst (by decide) (by decide) rfl, .mk⟩ (.dct kn.sys) (Nat.le_trans (carets_len a) (dB la rfl)) (fun kv => (caretsF b).any fun q => decide (q.1 = kv.1)) (fun kv => .int kv.1) (fun kv hkv => ⟨_, .name rfl, ⟨.lst (by decide) (by decide) rfl, .inD kn.sys, by exact .mk⟩, fun zz => (by exact .mk)⟩) ⟨.lst (by rw [List.length_map]; exact Nat.le_trans (List.length_filter_le ..) (Nat.le_trans (carets_len a) (dB la rfl))), ?_⟩
      cases h with
      | stop hcm I =>
        have e := (common_is a b).trans (congrArg (fun l => (l.map Prod.fst).map AV.int) hcm)
        exact W.forW (G := ⟨X, D, _, _⟩) (σ := Unit) (xs := ([] : List Int)) (f := .int) (m1 := m1) hD (by exact .mk) (.lst' e) (fun zz zz => bareL ((a, b, []), g)) (fun zz zz => m1) (fun zz zz => True) (.mk () trivial rfl (.cons rfl (.cons (congrArg (fun z => some (AV.lst z)) e) .nil))) (fun k x s hx => nomatch hx) (fun s zz => ⟨j, Nat.lt_succ_self _, .mk ((a, b, []), g ++ [.lst []]) I hm1 (.cons rfl (.cons rfl .nil))⟩) (fun zz zz => rfl)
      | go k p q hcm hp hq lp lq I =>
        have e := (common_is a b).trans (congrArg (fun l => (l.map Prod.fst).map AV.int) hcm)
        refine W.forW (G := ⟨X, D, _, _⟩) (σ := Unit) (xs := [k.1]) (f := .int) (m1 := m1) hD (by exact .mk) (.lst' e) (fun i zz => bd "carets" (.lst [.dct (caretsF a), .dct (caretsF b)]) (bareL ((cond (i == 0) a (cutAt a p), cond (i == 0) b (cutAt b q), [k.1]), g))) (fun zz zz => m1) (fun zz zz => True) (.mk () trivial rfl (.cons rfl (.cons rfl (.cons (congrArg (fun z => some (AV.lst z)) e) .nil)))) (fun i x s hx zz => ?_) (fun s zz => ⟨j, Nat.lt_succ_self _, .mk ((cutAt a p, cutAt b q, [k.1]), g ++ [.lst []]) I hm1 (.cons rfl (.cons rfl .nil))⟩) (fun zz zz => rfl)
        cases i with
        | succ i => cases hx
        | zero =>
          cases hx
          refine ⟨_, .name rfl, W.mapA (G := ⟨X, D, _, _⟩) (xs := [((0 : Int), a, p), (1, b, q)]) (f := fun x => .int x.1) (av := .tup [.int 0, .int 1]) (m1 := m1) hD (by rfl) (fun zz zz => rfl) .mk .tup (by show 2 ≤ 2 ^ 23; decide) (fun x => .str (cutAt x.2.1 x.2.2)) (fun x hx => ⟨_, .name rfl, ?_⟩) (b := false) (by rfl) rfl (.mk () trivial rfl (.rf rfl))⟩
          have z0 : (0 : Int) ≤ 0 := by decide
          have z1 : (0 : Int) < 2 ^ 62 := by decide
          have y0 : (0 : Int) ≤ 1 := by decide
          have y1 : (1 : Int) < 2 ^ 62 := by decide
          have sl1 : a.length ≤ 2 ^ 24 := Nat.le_trans la (by decide)
          have sl2 : b.length ≤ 2 ^ 24 := Nat.le_trans lb (by decide)
          rcases List.mem_cons.mp hx with h | h
          · subst h
            exact ⟨.lst z0 z1 rfl, .lst z0 z1 rfl, .key hp, .str sl1, .lst z0 z1 rfl, .lst z0 z1 rfl, .key hp, .str sl1, .addS (Nat.le_trans (Nat.add_le_add (sl_len a) (sl_len a)) (by lia)), cut_at a p ▸ .mk⟩
          · cases List.mem_singleton.mp h
            exact ⟨.lst y0 y1 rfl, .lst y0 y1 rfl, .key hq, .str sl2, .lst y0 y1 rfl, .lst y0 y1 rfl, .key hq, .str sl2, .addS (Nat.le_trans (Nat.add_le_add (sl_len b) (sl_len b)) (by lia)), cut_at b q ▸ .mk⟩
end
section
open PySem PySem.W PyProof.Rows PySem.Calls PySem.SeqAt
noncomputable def dAV (d : Nat) : AV := .int (d : Nat)
private theorem Nat.shr_int (x s : Nat) : ((x : Int)).fdiv (2 ^ s) = ((x / 2 ^ s : Nat) : Int) := by
  have h : (2 : Int) ^ s = ((2 ^ s : Nat) : Int) := by simp
  rw [h, Int.fdiv_eq_ediv_of_nonneg _ (Int.natCast_nonneg _)]; simp
private theorem Nat.shl_int (x s : Nat) : (x : Int) * 2 ^ s = ((x * 2 ^ s : Nat) : Int) := by simp
private theorem castSub (l a : Nat) : ((l + a : Nat) : Int) - (l : Int) = (a : Int) := by rw [Int.natCast_add, Int.add_comm, Int.add_sub_cancel]
private theorem castSubN (l a : Nat) : (((l + a : Nat) : Int) - (l : Int)).toNat = a := by rw [castSub, Int.toNat_natCast]
private theorem half_pack {l c k : Nat} (h : ¬ (l : Int) + 1 = ((l + c : Nat) : Int)) (h2 : (l : Int) < ((l + c : Nat) : Int)) (hk : c ≤ 2 ^ k * 2) : ∃ a b : Nat, 0 < a ∧ 0 < b ∧ a + b = c ∧ a ≤ 2 ^ k ∧ b ≤ 2 ^ k ∧ a = c / 2 := by
  have h3 : 2 ≤ c := by omega
  (clear h h2)
  have h4 := Nat.div_add_mod c 2
  have h5 := Nat.mod_lt c (show 2 > 0 by decide)
  generalize c / 2 = a at h4
  generalize c % 2 = r at h4 h5
  generalize 2 ^ k = K at hk
  exact ⟨a, a + r, by omega, by omega, by omega, by omega, by omega, rfl⟩
private theorem mid_is (l c : Nat) : ((l : Int) + ((l + c : Nat) : Int)).fdiv (2 ^ (1 : Int).toNat) = ((l + c / 2 : Nat) : Int) := by
  rw [Int.fdiv_eq_ediv_of_nonneg _ (by decide)]
  show ((l + (l + c) : Nat) : Int) / 2 = _
  rw [show l + (l + c) = c + l * 2 by omega]
  exact congrArg Int.ofNat ((Nat.add_mul_div_right c l (by decide)).trans (Nat.add_comm ..))
private theorem split_fill {ds : List AV} {l a b : Nat} {d1 d2 : List AV} (h : l + (a + b) ≤ ds.length) (h1 : d1.length = a) :
    (ds.take l ++ d1 ++ ds.drop (l + a)).take (l + a) ++ d2 ++ (ds.take l ++ d1 ++ ds.drop (l + a)).drop (l + a + b) = ds.take l ++ (d1 ++ d2) ++ ds.drop (l + (a + b)) := by
  have h2 : (ds.take l ++ d1).length = l + a := by rw [List.length_append, List.length_take, h1, Nat.min_eq_left (by lia)]
  rw [List.take_append_of_le_length (Nat.le_of_eq h2.symm), List.take_of_length_le (Nat.le_of_eq h2), ← h2, List.drop_append, List.drop_eq_nil_of_le (Nat.le_add_right _ _), Nat.add_sub_cancel_left, List.drop_drop, List.nil_append, h2, Nat.add_assoc]; simp only [List.append_assoc]
structure Inn (n : Nat) (x L R : Int) (len k : Nat) : Prop where
  x0 : 0 ≤ x
  L0 : 0 ≤ L
  LR : L < R
  R' : R ≤ len
  len' : len ≤ 100000
  k' : (R - L).toNat ≤ 2 ^ k
  n' : n * (R - L).toNat ≤ 1000
  x' : x.toNat < 2 ^ (n * (R - L).toNat)
noncomputable def innF (n : Nat) (ds : List AV) (x L R : Int) : List AV := ds.take L.toNat ++ (digsF n (R - L).toNat x.toNat).map dAV ++ ds.drop R.toNat
structure InnS (n : Nat) (x L R : Int) (ds : List AV) (k : Nat) (mid sh up low : Int) : Prop where
  m : (mid - L).natAbs < 2 ^ 63
  s0 : 0 ≤ sh
  s1 : sh ≤ 1000
  u : up.natAbs < 2 ^ 1000
  a : Inn n low L mid ds.length k
  b : Inn n up mid R (innF n ds low L mid).length k
  e : innF n (innF n ds low L mid) up mid R = innF n ds x L R
private theorem inn_one {n : Nat} {x L R : Int} {ds : List AV} {k : Nat} (I : Inn n x L R ds.length k) (h : L + 1 = R) : ds.set L.toNat (.int x) = innF n ds x L R := by
  obtain ⟨x, rfl⟩ := Int.eq_ofNat_of_zero_le I.x0
  obtain ⟨l, rfl⟩ := Int.eq_ofNat_of_zero_le I.L0
  subst h
  have e : ((l : Int) + 1 - l).toNat = 1 := by lia
  have hx := I.x'
  rw [e, Nat.mul_one] at hx
  have hl := I.R'
  unfold innF
  rw [e, digs_one hx, List.set_eq_take_append_cons_drop, if_pos (by lia), show ((l : Int) + 1).toNat = l + 1 from rfl, List.append_assoc]
  rfl
private theorem inn_step {n : Nat} {x L R : Int} {ds : List AV} {k : Nat} (I : Inn n x L R ds.length (k + 1)) (h : ¬ L + 1 = R) :
    InnS n x L R ds k ((L + R).fdiv (2 ^ (1 : Int).toNat)) (((L + R).fdiv (2 ^ (1 : Int).toNat) - L) * n) (x.fdiv (2 ^ (((L + R).fdiv (2 ^ (1 : Int).toNat) - L) * n).toNat)) (Builtin.bitXor x (x.fdiv (2 ^ (((L + R).fdiv (2 ^ (1 : Int).toNat) - L) * n).toNat) * 2 ^ (((L + R).fdiv (2 ^ (1 : Int).toNat) - L) * n).toNat)) := by
  obtain ⟨x, rfl⟩ := Int.eq_ofNat_of_zero_le I.x0
  obtain ⟨l, rfl⟩ := Int.eq_ofNat_of_zero_le I.L0
  obtain ⟨c, rfl⟩ : ∃ c : Nat, R = ((l + c : Nat) : Int) := ⟨(R - l).toNat, by have := I.LR; (clear h; lia)⟩
  have e1 := castSubN l c
  have hk := I.k'
  have hn := I.n'
  have hx := I.x'
  have hR : l + c ≤ ds.length := Int.ofNat_le.mp I.R'
  have hLR := I.LR
  rw [e1] at hk hn hx
  rw [Nat.pow_succ] at hk
  have hx : x < 2 ^ (n * c) := hx
  obtain ⟨a, b, ha, hb, hab, hak, hbk, hac⟩ : ∃ a b : Nat, 0 < a ∧ 0 < b ∧ a + b = c ∧ a ≤ 2 ^ k ∧ b ≤ 2 ^ k ∧ a = c / 2 := half_pack h hLR hk
  have z1 : ((l : Int) + ((l + c : Nat) : Int)).fdiv (2 ^ (1 : Int).toNat) = ((l + a : Nat) : Int) := hac ▸ mid_is l c
  have z2 : (((l + a : Nat) : Int) - (l : Int)) * n = ((n * a : Nat) : Int) := by
    rw [castSub, Int.mul_comm]; exact (Int.natCast_mul n a).symm
  have z3 := castSubN l a
  have z4 : (((l + c : Nat) : Int) - ((l + a : Nat) : Int)).toNat = b := by rw [← hab, ← Nat.add_assoc]; exact castSubN (l + a) b
  have hac' : a ≤ c := hab ▸ Nat.le_add_right a b
  have hla : l + a ≤ ds.length := Nat.le_trans (Nat.add_le_add_left hac' l) hR
  have hlc : l + a < l + c := Nat.add_lt_add_left (hab ▸ Nat.lt_add_of_pos_right hb) l
  rw [z1, z2, Int.toNat_natCast, Nat.shr_int, Nat.shl_int, xor_low]
  have hna : n * a ≤ n * c := Nat.mul_le_mul_left n hac'
  have hsp : n * c = n * a + n * b := by rw [← hab, Nat.mul_add]
  have hd : ((digsF n a (x % 2 ^ (n * a))).map dAV).length = a := by rw [List.length_map, digs_len]
  have hF : innF n ds ((x % 2 ^ (n * a) : Nat) : Int) l ((l + a : Nat) : Int) = ds.take l ++ (digsF n a (x % 2 ^ (n * a))).map dAV ++ ds.drop (l + a) := by
    unfold innF; rw [z3]; rfl
  have hlen : (innF n ds ((x % 2 ^ (n * a) : Nat) : Int) l ((l + a : Nat) : Int)).length = ds.length := by
    rw [hF, List.length_append, List.length_append, hd, List.length_take_of_le (Nat.le_trans (Nat.le_add_right l a) hla), List.length_drop, Nat.add_sub_cancel' hla]
  have hlen' := I.len'
  refine ⟨by rw [castSub, Int.natAbs_natCast]; exact Nat.lt_of_le_of_lt (Nat.le_trans (Nat.le_trans (Nat.le_add_left a l) hla) I.len') (by decide), Int.natCast_nonneg _, Int.ofNat_le.mpr (Nat.le_trans hna hn), ?_, ⟨Int.natCast_nonneg _, Int.natCast_nonneg _, Int.ofNat_lt.mpr (Nat.lt_add_of_pos_right ha), Int.ofNat_le.mpr hla, I.len', by rw [z3]; exact hak, by rw [z3]; exact Nat.le_trans hna hn, by rw [z3]; exact Nat.mod_lt _ (Nat.two_pow_pos _)⟩, ⟨Int.natCast_nonneg _, Int.natCast_nonneg _, Int.ofNat_lt.mpr hlc, by rw [hlen]; exact Int.ofNat_le.mpr hR, by rw [hlen]; exact I.len', by rw [z4]; exact hbk, by rw [z4]; exact Nat.le_trans (hsp ▸ Nat.le_add_left ..) hn, ?_⟩, ?_⟩
  · rw [Int.natAbs_natCast]; exact Nat.lt_of_le_of_lt (Nat.div_le_self _ _) (Nat.lt_of_lt_of_le hx (Nat.pow_le_pow_right (by decide) hn))
  · rw [z4]; exact Nat.div_lt_of_lt_mul (by rw [← Nat.pow_add, ← hsp]; exact hx)
  · rw [hF]
    unfold innF
    rw [z4, e1]
    show (ds.take l ++ _ ++ ds.drop (l + a)).take (l + a) ++ (digsF n b (x / 2 ^ (n * a))).map dAV ++ (ds.take l ++ _ ++ ds.drop (l + a)).drop (l + c) = ds.take l ++ (digsF n c x).map dAV ++ ds.drop (l + c)
    rw [← hab, ← Nat.add_assoc, split_fill (hab.symm ▸ hR) hd, ← List.map_append, ← digs_split, Nat.add_assoc]
noncomputable def fdI : Fd := fdAt (fdAt prog1 4).body 1
noncomputable def fvI (i n : Nat) (f : Addr) : Lc := bd "a_digits" (.mref i) (bd "n" (.int n) (bd "inner" (.ext (.ref f)) []))
private theorem op_inner1 {X : Amb} {q : Str} {cl : List (Str × Addr)} {f : Addr} {i n : Nat} (fa : FnAt X.B fdI q cl .none f) (lim : NoLim X.B) (Fv : FreeK X.B fdI.scope.names cl (fvI i n f)) : ∀ (k : Nat) {D : Nat} (_ : 5 + k ≤ D) {m : Mem} {ds : List AV} {x L R : Int} (_ : m[i]? = some (.lst ds)) (_ : Inn n x L R ds.length k),
    FnV X (D + 1) (.ext (.ref f)) m [.int x, .int L, .int R] .none (m.set i (.lst (innF n ds x L R))) := by
  intro k
  induction k with
  | zero =>
    intro D hD m ds x L R hm I
    have hD4 : 4 ≤ D := by exact Nat.le_of_lt hD
    have h : L + 1 = R := by have := I.k'; have := I.LR; lia
    have hR := I.R'
    have hl := I.len'
    refine fa.mkX lim hD4 (ps := ["x", "L", "R"]) [] (by rfl) Fv (fun zz zz zz zz zz zz zz => rfl) rfl (.d (fun zz => ?_) fun h' => absurd h h')
    exact W.setItR (G := ⟨X, D, _, _⟩) hD4 rfl (.mk hm I.L0 (by (clear h; lia)) (dB hl rfl) (congrArg (fun z => m.set i (.lst z)) (inn_one I h)) .mk)
  | succ k ih =>
    intro D hD m ds x L R hm I
    obtain ⟨D, rfl⟩ : ∃ d, D = d + 1 := ⟨D - 1, by lia⟩
    have hD4 : 4 ≤ D + 1 := by lia
    have hR := I.R'
    have hl := I.len'
    have hL := I.LR
    refine fa.mkX lim hD4 (ps := ["x", "L", "R"]) [] (by rfl) Fv (fun zz zz zz zz zz zz zz => rfl) rfl (.d (fun h => ?_) fun h => ?_)
    · exact W.setItR (G := ⟨X, D + 1, _, _⟩) hD4 rfl (.mk hm I.L0 (by (clear h; lia)) (dB hl rfl) (congrArg (fun z => m.set i (.lst z)) (inn_one I h)) .mk)
    · have s := inn_step I h
      have hil : i < m.length := (List.getElem?_eq_some_iff.mp hm).1
      refine ⟨.shr (by decide), .mul (.inl s.m), .shr s.s0, .shl s.s0 s.s1 s.u, .xor, ih (by lia) hm s.a, .mk ⟨ih (by lia) (List.getElem?_set_self hil) s.b, .mk ?_⟩⟩
      rw [List.set_set, s.e]
      exact .mk
end
section
open PySem PySem.W PyProof.Rows PySem.Calls PySem.SeqAt
noncomputable def cntF (a n : Nat) : Nat := (Builtin.Int.intBits a + n - 1) / n
private theorem cnt_mul {a n : Nat} (h : 1 ≤ n) : Builtin.Int.intBits a ≤ n * cntF a n ∧ n * cntF a n ≤ Builtin.Int.intBits a + n - 1 := by
  unfold cntF
  have h1 := Nat.div_add_mod (Builtin.Int.intBits a + n - 1) n
  have h2 := Nat.mod_lt (Builtin.Int.intBits a + n - 1) h
  (clear h; omega)
private theorem lt_bits (a : Nat) : a < 2 ^ Builtin.Int.intBits a := by
  have := (intBits_le_iff (m := Builtin.Int.intBits a) (x := (a : Int))).mp (Nat.le_refl _)
  simpa using this
private theorem cnt_div {a n : Nat} (h : 1 ≤ n) : (((Builtin.Int.intBits (a : Int) : Nat) : Int) + n - 1).fdiv n = ((cntF a n : Nat) : Int) := by
  rw [Int.fdiv_eq_ediv_of_nonneg _ (Int.natCast_nonneg _), show ((Builtin.Int.intBits (a : Int) : Nat) : Int) + n - 1 = ((Builtin.Int.intBits (a : Int) + n - 1 : Nat) : Int) from (Int.natCast_sub (Nat.le_trans h (Nat.le_add_left ..))).symm]
  unfold cntF; simp
private theorem cnt_zero {n : Nat} (h : 1 ≤ n) : cntF 0 n = 0 := by
  unfold cntF
  exact Nat.div_eq_of_lt (by have : Builtin.Int.intBits ((0 : Nat) : Int) = 0 := rfl; omega)
private theorem inn_all {a n : Nat} (h : 1 ≤ n) (ha : a ≠ 0) (hc : cntF a n ≤ 64) (hn : n * cntF a n ≤ 1000) : Inn n a 0 ((cntF a n : Nat) : Int) (cntF a n) 6 := by
  have c1 := (cnt_mul (a := a) h).1
  have hp : 0 < cntF a n := Nat.pos_of_ne_zero fun e => by
    have := lt_bits a
    rw [e, Nat.mul_zero] at c1
    rw [Nat.le_zero.mp c1] at this; lia
  refine ⟨Int.natCast_nonneg _, Int.le_refl _, by exact Int.ofNat_lt.mpr hp, Int.le_refl _, by exact dB hc rfl, by exact hc, by rw [Int.sub_zero]; exact hn, ?_⟩
  rw [Int.sub_zero]; exact Nat.lt_of_lt_of_le (lt_bits a) (Nat.pow_le_pow_right (by decide) c1)
private theorem KeptA.digs {m mF : Mem} {l : List Nat} (h : mF = sn m (.lst (l.map dAV))) : KeptA m (.lst (l.map dAV)) (.mref m.length) mF := by
  subst h
  exact .sn1 fun M => .mrefL (Nat.le_refl _) (sn_get _ _) (.map (f := dAV) (g := dAV) (fun x => .int _) _)
private theorem inn_full {n a : Nat} {ds : List AV} : innF n ds a 0 (ds.length : Int) = (digsF n ds.length a).map dAV := by
  show ds.take 0 ++ (digsF n ((ds.length : Int) - 0).toNat a).map dAV ++ ds.drop ds.length = _
  rw [List.drop_length, List.append_nil, Int.sub_zero]; rfl
private theorem i2d_tail {X : Amb} {D : Nat} (kn : KnC X) (hD : 12 ≤ D) {a n : Nat} (h1 : 1 ≤ n) (hc : cntF a n ≤ 64) (hnc : n * cntF a n ≤ 1000) {m : Mem} {ds : List AV} (hds : ds.length = cntF a n) :
    WE X (D + 1) (fdAt prog1 4).scope.names (.ref 34) ("_int2digits" ++ ".<locals>.") ((fdAt prog1 4).body.drop 1) (bd "a_digits" (.mref m.length) (bd "a" (.int a) (bd "n" (.int n) []))) (sn m (.lst ds)) (Ret (KeptA m (.lst ((digsF n (cntF a n) a).map dAV)))) := by
  have hD4 : 4 ≤ D + 1 := by exact dE hD rfl
  refine .def kn.mi (qual := "_int2digits.<locals>.inner") rfl (by rfl) (by rfl) (by rfl) rfl rfl (fun zz => rfl) (fun pq h zz zz => by cases List.mem_singleton.mp h; rfl) ⟨_, List.mem_singleton.mpr rfl, rfl⟩ (fun f => by rfl) fun X' cl f k => ?_
  have kn' : Kn X' := kn.toKn.up k.b
  refine wpS_ok (G := ⟨X', D + 1, _, []⟩) (k := 40) (n := 40) hD4 (.mk (fun h => ?_) fun h => ?_)
  · have ha : a ≠ 0 := fun e => by subst e; cases h
    have I := inn_all h1 ha hc hnc
    rw [← hds] at I ⊢
    exact ⟨.b (kn'.bu "len" _ rfl) (.lenM (sn_get m _) (by lia)), op_inner1 k.f kn'.lim (k.v.weak (.cons rfl (.cons rfl (.cons rfl .nil)))) 6 (Nat.le_of_lt hD) (sn_get m _) I, .mk (.digs ((sn_set m _ _).trans (congrArg (fun z => sn m (.lst z)) inn_full)))⟩
  · have ha : a = 0 := by simpa using h
    subst ha
    rw [cnt_zero h1] at hds ⊢
    cases List.eq_nil_of_length_eq_zero hds
    exact .digs rfl
private theorem op_int2digits {X : Amb} {D : Nat} (kn : KnC X) (hD : 13 ≤ D) {a n : Nat} (h1 : 1 ≤ n) (hn : n ≤ 400) (hc : cntF a n ≤ 64) (hnc : n * cntF a n ≤ 1000) {m : Mem} : Fn X (D + 1) "_int2digits" m [.int a, .int n] (.lst ((digsF n (cntF a n) a).map dAV)) m := by
  obtain ⟨D, rfl⟩ : ∃ d, D = d + 1 := ⟨D - 1, by lia⟩
  have hD4 : 4 ≤ D + 1 := by exact dA hD rfl
  refine kn.ci.mk' kn.lim hD4 (ps := ["a", "n"]) [100030] (pre := (fdAt prog1 4).body.take 1) (rest := (fdAt prog1 4).body.drop 1) rfl (by rfl) (fun zz zz zz zz zz zz => rfl) rfl ?_
  exact ⟨.bits, .of .add, .of .sub, .of (.div (by lia) (by (clear h1; omega))), .mul (by simp) (by rw [cnt_div h1]; lia) (by rw [cnt_div h1]; exact Int.natCast_nonneg _) (by rw [cnt_div h1, Int.toNat_natCast]; show 1 * _ ≤ _; lia), i2d_tail kn (dC hD rfl) h1 hc hnc (by rw [cnt_div h1, Int.toNat_natCast]; simp)⟩
end
section
open PySem PySem.W PyProof.Rows PySem.Calls PySem.SeqAt
noncomputable def fdO : Fd := fdAt (fdAt prog1 5).body 0
noncomputable def fvO (j n : Nat) (f : Addr) : Lc := bd "digits" (.mref j) (bd "n" (.int n) (bd "inner" (.ext (.ref f)) []))
structure Inn2 (n : Nat) (ds : List Nat) (L R : Int) (k : Nat) : Prop where
  L0 : 0 ≤ L
  LR : L < R
  R' : R ≤ ds.length
  len : ds.length ≤ 64
  k' : (R - L).toNat ≤ 2 ^ k
  n' : n * ds.length ≤ 900
  d : ∀ d ∈ ds, d < 2 ^ n
noncomputable def ofD (n : Nat) (ds : List Nat) (L R : Int) : Int := (ofDigs n ((ds.take R.toNat).drop L.toNat) : Nat)
structure Inn2S (n : Nat) (ds : List Nat) (L R : Int) (k : Nat) (mid sh : Int) : Prop where
  m : (mid - L).natAbs < 2 ^ 63
  s0 : 0 ≤ sh
  s1 : sh ≤ 1000
  u : (ofD n ds mid R).natAbs < 2 ^ 1000
  a : Inn2 n ds mid R k
  b : Inn2 n ds L mid k
  e : ofD n ds mid R * 2 ^ sh.toNat + ofD n ds L mid = ofD n ds L R
private theorem inn2_one {n : Nat} {ds : List Nat} {L R : Int} {k : Nat} (I : Inn2 n ds L R k) (h : L + 1 = R) : (ds.map dAV)[L.toNat]? = some (.int (ofD n ds L R)) := by
  obtain ⟨l, rfl⟩ := Int.eq_ofNat_of_zero_le I.L0
  subst h
  have hl : l < ds.length := by have := I.R'; lia
  have e : (ds.take (l + 1)).drop l = [ds[l]] := by
    rw [List.take_add_one, List.getElem?_eq_getElem hl, List.drop_append, List.length_take, Nat.min_eq_left (Nat.le_of_lt hl), Nat.sub_self, List.drop_eq_nil_of_le (by rw [List.length_take]; exact Nat.min_le_left _ _)]; rfl
  show (ds.map dAV)[l]? = some (.int (ofDigs n ((ds.take (l + 1)).drop l) : Nat))
  rw [e, List.getElem?_map, List.getElem?_eq_getElem hl]
  simp [ofDigs, dAV]
private theorem inn2_step {n : Nat} {ds : List Nat} {L R : Int} {k : Nat} (I : Inn2 n ds L R (k + 1)) (h : ¬ L + 1 = R) : Inn2S n ds L R k ((L + R).fdiv (2 ^ (1 : Int).toNat)) (((L + R).fdiv (2 ^ (1 : Int).toNat) - L) * n) := by
  obtain ⟨l, rfl⟩ := Int.eq_ofNat_of_zero_le I.L0
  obtain ⟨c, rfl⟩ : ∃ c : Nat, R = ((l + c : Nat) : Int) := ⟨(R - l).toNat, by have := I.LR; (clear h; lia)⟩
  have e1 := castSubN l c
  have hk := I.k'
  have hn := I.n'
  have hR : l + c ≤ ds.length := Int.ofNat_le.mp I.R'
  have hz := I.len
  have hLR := I.LR
  rw [e1, Nat.pow_succ] at hk
  obtain ⟨a, b, ha, hb, hab, hak, hbk, hac⟩ : ∃ a b : Nat, 0 < a ∧ 0 < b ∧ a + b = c ∧ a ≤ 2 ^ k ∧ b ≤ 2 ^ k ∧ a = c / 2 := half_pack h hLR hk
  have z1 : ((l : Int) + ((l + c : Nat) : Int)).fdiv (2 ^ (1 : Int).toNat) = ((l + a : Nat) : Int) := hac ▸ mid_is l c
  have z2 : (((l + a : Nat) : Int) - (l : Int)) * n = ((n * a : Nat) : Int) := by
    rw [castSub, Int.mul_comm]; exact (Int.natCast_mul n a).symm
  have z3 := castSubN l a
  have z4 : (((l + c : Nat) : Int) - ((l + a : Nat) : Int)).toNat = b := by rw [← hab, ← Nat.add_assoc]; exact castSubN (l + a) b
  have hac' : a ≤ c := hab ▸ Nat.le_add_right a b
  have hla : l + a ≤ ds.length := Nat.le_trans (Nat.add_le_add_left hac' l) hR
  have hlc : l + a < l + c := Nat.add_lt_add_left (hab ▸ Nat.lt_add_of_pos_right hb) l
  rw [z1, z2]
  have hna : n * a ≤ n * ds.length := Nat.mul_le_mul_left n (Nat.le_trans (Nat.le_add_left a l) hla)
  refine ⟨by rw [castSub, Int.natAbs_natCast]; exact Nat.lt_of_le_of_lt (Nat.le_trans (Nat.le_trans (Nat.le_add_left a l) hla) hz) (by decide), Int.natCast_nonneg _, Int.ofNat_le.mpr (Nat.le_trans hna (dB hn rfl)), ?_, ⟨Int.natCast_nonneg _, Int.ofNat_lt.mpr hlc, Int.ofNat_le.mpr hR, hz, by rw [z4]; exact hbk, hn, I.d⟩, ⟨Int.natCast_nonneg _, Int.ofNat_lt.mpr (Nat.lt_add_of_pos_right ha), Int.ofNat_le.mpr hla, hz, by rw [z3]; exact hak, hn, I.d⟩, ?_⟩
  · show (((ofDigs n ((ds.take (l + c)).drop (l + a)) : Nat) : Int)).natAbs < _
    rw [Int.natAbs_natCast]
    refine Nat.lt_of_lt_of_le (ofDigs_lt n _ fun d hd => I.d d (List.mem_of_mem_take (List.mem_of_mem_drop hd))) (Nat.pow_le_pow_right (by decide) ?_)
    rw [List.length_drop]
    exact Nat.le_trans (Nat.mul_le_mul_left n (Nat.le_trans (Nat.sub_le ..) (List.length_take_le' ..))) (Nat.le_trans hn (by decide))
  · show ((ofDigs n ((ds.take (l + c)).drop (l + a)) : Nat) : Int) * 2 ^ ((n * a : Nat) : Int).toNat + ((ofDigs n ((ds.take (l + a)).drop l) : Nat) : Int) = ((ofDigs n ((ds.take (l + c)).drop l) : Nat) : Int)
    have e2 : (ds.take (l + c)).drop l = (ds.take (l + a)).drop l ++ (ds.take (l + c)).drop (l + a) := by
      have h1 : ds.take (l + a) = (ds.take (l + c)).take (l + a) := by rw [List.take_take, Nat.min_eq_left (Nat.le_of_lt hlc)]
      rw [h1]
      generalize ds.take (l + c) = t
      rw [List.drop_take, ← List.drop_drop, Nat.add_sub_cancel_left, List.take_append_drop]
    have e3 : ((ds.take (l + a)).drop l).length = a := by rw [List.length_drop, List.length_take_of_le hla, Nat.add_sub_cancel_left]
    rw [e2, ofDigs_app, e3, Int.toNat_natCast]
    simp [Int.mul_comm, Int.add_comm]
private theorem op_inner2 {X : Amb} {q : Str} {cl : List (Str × Addr)} {f : Addr} {j n : Nat} (fa : FnAt X.B fdO q cl .none f) (lim : NoLim X.B) (Fv : FreeK X.B fdO.scope.names cl (fvO j n f)) {m : Mem} {ds : List Nat} (hm : m[j]? = some (.lst (ds.map dAV))) : ∀ (k : Nat) {D : Nat} (_ : 5 + k ≤ D) {L R : Int} (_ : Inn2 n ds L R k),
    FnV X (D + 1) (.ext (.ref f)) m [.int L, .int R] (.int (ofD n ds L R)) m := by
  intro k
  induction k with
  | zero =>
    intro D hD L R I
    have h : L + 1 = R := by have := I.k'; have := I.LR; lia
    have := I.R'
    have := I.len
    exact fa.mkX lim (Nat.le_of_lt hD) (ps := ["L", "R"]) [] (by rfl) Fv (fun zz zz zz zz zz zz => rfl) rfl (.d (fun zz => ⟨.mut hm I.L0 (by (clear h; lia)) (inn2_one I h), .mk⟩) fun h' => absurd h h')
  | succ k ih =>
    intro D hD L R I
    obtain ⟨D, rfl⟩ : ∃ d, D = d + 1 := ⟨D - 1, by lia⟩
    have := I.R'
    have := I.len
    have := I.LR
    refine fa.mkX lim (by lia) (ps := ["L", "R"]) [] (by rfl) Fv (fun zz zz zz zz zz zz => rfl) rfl (.d (fun h => ⟨.mut hm I.L0 (by (clear h; lia)) (inn2_one I h), .mk⟩) fun h => ?_)
    have s := inn2_step I h
    exact ⟨.shr (by decide), .mul (.inl s.m), ih (by lia) s.a, .shl s.s0 s.s1 s.u, ih (by lia) s.b, s.e ▸ .mk⟩
private theorem inn2_all {n : Nat} {ds : List Nat} (h0 : 0 < ds.length) (hz : ds.length ≤ 64) (hn : n * ds.length ≤ 900) (hd : ∀ d ∈ ds, d < 2 ^ n) : Inn2 n ds 0 ds.length 6 := ⟨Int.le_refl _, by exact Int.ofNat_lt.mpr h0, Int.le_refl _, hz, by exact hz, hn, hd⟩
private theorem op_digits2int {X : Amb} {D : Nat} (kn : KnC X) (hD : 13 ≤ D) {j n : Nat} {m : Mem} {ds : List Nat} (hm : m[j]? = some (.lst (ds.map dAV))) (hz : ds.length ≤ 64) (hn : n * ds.length ≤ 900) (hd : ∀ d ∈ ds, d < 2 ^ n) : Fn X (D + 1) "_digits2int" m [.mref j, .int n] (.int (ofDigs n ds)) m := by
  obtain ⟨D, rfl⟩ : ∃ d, D = d + 1 := ⟨D - 1, by lia⟩
  have hD4 : 4 ≤ D + 1 := by exact dA hD rfl
  refine kn.cd.mk' kn.lim hD4 (ps := ["digits", "n"]) [] (pre := []) (rest := (fdAt prog1 5).body) rfl (by rfl) (fun zz zz zz zz zz zz => rfl) rfl ?_
  refine WE.def kn.md (qual := "_digits2int.<locals>.inner") rfl (by rfl) (by rfl) (by rfl) rfl rfl (fun zz => rfl) (fun pq h zz zz => by cases List.mem_singleton.mp h; rfl) ⟨_, List.mem_singleton.mpr rfl, rfl⟩ (fun f => by rfl) fun X' cl f k => ?_
  have kn' : Kn X' := kn.toKn.up k.b
  have e : ofD n ds 0 ((ds.map dAV).length : Nat) = (ofDigs n ds : Nat) := by
    rw [List.length_map]
    show ((ofDigs n ((ds.take ds.length).drop 0) : Nat) : Int) = _
    rw [List.take_length]; rfl
  refine wpS_ok (G := ⟨X', D + 1, _, []⟩) (k := 40) (n := 40) hD4 ⟨.mref hm (by rw [List.length_map]; exact dB hz rfl), .int (ofDigs n ds : Nat), m, fun h => ?_, fun h => ?_, .i⟩
  · have h0 : 0 < ds.length := by
      cases ds with
      | nil => cases h
      | cons d ds => exact Nat.succ_pos _
    have I := inn2_all h0 hz hn hd
    rw [← List.length_map (f := dAV)] at I
    exact ⟨.b (kn'.bu "len" _ rfl) (.lenM hm (by rw [List.length_map]; exact dB hz rfl)), op_inner2 k.f kn'.lim (k.v.weak (.cons rfl (.cons rfl (.cons rfl .nil)))) hm 6 (dC hD rfl) I, e ▸ .mk⟩
  · cases ds with
    | nil => exact .mk
    | cons d ds => cases h
end
section
open PySem PySem.W PyProof.Rows PySem.Calls PySem.SeqAt
private theorem op_div2n1n {X : Amb} {D : Nat} (kn : KnC X) (hD : 4 ≤ D) {a b n : Int} (h1 : (Builtin.Int.intBits a : Int) - n ≤ 4000) (h2 : b ≠ 0) (h3 : b.natAbs < 1073741824) {m : Mem} : Fn X (D + 1) "_div2n1n" m [.int a, .int b, .int n] (.tup [.int (a.fdiv b), .int (a.fmod b)]) m :=
  (kn.fn 2 21 rfl).mk' kn.lim hD (ps := ["a", "b", "n"]) [] (by rfl) (fun zz zz zz zz zz zz zz => rfl) rfl ⟨.bits, kn.dl, .d (fun zz => ⟨.b (kn.bu "divmod" _ rfl) (.divmod h2 h3), .same fun zz => .tupL (.cons (.int _) (.cons (.int _) .nil))⟩) fun h => absurd h1 h⟩
noncomputable def divStep (n b : Nat) (st : List Nat × Nat) (d : Nat) : List Nat × Nat := (st.1 ++ [(st.2 * 2 ^ n + d) / b], (st.2 * 2 ^ n + d) % b)
noncomputable def divAt (n b : Nat) (l : List Nat) (k : Nat) : List Nat × Nat := (l.take k).foldl (divStep n b) ([], 0)
private theorem divAt_succ {n b : Nat} {l : List Nat} {k d : Nat} (h : l[k]? = some d) : divAt n b l (k + 1) = divStep n b (divAt n b l k) d := foldl_take_succ _ _ h
private theorem divAt_inv {n b : Nat} (hb : 0 < b) (hn : b ≤ 2 ^ n) {l : List Nat} (hl : ∀ d ∈ l, d < 2 ^ n) : ∀ k, k ≤ l.length → (divAt n b l k).2 < b ∧ (divAt n b l k).1.length = k ∧ (∀ q ∈ (divAt n b l k).1, q < 2 ^ n) ∧ ofDigs n (l.take k).reverse = ofDigs n (divAt n b l k).1.reverse * b + (divAt n b l k).2
  | 0, _ => by simp [divAt, ofDigs, hb]
  | k + 1, hk => by
    obtain ⟨h1, h2, h3, h4⟩ := divAt_inv hb hn hl k (Nat.le_of_lt hk)
    have hd : l[k]? = some l[k] := List.getElem?_eq_getElem (hk)
    have hdl := hl l[k] (List.getElem_mem _)
    rw [divAt_succ hd]
    generalize l[k] = d at *
    generalize hst : divAt n b l k = st at *
    obtain ⟨qs, r⟩ := st
    dsimp only at h1 h2 h3 h4
    unfold divStep
    dsimp only
    have hq : (r * 2 ^ n + d) / b < 2 ^ n := by
      refine Nat.div_lt_of_lt_mul ?_
      have h5 : r + 1 ≤ b := h1
      have h6 := Nat.mul_le_mul_right (2 ^ n) h5
      rw [Nat.succ_mul] at h6
      lia
    refine ⟨Nat.mod_lt _ hb, by simp [h2], fun q hq' => ?_, ?_⟩
    · rcases List.mem_append.mp hq' with h | h
      · exact h3 q h
      · simp at h; subst h; exact hq
    · have ht : l.take (k + 1) = l.take k ++ [d] := by rw [List.take_add_one, hd]; rfl
      rw [ht, List.reverse_append, List.reverse_append]
      simp only [List.reverse_cons, List.reverse_nil, List.nil_append, List.singleton_append, ofDigs]
      rw [h4, Nat.mul_add, Nat.add_mul]
      have h7 := Nat.div_add_mod (r * 2 ^ n + d) b
      have h8 : 2 ^ n * (ofDigs n qs.reverse * b) = 2 ^ n * ofDigs n qs.reverse * b := by rw [Nat.mul_assoc]
      have h9 : 2 ^ n * r = r * 2 ^ n := Nat.mul_comm _ _
      rw [h8, h9, Nat.mul_comm ((r * 2 ^ n + d) / b) b]
      lia
structure DmP (a b n : Nat) : Prop where
  n1 : 1 ≤ n
  n2 : n ≤ 30
  bn : b < 2 ^ n
  c64 : cntF a n ≤ 64
  nc : n * cntF a n ≤ 900
  q : a / b = ofDigs n (divAt n b (digsF n (cntF a n) a).reverse (cntF a n)).1.reverse
  r : a % b = (divAt n b (digsF n (cntF a n) a).reverse (cntF a n)).2
private theorem dmP {a b : Nat} (ha : a < 2 ^ 60) (hb : 0 < b) (hb2 : b < 1073741824) : DmP a b (Builtin.Int.intBits (b : Int)) := by
  generalize hn : Builtin.Int.intBits (b : Int) = n
  have hbn : b < 2 ^ n := by rw [← hn]; exact lt_bits b
  have hn1 : 1 ≤ n := by
    rcases Nat.eq_zero_or_pos n with h | h
    · rw [h] at hbn; exact absurd hb (Nat.not_lt.mpr (Nat.le_of_lt_succ hbn))
    · exact h
  have hn2 : n ≤ 30 := by rw [← hn]; exact intBits_le_iff.mpr (by rw [Int.natAbs_natCast]; exact hb2)
  have ha60 : Builtin.Int.intBits (a : Int) ≤ 60 := intBits_le_iff.mpr (by rw [Int.natAbs_natCast]; exact ha)
  obtain ⟨c1, c2⟩ := cnt_mul (a := a) hn1
  have hc64 : cntF a n ≤ 64 := by
    rcases hz : cntF a n with _ | j
    · exact Nat.zero_le _
    · rw [hz, Nat.mul_succ] at c2
      have : 1 * j ≤ n * j := Nat.mul_le_mul_right _ hn1
      (clear hz; lia)
  have hlt : ∀ d ∈ (digsF n (cntF a n) a).reverse, d < 2 ^ n := fun d hd => digs_lt n _ a d (List.mem_reverse.mp hd)
  have hlen : (digsF n (cntF a n) a).reverse.length = cntF a n := by rw [List.length_reverse, digs_len]
  obtain ⟨i1, i2, i3, i4⟩ := divAt_inv (n := n) (b := b) hb (Nat.le_of_lt hbn) hlt (cntF a n) (Nat.le_of_eq hlen.symm)
  rw [List.take_of_length_le (Nat.le_of_eq hlen), List.reverse_reverse, ofDigs_digs, Nat.mod_eq_of_lt (Nat.lt_of_lt_of_le (lt_bits a) (Nat.pow_le_pow_right (by decide) c1))] at i4
  have := (Nat.div_mod_unique (a := a) (b := b) (c := (divAt n b (digsF n (cntF a n) a).reverse (cntF a n)).2) (d := ofDigs n (divAt n b (digsF n (cntF a n) a).reverse (cntF a n)).1.reverse) hb).mpr ⟨by rw [Nat.mul_comm b, Nat.add_comm]; exact i4.symm, i1⟩
  exact ⟨hn1, hn2, hbn, hc64, by lia, this.1, this.2⟩
structure DmS (n b : Nat) (st : List Nat × Nat) (d : Nat) (x : Int) : Prop where
  r : (st.2 : Int).natAbs < 2 ^ 1000
  bits : (Builtin.Int.intBits x : Int) - n ≤ 4000
  q : x.fdiv b = ((st.2 * 2 ^ n + d) / b : Nat)
  m : x.fmod b = ((st.2 * 2 ^ n + d) % b : Nat)
private theorem dmS {n b : Nat} {st : List Nat × Nat} {d : Nat} (hn : n ≤ 30) (hb : b < 2 ^ n) (hr : st.2 < b) (hd : d < 2 ^ n) : DmS n b st d ((st.2 : Int) * 2 ^ (n : Int).toNat + d) := by
  have p30 : 2 ^ n ≤ 2 ^ 30 := Nat.pow_le_pow_right (by decide) hn
  have e : (st.2 : Int) * 2 ^ (n : Int).toNat + d = ((st.2 * 2 ^ n + d : Nat) : Int) := by rw [Int.toNat_natCast, Nat.shl_int]; rfl
  have hb0 : (0 : Int) ≤ b := Int.natCast_nonneg _
  rw [e]
  refine ⟨?_, ?_, ?_, ?_⟩
  · rw [Int.natAbs_natCast]
    exact Nat.lt_of_lt_of_le (Nat.lt_of_lt_of_le (Nat.lt_trans hr hb) p30) (Nat.pow_le_pow_right (by decide) (by decide))
  · have : Builtin.Int.intBits ((st.2 * 2 ^ n + d : Nat) : Int) ≤ 70 := intBits_le_iff.mpr (by
      rw [Int.natAbs_natCast]
      have : st.2 * 2 ^ n ≤ 2 ^ 30 * 2 ^ 30 := Nat.mul_le_mul (by lia) p30
      have e2 : (2 : Nat) ^ 30 * 2 ^ 30 = 2 ^ 60 := by decide
      have e3 : (2 : Nat) ^ 60 + 2 ^ 30 < 2 ^ 70 := by decide
      (clear e; lia))
    (clear hn; omega)
  · rw [Int.fdiv_eq_ediv_of_nonneg _ hb0]; rfl
  · rw [Int.fmod_eq_emod_of_nonneg _ hb0]; rfl
private theorem dm_loop {X : Amb} {D : Nat} (kn : KnC X) (hD : 13 ≤ D) {b n : Nat} {l : List Nat} (hb : 0 < b) (hb2 : b < 1073741824) (hn : n ≤ 30) (hbn : b < 2 ^ n) (hl : ∀ d ∈ l, d < 2 ^ n) (hz : l.length ≤ 64) (hnz : n * l.length ≤ 900) {m : Mem} :
    W X (D + 1) (fdAt prog1 6).scope.names ((fdAt prog1 6).body.drop 4) (bd "q_digits" (.mref m.length) (bd "r" (.int 0) (bd "a_digits" (.lst (l.reverse.map dAV)) (bd "n" (.int n) (bd "b" (.int b) []))))) (sn m (.lst [])) (Ret (KeptA m (.tup [.int (ofDigs n (divAt n b l l.length).1.reverse : Nat), .int ((divAt n b l l.length).2 : Nat)]))) := by
  have hD4 : 4 ≤ D + 1 := by exact dE hD rfl
  have hinv := divAt_inv (n := n) (b := b) hb (Nat.le_of_lt hbn) hl
  have hb0 : (b : Int) ≠ 0 := by lia
  have hb3 : (b : Int).natAbs < 1073741824 := by rw [Int.natAbs_natCast]; exact hb2
  have hrev : (l.reverse.map dAV).reverse = l.map dAV := by rw [List.map_reverse, List.reverse_reverse]
  refine W.forP (G := ⟨X, D + 1, _, []⟩) (σ := Unit) (xs := l) (f := dAV) hD4 (hrev ▸ .reversed (kn.bu "reversed" _ rfl) (.cons (fun zz => rfl) (.var rfl) .nil) rfl) (fun k zz => bd "r" (.int ((divAt n b l k).2 : Nat)) (bd "q_digits" (.mref m.length) (bd "n" (.int n) (bd "b" (.int b) [])))) (fun k zz => sn m (.lst ((divAt n b l k).1.map dAV))) (fun zz zz => True) (.mk () trivial rfl (.rf rfl)) (fun k d s hx zz => ?_) (fun s zz => ?_) (fun zz zz => rfl)
  · have hk := (List.getElem?_eq_some_iff.mp hx).1
    have h := hinv k (Nat.le_of_lt hk)
    have S := dmS (st := divAt n b l k) hn hbn h.1 (hl d (List.mem_of_getElem? hx))
    have e := divAt_succ (n := n) (b := b) hx
    refine ⟨_, .name rfl, W.tup (G := ⟨X, D + 1, _, _⟩) (xs := ["q_digit", "r"]) hD4 rfl rfl (.cons rfl (.cons rfl .nil)) ⟨.shl (Int.natCast_nonneg _) (by lia) S.r, op_div2n1n kn (dA hD rfl) S.bits hb0 hb3, .mk rfl ⟨.appendN (by rw [List.length_map]; lia), .mk (.mk () trivial ?_ (.cons ?_ (.cons rfl (.cons rfl (.cons rfl .nil)))))⟩⟩⟩
    · rw [e]
      show sn m (.lst (_ ++ [_])) = sn m (.lst (((divAt n b l k).1 ++ [_]).map dAV))
      rw [List.map_append, S.q]; rfl
    · rw [e]; exact congrArg (fun z => some (AV.int z)) S.m
  · have h := hinv l.length (Nat.le_refl _)
    exact ⟨.reverse (sn_get _ _) (by rw [List.length_map, h.2.1]; exact dB hz rfl) ((sn_set _ _ _).trans (congrArg (fun z => sn m (.lst z)) List.map_reverse.symm)), .mk ⟨op_digits2int kn hD (sn_get _ _) (by rw [List.length_reverse, h.2.1]; exact hz) (by rw [List.length_reverse, h.2.1]; exact hnz) (fun d hd => h.2.2.1 d (List.mem_reverse.mp hd)), .sn1 fun M => .tupL (.cons (.int _) (.cons (.int _) .nil))⟩⟩
private theorem op_divmod_pos {X : Amb} {D : Nat} (kn : KnC X) (hD : 14 ≤ D) {a b : Nat} (ha : a < 2 ^ 60) (hb : 0 < b) (hb2 : b < 1073741824) {m : Mem} : Fn X (D + 1) "_divmod_pos" m [.int a, .int b] (.tup [.int (a / b : Nat), .int (a % b : Nat)]) m := by
  obtain ⟨D, rfl⟩ : ∃ d, D = d + 1 := ⟨D - 1, by lia⟩
  have hD4 : 4 ≤ D + 1 := by exact dA hD rfl
  have H := dmP ha hb hb2
  have hlen : (digsF (Builtin.Int.intBits (b : Int)) (cntF a (Builtin.Int.intBits (b : Int))) a).reverse.length = cntF a (Builtin.Int.intBits (b : Int)) := by rw [List.length_reverse, digs_len]
  have t := dm_loop kn (D := D) (dC hD rfl) hb hb2 H.n2 H.bn (l := (digsF (Builtin.Int.intBits (b : Int)) (cntF a (Builtin.Int.intBits (b : Int))) a).reverse) (m := m) (fun d hd => digs_lt _ _ a d (List.mem_reverse.mp hd)) (Nat.le_trans (Nat.le_of_eq hlen) H.c64) (by rw [hlen]; exact H.nc)
  rw [hlen, ← H.q, ← H.r, List.reverse_reverse] at t
  exact (kn.fn 6 49 rfl).mk' kn.lim hD4 (ps := ["a", "b"]) [] (by rfl) (fun zz zz zz zz zz zz => rfl) rfl ⟨.bits, op_int2digits kn (dC hD rfl) H.n1 (by have := H.n2; exact dB this rfl) H.c64 (by have := H.nc; exact dB this rfl), t.weak (Sub0.cons rfl (.cons rfl (.cons rfl (.cons rfl (.cons rfl .nil)))))⟩
end
section
open PySem PySem.W PyProof.Rows PySem.Calls PySem.SeqAt
noncomputable abbrev dmAV (a b : Int) : AV := .tup [.int (a.fdiv b), .int (a.fmod b)]
private theorem KeptA.two {m : Mem} {q r q' r' : Int} (h1 : q = q') (h2 : r = r') : KeptA m (.tup [.int q, .int r]) (.tup [.int q', .int r']) m := by
  subst h1; subst h2
  exact .same fun zz => .tupL (.cons (.int _) (.cons (.int _) .nil))
private theorem dm_not {a b : Int} (hb : 0 < b) : a.fdiv b = -((-a - 1).fdiv b) - 1 ∧ a.fmod b = b + (-((-a - 1).fmod b) - 1) := by
  have h6 := (Int.fdiv_fmod_unique (a := -a - 1) (b := b) (r := (-a - 1).fmod b) (q := (-a - 1).fdiv b) hb).mp ⟨rfl, rfl⟩
  refine (Int.fdiv_fmod_unique hb).mpr ⟨?_, by omega, by omega⟩
  have e1 : b * (-((-a - 1).fdiv b) - 1) = -(b * (-a - 1).fdiv b) - b := by rw [Int.mul_sub, Int.mul_neg, Int.mul_one]
  rw [e1]; omega
private theorem dm_main {X : Amb} {D : Nat} (kn : KnC X) (hD : 15 ≤ D) {a b : Int} (h1 : a.natAbs < 2 ^ 60) (h2 : b ≠ 0) (h3 : b.natAbs < 1073741824) {m : Mem} (r1 : b < 0 → Fn X D "int_divmod" m [.int (-a), .int (-b)] (dmAV (-a) (-b)) m) (r2 : 0 < b → a < 0 → Fn X D "int_divmod" m [.int (-a - 1), .int b] (dmAV (-a - 1) b) m) :
    Fn X (D + 1) "int_divmod" m [.int a, .int b] (dmAV a b) m := by
  obtain ⟨D, rfl⟩ : ∃ d, D = d + 1 := ⟨D - 1, by lia⟩
  have hD4 : 4 ≤ D + 1 := by exact dA hD rfl
  refine (kn.fn 7 56 rfl).mk' kn.lim hD4 (ps := ["a", "b"]) [] (by rfl) (fun zz zz zz zz zz zz => rfl) rfl (.d (fun h => absurd h h2) fun zz => .d (fun h => ?_) fun h => .d (fun ha => ?_) fun ha => ?_)
  · exact W.tup (G := ⟨X, D + 1, _, _⟩) (xs := ["q", "r"]) hD4 rfl rfl (.cons rfl (.cons rfl .nil)) ⟨.neg, .neg, r1 h, .mk rfl ⟨.neg, .two (Int.neg_fdiv_neg _ _).symm (by rw [Int.neg_fmod_neg, Int.neg_neg])⟩⟩
  · have hb : 0 < b := by lia
    exact W.tup (G := ⟨X, D + 1, _, _⟩) (xs := ["q", "r"]) hD4 rfl rfl (.cons rfl (.cons rfl .nil)) ⟨.inv, r2 hb ha, .mk rfl ⟨.inv, .inv, .two (dm_not hb).1 (dm_not hb).2⟩⟩
  · obtain ⟨a, rfl⟩ := Int.eq_ofNat_of_zero_le (show 0 ≤ a by lia)
    obtain ⟨b, rfl⟩ := Int.eq_ofNat_of_zero_le (show 0 ≤ b by lia)
    exact ⟨op_divmod_pos kn (dC hD rfl) h1 (by lia) h3, .two (Int.fdiv_eq_ediv_of_nonneg _ (Int.natCast_nonneg _)) (Int.fmod_eq_emod_of_nonneg _ (Int.natCast_nonneg _))⟩
private theorem op_divmod {X : Amb} {D : Nat} (kn : KnC X) (hD : 18 ≤ D) {a b : Int} (h1 : a.natAbs < 2 ^ 60) (h2 : b ≠ 0) (h3 : b.natAbs < 1073741824) {m : Mem} : Fn X (D + 1) "int_divmod" m [.int a, .int b] (dmAV a b) m := by
  obtain ⟨D, rfl⟩ : ∃ d, D = d + 2 := ⟨D - 2, by lia⟩
  have p2 : ∀ {a b : Int}, a.natAbs < 2 ^ 60 → 0 < b → b.natAbs < 1073741824 → Fn X (D + 2) "int_divmod" m [.int a, .int b] (dmAV a b) m := fun h1 h2 h3 =>
    dm_main kn (by lia) h1 (by lia) h3 (fun h => by omega) fun zz ha => dm_main kn (dC hD rfl) (by omega) (by lia) h3 (fun h => by omega) fun zz h => by omega
  exact dm_main kn (dA hD rfl) h1 h2 h3 (fun h => p2 (by (clear h h3 h2; omega)) (by lia) (by omega)) fun hb ha => p2 (by lia) hb h3
end
section
open PySem PySem.W PyProof.Rows PySem.Calls PySem.SeqAt
noncomputable def bisGo (p : Nat → Bool) : Nat → Nat → Nat → Nat
  | 0, lo, _ => lo
  | n + 1, lo, hi => if lo < hi then (if p ((lo + hi) / 2) then bisGo p n lo ((lo + hi) / 2) else bisGo p n ((lo + hi) / 2 + 1) hi) else lo
structure BisI (p : Nat → Bool) (N r : Nat) (n : Nat) (s : Nat × Nat) : Prop where
  a : s.1 ≤ s.2
  b : s.2 ≤ N
  c : s.2 - s.1 < 2 ^ n
  e : bisGo p n s.1 s.2 = r
private theorem half {l h N : Nat} (hl : l < h) (c : h - l < N * 2) : l ≤ (l + h) / 2 ∧ (l + h) / 2 < h ∧ (l + h) / 2 - l < N ∧ h - ((l + h) / 2 + 1) < N := by
  have h1 := Nat.div_mul_le_self (l + h) 2
  have h2 : l + h < (l + h) / 2 * 2 + 2 := Nat.lt_div_mul_add (by decide)
  generalize (l + h) / 2 = m at h1 h2
  have c := (Nat.sub_lt_iff_lt_add (Nat.le_of_lt hl)).mp c
  have q : l ≤ m := by (clear c; omega)
  have q2 : m < h := by (clear c h2 q; omega)
  exact ⟨q, q2, (Nat.sub_lt_iff_lt_add q).mpr (by (clear h2 q q2 hl; omega)), (Nat.sub_lt_iff_lt_add q2).mpr (by (clear h1 q q2 hl; omega))⟩
private theorem bis_step {p : Nat → Bool} {N r n l h : Nat} (I : BisI p N r n (l, h)) (hl : l < h) : ∃ j, j + 1 = n ∧ (l + h) / 2 < N ∧ (p ((l + h) / 2) = true → BisI p N r j (l, (l + h) / 2)) ∧ (p ((l + h) / 2) = false → BisI p N r j ((l + h) / 2 + 1, h)) := by
  have hb : h ≤ N := I.b
  have hc : h - l < 2 ^ n := I.c
  have he : bisGo p n l h = r := I.e
  cases n with
  | zero => exact absurd hc (Nat.not_lt.mpr (Nat.sub_pos_of_lt hl))
  | succ n =>
    unfold bisGo at he
    rw [if_pos hl] at he
    obtain ⟨q1, q2, q3, q4⟩ := half hl hc
    refine ⟨n, rfl, Nat.lt_of_lt_of_le q2 hb, fun q => ⟨q1, Nat.le_of_lt (Nat.lt_of_lt_of_le q2 hb), q3, ?_⟩, fun q => ⟨q2, hb, q4, ?_⟩⟩
    · rw [if_pos q] at he; exact he
    · rw [if_neg (by rw [q]; exact Bool.false_ne_true)] at he; exact he
private theorem bis_end {p : Nat → Bool} {N r n l h : Nat} (I : BisI p N r n (l, h)) (hl : ¬ l < h) : l = r := by
  have he : bisGo p n l h = r := I.e
  cases n with
  | zero => exact he
  | succ n => unfold bisGo at he; rw [if_neg hl] at he; exact he
private theorem bis_mid (l h : Nat) : ((l : Int) + h).fdiv 2 = (((l + h) / 2 : Nat) : Int) := by
  rw [Int.fdiv_eq_ediv_of_nonneg _ (by decide)]; rfl
structure Arr (X : Amb) (D : Nat) (m : Mem) (av : AV) (N : Nat) (g : Nat → Int) : Prop where
  len : Call X D (opB "len") m [av] (.int N) m
  at' : ∀ i, i < N → Sub X D m av (.int (i : Nat)) (.int (g i))
noncomputable def bisL (av kv : AV) (x : Int) (s : Nat × Nat) : Lc := bd "lo" (.int s.1) (bd "hi" (.int s.2) (bd "a" av (bd "x" (.int x) (bd "key" kv []))))
private theorem op_bisR {X : Amb} {D : Nat} (kn : KnB X) (hD : 4 ≤ D) {m : Mem} {av : AV} {N : Nat} {g : Nat → Int} {x : Int} (A : Arr X D m av N g) (hN : N < 2 ^ 12) : Fn X (D + 1) "bisect_right" m [av, .int x] (.int (bisGo (fun i => decide (x < g i)) 12 0 N : Nat)) m := by
  refine kn.bR.two kn.lim hD (by rfl) (fun h zz zz zz zz zz zz => kp_binds h fun zz => by rfl) (.f rfl ⟨.isNN, .t rfl ⟨.b (kn.bu "len" _ rfl) A.len, .isNN, .t rfl ?_⟩⟩)
  refine W.whileW (G := ⟨X, D, _, []⟩) hD (bisL av .none x) (fun zz => m) (BisI (fun i => decide (x < g i)) N (bisGo (fun i => decide (x < g i)) 12 0 N)) 12 (.mk (0, N) ⟨Nat.zero_le _, Nat.le_refl _, hN, rfl⟩ rfl (.rf rfl)) ?_
  rintro n ⟨l, h⟩ I
  by_cases hl : l < h
  · obtain ⟨j, rfl, h1, h2, h3⟩ := bis_step I hl
    have e := bis_mid l h
    have hs : Sub X D m av (.int (((l : Int) + h).fdiv 2)) (.int (g ((l + h) / 2))) := e.symm ▸ A.at' _ h1
    refine .go ⟨decide_eq_true (Int.ofNat_lt.mpr hl), .div (by decide) (by decide), hs, .d (fun q => ?_) fun q => ?_⟩
    · exact ⟨j, Nat.lt_succ_self _, .mk (l, (l + h) / 2) (h2 (decide_eq_true q)) rfl (.cons rfl (.cons (congrArg (fun z => some (AV.int z)) e) (.cons rfl (.cons rfl (.cons rfl .nil)))))⟩
    · exact ⟨j, Nat.lt_succ_self _, .mk ((l + h) / 2 + 1, h) (h3 (decide_eq_false q)) rfl (.cons (congrArg (fun z => some (AV.int (z + 1))) e) (.cons rfl (.cons rfl (.cons rfl (.cons rfl .nil)))))⟩
  · cases bis_end I hl
    exact .no ⟨decide_eq_false (fun q => hl (Int.ofNat_lt.mp q)), .mk⟩
end
section
open PySem PySem.W PyProof.Rows PySem.Calls PySem.SeqAt
section
variable {X : Amb} {D : Nat} {m m0 m1 : Mem} {av : AV} {N : Nat} {g ks : Nat → Int} {x : Int} {f : Addr} {sc : Names} {L : Lc} {p pos kp : Pos} {e ke : Expr} {es : List Expr}
private theorem op_bisRk (kn : KnB X) (hD : 4 ≤ D) (A : Arr X D m av N g) (hN : N < 2 ^ 12) (hkey : ∀ i, i < N → FnV X D (.ext (.ref f)) m [.int (g i)] (.int (ks i)) m) (hx : sc.lookup ("bisect_right" : Str) = some .globalImplicit) (he : ∀ env, starEach (e :: es) env = (false, eval e env) :: starEach es env) (hes : PEs X (D + 1) sc (e :: es) L m0 [av, .int x] m1) (hk : PE X (D + 1) sc ke L m1 (.ext (.ref f)) m) :
    PE X (D + 1) sc (.Call (.Name "bisect_right" p) (e :: es) [⟨some "key", ke, kp⟩] pos) L m0 (.int (bisGo (fun i => decide (x < ks i)) 12 0 N : Nat)) m := by
  refine BisAt.key (av := av) (x := x) (kv := .ext (.ref f)) kn.bR kn.lim hD (by rfl) (fun h zz zz zz zz zz zz zz => kp_binds h fun zz => by rfl) (.f rfl ⟨.isNN, .t rfl ⟨.b (kn.bu "len" _ rfl) A.len, .isEN, .f rfl ?_⟩⟩) hx he hes hk
  refine W.whileW (G := ⟨X, D, _, []⟩) hD (bisL av (.ext (.ref f)) x) (fun zz => m) (BisI (fun i => decide (x < ks i)) N (bisGo (fun i => decide (x < ks i)) 12 0 N)) 12 (.mk (0, N) ⟨Nat.zero_le _, Nat.le_refl _, hN, rfl⟩ rfl (.rf rfl)) ?_
  rintro n ⟨l, h⟩ I
  by_cases hl : l < h
  · obtain ⟨j, rfl, h1, h2, h3⟩ := bis_step I hl
    have e := bis_mid l h
    have hs : Sub X D m av (.int (((l : Int) + h).fdiv 2)) (.int (g ((l + h) / 2))) := e.symm ▸ A.at' _ h1
    refine .go ⟨decide_eq_true (Int.ofNat_lt.mpr hl), .div (by decide) (by decide), hs, hkey _ h1, .d (fun q => ?_) fun q => ?_⟩
    · exact ⟨j, Nat.lt_succ_self _, .mk (l, (l + h) / 2) (h2 (decide_eq_true q)) rfl (.cons rfl (.cons (congrArg (fun z => some (AV.int z)) e) (.cons rfl (.cons rfl (.cons rfl .nil)))))⟩
    · exact ⟨j, Nat.lt_succ_self _, .mk ((l + h) / 2 + 1, h) (h3 (decide_eq_false q)) rfl (.cons (congrArg (fun z => some (AV.int (z + 1))) e) (.cons rfl (.cons rfl (.cons rfl (.cons rfl .nil)))))⟩
  · cases bis_end I hl
    exact .no ⟨decide_eq_false (fun q => hl (Int.ofNat_lt.mp q)), .mk⟩
private theorem op_bisLk (kn : KnB X) (hD : 4 ≤ D) (A : Arr X D m av N g) (hN : N < 2 ^ 12) (hkey : ∀ i, i < N → FnV X D (.ext (.ref f)) m [.int (g i)] (.int (ks i)) m) (hx : sc.lookup ("bisect_left" : Str) = some .globalImplicit) (he : ∀ env, starEach (e :: es) env = (false, eval e env) :: starEach es env) (hes : PEs X (D + 1) sc (e :: es) L m0 [av, .int x] m1) (hk : PE X (D + 1) sc ke L m1 (.ext (.ref f)) m) :
    PE X (D + 1) sc (.Call (.Name "bisect_left" p) (e :: es) [⟨some "key", ke, kp⟩] pos) L m0 (.int (bisGo (fun i => !decide (ks i < x)) 12 0 N : Nat)) m := by
  refine BisAt.key (av := av) (x := x) (kv := .ext (.ref f)) kn.bL kn.lim hD (by rfl) (fun h zz zz zz zz zz zz zz => kp_binds h fun zz => by rfl) (.f rfl ⟨.isNN, .t rfl ⟨.b (kn.bu "len" _ rfl) A.len, .isEN, .f rfl ?_⟩⟩) hx he hes hk
  refine W.whileW (G := ⟨X, D, _, []⟩) hD (bisL av (.ext (.ref f)) x) (fun zz => m) (BisI (fun i => !decide (ks i < x)) N (bisGo (fun i => !decide (ks i < x)) 12 0 N)) 12 (.mk (0, N) ⟨Nat.zero_le _, Nat.le_refl _, hN, rfl⟩ rfl (.rf rfl)) ?_
  rintro n ⟨l, h⟩ I
  by_cases hl : l < h
  · obtain ⟨j, rfl, h1, h2, h3⟩ := bis_step I hl
    have e := bis_mid l h
    have hs : Sub X D m av (.int (((l : Int) + h).fdiv 2)) (.int (g ((l + h) / 2))) := e.symm ▸ A.at' _ h1
    refine .go ⟨decide_eq_true (Int.ofNat_lt.mpr hl), .div (by decide) (by decide), hs, hkey _ h1, .d (fun q => ?_) fun q => ?_⟩
    · exact ⟨j, Nat.lt_succ_self _, .mk ((l + h) / 2 + 1, h) (h3 (congrArg (fun z => !z) (decide_eq_true q))) rfl (.cons (congrArg (fun z => some (AV.int (z + 1))) e) (.cons rfl (.cons rfl (.cons rfl (.cons rfl .nil)))))⟩
    · exact ⟨j, Nat.lt_succ_self _, .mk (l, (l + h) / 2) (h2 (congrArg (fun z => !z) (decide_eq_false q))) rfl (.cons rfl (.cons (congrArg (fun z => some (AV.int z)) e) (.cons rfl (.cons rfl (.cons rfl .nil)))))⟩
  · cases bis_end I hl
    exact .no ⟨decide_eq_false (fun q => hl (Int.ofNat_lt.mp q)), .mk⟩
end
end
section
open PySem PySem.W PyProof.Rows PySem.Calls PySem.SeqAt
noncomputable def spotF (as : List Int) (x : Int) : Nat := bisGo (fun i => decide (x < as.getD i 0)) 12 0 as.length
noncomputable def movedAt (as bs : List Int) (point unit sign w r : Int) (j : Nat) : Option (List Int) :=
  if (sign = 1 ∨ sign = -1) ∧ (sign * point).natAbs < 2 ^ 60 ∧ unit ≠ 0 ∧ unit.natAbs < 1073741824 ∧ as.length ≤ 1000 ∧ bs.length ≤ 1000 ∧ j + 1 < as.length ∧ j + 1 < bs.length ∧ sign * (as.getD (j + 1) 0 - as.getD j 0) ≠ 0 ∧ (sign * (as.getD (j + 1) 0 - as.getD j 0)).natAbs < 1073741824 ∧ (sign * ((sign * r - as.getD j 0) * (bs.getD (j + 1) 0 - bs.getD j 0))).natAbs < 2 ^ 60 ∧ (bs.getD (j + 1) 0 - bs.getD j 0).natAbs < 2 ^ 63 then
    some [w * unit + bs.getD j 0 + (sign * ((sign * r - as.getD j 0) * (bs.getD (j + 1) 0 - bs.getD j 0))).fdiv (sign * (as.getD (j + 1) 0 - as.getD j 0)), (sign * ((sign * r - as.getD j 0) * (bs.getD (j + 1) 0 - bs.getD j 0))).fmod (sign * (as.getD (j + 1) 0 - as.getD j 0)), (j : Int)] else none
noncomputable def movedF (as bs : List Int) (point unit sign : Int) : Option (List Int) :=
  match spotF as (sign * (sign * point).fmod (sign * unit)) with
  | 0 => none
  | j + 1 => movedAt as bs point unit sign ((sign * point).fdiv (sign * unit)) ((sign * point).fmod (sign * unit)) j
private theorem sg_mul {s a : Int} (h : s = 1 ∨ s = -1) : (s * a).natAbs = a.natAbs := by rcases h with rfl | rfl <;> simp
private theorem sg_ne {s a : Int} (h : s = 1 ∨ s = -1) (ha : a ≠ 0) : s * a ≠ 0 := by rcases h with rfl | rfl <;> lia
private theorem Sub.ints {X : Amb} {D : Nat} {m : Mem} {l : List Int} {i : Int} {j : Nat} (e : i = j) (hj : j < l.length) (hz : l.length ≤ 1000) : Sub X D m (.lst (l.map .int)) (.int i) (.int (l.getD j 0)) := by
  subst e
  refine .lst (Int.natCast_nonneg _) (by lia) ?_
  show (l.map AV.int)[j]? = _
  rw [List.getElem?_map, List.getD_eq_getElem?_getD, List.getElem?_eq_getElem hj]; rfl
private theorem Arr.ints {X : Amb} {D : Nat} {m : Mem} {l : List Int} (hz : l.length ≤ 1000) : Arr X D m (.lst (l.map .int)) l.length fun i => l.getD i 0 := ⟨by
  have h := Call.lenL (X := X) (D := D) (m := m) (xs := l.map AV.int) (by rw [List.length_map]; exact dB hz rfl)
  rwa [List.length_map] at h, fun i hi => .ints rfl hi hz⟩
private theorem op_moved {X : Amb} {D : Nat} (kn : KnB X) (hD : 20 ≤ D) {as bs : List Int} {point unit sign : Int} {r : List Int} (hr : movedF as bs point unit sign = some r) {m : Mem} : Fn X (D + 1) "_law_moved" m [.lst [.lst (as.map .int), .lst (bs.map .int)], .int point, .int unit, .int sign] (.lst (r.map .int)) m := by
  obtain ⟨D, rfl⟩ : ∃ d, D = d + 1 := ⟨D - 1, by lia⟩
  have hD4 : 4 ≤ D + 1 := by exact dA hD rfl
  unfold movedF at hr
  cases hj : spotF as (sign * (sign * point).fmod (sign * unit)) with
  | zero => rw [hj] at hr; cases hr
  | succ j =>
    rw [hj] at hr
    dsimp only at hr
    unfold movedAt at hr
    split at hr
    · rename_i hp
      cases hr
      obtain ⟨p1, p2, p3, p4, p5, p6, p8, p9, p10, p11, p12, p13⟩ := hp
      have hs : sign.natAbs < 2 ^ 63 := by rcases p1 with h | h <;> rw [h] <;> decide
      have e0 : ((spotF as (sign * (sign * point).fmod (sign * unit)) : Nat) : Int) - 1 = (j : Nat) := by rw [hj, Int.natCast_succ]; exact Int.add_sub_cancel _ _
      have e1 : ((spotF as (sign * (sign * point).fmod (sign * unit)) : Nat) : Int) - 1 + 1 = ((j + 1 : Nat) : Int) := by rw [e0]; rfl
      have j0 := Nat.lt_of_succ_lt p8
      have j1 := Nat.lt_of_succ_lt p9
      have z0 : (0 : Int) ≤ 0 := by decide
      have z1 : (0 : Int) < 2 ^ 62 := by decide
      have y0 : (0 : Int) ≤ 1 := by decide
      have y1 : (1 : Int) < 2 ^ 62 := by decide
      have kc := kn.toKnC
      refine (kn.fn 26 192 rfl).mk' kn.lim hD4 (ps := ["starts", "point", "unit", "sign"]) [] (by rfl) (fun zz zz zz zz zz zz zz zz => rfl) rfl (W.tup (G := ⟨X, D + 1, _, _⟩) (xs := ["whole", "rest"]) hD4 rfl rfl (.cons rfl (.cons rfl .nil)) ⟨.mul (.inl hs), .mul (.inl hs), op_divmod kc (dC hD rfl) p2 (sg_ne p1 p3) (by rw [sg_mul p1]; exact p4), .mk rfl ⟨.lst z0 z1 rfl, .mul (.inl hs), op_bisR kn (dC hD rfl) (.ints p5) (by lia), ?_⟩⟩)
      refine ⟨.mul (.inl hs), .lst z0 z1 rfl, .ints e0 j0 p5, .lst y0 y1 rfl, .ints e1 p9 p6, .lst y0 y1 rfl, .ints e0 j1 p6, .mul (.inr p13), ?_⟩
      refine W.tup (G := ⟨X, D + 1, _, _⟩) (xs := ["step", "left"]) hD4 rfl rfl (.cons rfl (.cons rfl .nil)) ⟨.mul (.inl hs), .lst z0 z1 rfl, .ints e1 p8 p5, .lst z0 z1 rfl, .ints e0 j0 p5, .mul (.inl hs), op_divmod kc (dC hD rfl) p12 p10 p11, .mk rfl ⟨.mul (.inr (dB p4 rfl)), .lst y0 y1 rfl, .ints e0 j1 p6, ?_⟩⟩
      rw [← e0]
      exact KeptA.ints (l := [_, _, _])
    · cases hr
end
section
open PySem PySem.W PyProof.Rows PySem.Calls PySem.SeqAt
noncomputable def oddF (row : List Nat) (p : Nat) : List Nat := if p % 2 = 0 then row.dropLast else row.drop 1 ++ row.take 1
noncomputable def styleF (styles : Int) (p : Nat) : Int := styles.fdiv (2 ^ (4 * p))
noncomputable def hiddenAt (rows : List (List Nat)) (styles : Int) (p : Nat) : Bool := checkF (writtenF (oddF (rows.getD p []) p) (styleF styles p)) == decide (styleF styles p % 4 ≠ 0)
noncomputable def hiddenF (rows : List (List Nat)) (styles : Int) : Bool := (List.range 6).all (hiddenAt rows styles)
private theorem okS_cons {c : Nat} {l : List Nat} (hc : c < 0x110000) (h : okS l) : okS (c :: l) := okS_app (okS_1 hc) h
private theorem okS_guard {w : List Nat} (h : okS w) : okS (guardF w) := fun c hc => by
  obtain ⟨y, hy, hc⟩ := List.mem_flatten.mp hc
  obtain ⟨d, hd, rfl⟩ := List.mem_map.mp hy
  exact okS_cons (by decide) (okS_1 (h _ hd)) c hc
private theorem okS_written {w : List Nat} (h : okS w) (s : Int) : okS (writtenF w s) := by
  have q (x : List Nat) (hx : okS x) : okS (34 :: (x ++ [34])) := okS_cons (by decide) (okS_app hx (okS_1 (by decide)))
  refine okS_app ?_ ?_
  · unfold baseF; split
    · exact h
    · exact q w h
    · exact okS_guard h
    · exact q _ (okS_guard h)
  · unfold endF; split
    · split
      · exact okS_1 (by decide)
      · exact okS_nil
    · exact okS_1 (by decide)
    · exact okS_1 (by decide)
    · exact okS_1 (by decide)
private theorem written_len (w : List Nat) (s : Int) : (writtenF w s).length ≤ 2 * w.length + 3 := by
  have h1 := base_len w (s % 4).toNat
  have h2 := end_len s
  unfold writtenF
  rw [List.length_append]
  lia
private theorem eqv_b {a b : Bool} : PyData.eqv (.bool a) (.bool b) = (a == b) := by cases a <;> cases b <;> rfl
private theorem hid_q (rows : List (List Nat)) (styles : Int) (k : Nat) {row : List Nat} (e : rows.getD k [] = row) : (!((checkF (writtenF (oddF row k) (styleF styles k)) == true) == !decide ((styleF styles k).fmod 4 = 0)) || ((checkF (writtenF (oddF row k) (styleF styles k)) == false) == !decide ((styleF styles k).fmod 4 = 0))) = !hiddenAt rows styles k := by
  unfold hiddenAt
  rw [e, fm (by decide), ← decide_not]
  cases checkF (writtenF (oddF row k) (styleF styles k)) <;> cases decide (¬ styleF styles k % 4 = 0) <;> rfl
private theorem odd_at (row : List Nat) (k : Nat) : [AV.str (sl none (some (-1)) row), .str (sl (some 1) none row ++ sl none (some 1) row)][((k : Int).fmod 2).toNat]? = some (.str (oddF row k)) := by
  have e1 : sl (some 1) none row = row.drop 1 := sl_drop row 1
  have e2 : sl none (some 1) row = row.take 1 := sl_take row 1
  rw [sl_dropLast, e1, e2, fm (by decide)]
  unfold oddF
  have : (k : Int) % 2 = ((k % 2 : Nat) : Int) := rfl
  rw [this, Int.toNat_natCast]
  rcases Nat.mod_two_eq_zero_or_one k with h | h <;> rw [h] <;> rfl
private theorem odd_ok {row : List Nat} (k : Nat) (h : okS row) (hz : row.length ≤ 100) : okS (oddF row k) ∧ (oddF row k).length ≤ 100 := by
  unfold oddF; split
  · exact ⟨fun c hc => h c (List.dropLast_subset _ hc), by rw [List.length_dropLast]; exact Nat.le_trans (Nat.sub_le ..) hz⟩
  · exact ⟨okS_app (okS_drop h) (okS_take h), by rw [List.length_append, Nat.add_comm, ← List.length_append, List.take_append_drop]; exact hz⟩
private theorem op_hidden {X : Amb} {D : Nat} (kn : Kn X) (hD : 15 ≤ D ∧ D ≤ 500) {j : Nat} {rows : List (List Nat)} {styles : Int} {m : Mem} (hm : m[j]? = some (.lst (rows.map .str))) (h6 : rows.length = 6) (hz : ∀ r ∈ rows, r.length ≤ 100 ∧ okS r) : Fn X (D + 1) "_law_hidden" m [.mref j, .int styles] (.bool (hiddenF rows styles)) m := by
  obtain ⟨D, rfl⟩ : ∃ d, D = d + 1 := ⟨D - 1, by lia⟩
  have hD4 : 4 ≤ D + 1 := by exact dA hD.1 rfl
  refine (kn.fn 29 211 rfl).mk' kn.lim hD4 (ps := ["rows", "styles"]) [] (by rfl) (fun zz zz zz zz zz zz => rfl) rfl ?_
  refine W.forW (G := ⟨X, D + 1, _, []⟩) (σ := Unit) (xs := List.range 6) (av := .rng 0 ((6 : Nat) : Int)) (m1 := m) hD4 ⟨.t (kn.bu "range" _ rfl) .range, .mk⟩ (.rng' (by decide)) (fun zz zz => bd "rows" (.mref j) (bd "styles" (.int styles) [])) (fun zz zz => m) (fun k zz => ∀ i, i < k → hiddenAt rows styles i = true) (.mk () (fun i h => by cases h) rfl (.rf rfl)) (fun k x s hx I => ?_) (fun s I => ?_) (fun zz zz => rfl)
  · cases range_at hx
    have hk : k < 6 := by have := (List.getElem?_eq_some_iff.mp hx).1; rwa [List.length_range] at this
    have hkr : k < rows.length := by lia
    obtain ⟨row, hrow⟩ : ∃ r, rows[k]? = some r := ⟨_, List.getElem?_eq_getElem hkr⟩
    have er : rows.getD k [] = row := by rw [List.getD_eq_getElem?_getD, hrow]; rfl
    obtain ⟨rz, ro⟩ := hz row (List.mem_of_getElem? hrow)
    obtain ⟨oo, oz⟩ := odd_ok k ro rz
    have hs : Sub X (D + 1) m (.mref j) (.int (k : Nat)) (.str row) := .mut hm (Int.natCast_nonneg _) (by lia) (by show (rows.map AV.str)[k]? = _; rw [List.getElem?_map, hrow]; rfl)
    have rz2 : row.length ≤ 2 ^ 24 := Nat.le_trans rz (by decide)
    have q := hid_q rows styles k er
    have w0 : (0 : Int) ≤ 4 * (k : Int) := by exact Int.natCast_nonneg _
    have wl := written_len (oddF row k) (styleF styles k)
    refine ⟨_, .name rfl, hs, .neg, .str rz2, hs, .str rz2, hs, .str rz2, .addS (Nat.le_trans (Nat.add_le_add (sl_len row) (sl_len row)) (by lia)), .mod (by decide), .lst (md (by decide) (by decide)).1 (md (by decide) (by decide)).2 (odd_at row k), ?_⟩
    refine W.tupR (G := ⟨X, D + 1, _, _⟩) (xs := ["told", "hides"]) hD4 rfl rfl rfl ⟨.mul (.inl (by decide)), .shr w0, op_written kn (dC hD.1 rfl) (s := styleF styles k) (dB oz rfl), op_check kn (⟨dC hD.1 rfl, Nat.le_of_lt hD.2⟩) (by lia) (okS_written oo _), .mul (.inl (by decide)), .shr w0, .mod (by decide), .mk rfl ⟨.isB, .ne .bool .bool rfl rfl eqv_b hD4, fun zz => ⟨.isB, .eq .bool .bool rfl rfl eqv_b hD4, .mk⟩, .mk (fun h => ?_) fun h => ?_⟩⟩
    · have hb : (!hiddenAt rows styles k) = true := q.symm.trans h
      have e : hiddenF rows styles = false := List.all_eq_false.mpr ⟨k, List.mem_range.mpr hk, fun e => by rw [e] at hb; cases hb⟩
      show KeptA m (.bool (hiddenF rows styles)) (.bool false) m
      rw [e]
      exact .b
    · have hb : (!hiddenAt rows styles k) = false := q.symm.trans h
      exact .mk () (fun i hi => (Nat.lt_succ_iff_lt_or_eq.mp hi).elim (I i) fun e => e ▸ (by cases e2 : hiddenAt rows styles k with | true => rfl | false => rw [e2] at hb; cases hb)) rfl (.cons rfl (.cons rfl .nil))
  · have e : hiddenF rows styles = true := List.all_eq_true.mpr fun i hi => I i (by rw [List.length_range]; exact List.mem_range.mp hi)
    rw [e]
    exact .b
end
section
open PySem PySem.W PyProof.Rows PySem.Calls PySem.SeqAt
noncomputable def sgAV (c : Nat) : AV := .str [c]
noncomputable def lexNs (ln : Int) (i p : Nat) : List (Str × AV) := [("lineno", .int ln), ("instream", .strm lamRead i), ("whitespace", .str [10, 9, 13, 32]), ("pushback", .mref p)]
structure LexAt (mem : Mem) (j : Nat) (ln : Int) (i p : Nat) (cs : List Nat) (ts : List (List Nat)) : Prop where
  ns : mem[j]? = some (.ns (lexNs ln i p))
  hcs : mem[i]? = some (.lst (cs.map sgAV))
  hts : mem[p]? = some (.lst (ts.map .str))
  ij : i ≠ j
  pj : p ≠ j
  ip : i ≠ p
  ok : okS cs
  sz : cs.length ≤ 100000
  tz : ts.length ≤ 100000
noncomputable def rcMem (mem : Mem) (j : Nat) (ln : Int) (i p : Nat) : List Nat → Mem
  | [] => mem
  | c :: r => if c = 10 then (mem.set i (.lst (r.map sgAV))).set j (.ns (lexNs (ln + 1) i p)) else mem.set i (.lst (r.map sgAV))
section
variable {X : Amb} {D : Nat} {m : Mem} {j i p : Nat} {ln : Int} {cs : List Nat} {ts : List (List Nat)}
private theorem op_rc (kn : KnL X) (hD : 5 ≤ D) (L : LexAt m j ln i p cs ts) : CallC X (D + 1) 116 m [.inst 133 j] (.str (cs.take 1)) (rcMem m j ln i p cs) := by
  obtain ⟨D, rfl⟩ : ∃ d, D = d + 1 := ⟨D - 1, by lia⟩
  have hD4 : 4 ≤ D + 1 := by exact Nat.le_of_lt hD
  obtain ⟨mN, cl, lx⟩ := kn.cls
  refine kn.mr.methC kn.lim hD4 (ps := ["self"]) [] (by rfl) (fun zz zz zz zz zz => rfl) rfl ?_
  cases cs with
  | nil => exact .mk (.attr cl lx.instream lo_instream (.var rfl) L.ns rfl trivial fun zz => rfl) ⟨.read isRead1 kn.lim (dC hD rfl) (.none L.hcs), .eqS okS_nil (okS_1 (by decide)) hD4, .d (fun h => nomatch h) fun zz => .mk⟩
  | cons c r =>
    have hz : (r.map sgAV).length ≤ 2 ^ 23 := by have := L.sz; rw [List.length_cons] at this; rw [List.length_map]; exact dD this rfl
    refine .mk (.attr cl lx.instream lo_instream (.var rfl) L.ns rfl trivial fun zz => rfl) ⟨.read isRead1 kn.lim (dC hD rfl) (.some L.hcs hz rfl), .eqS (okS_1 (L.ok c List.mem_cons_self)) (okS_1 (by decide)) hD4, .d (fun h => ?_) fun h => ?_⟩
    · have hc : c = 10 := (List.cons.inj h).1
      have hns : (m.set i (.lst (r.map sgAV)))[j]? = some (.ns (lexNs ln i p)) := by rw [List.getElem?_set_ne L.ij]; exact L.ns
      have e : rcMem m j ln i p (c :: r) = (m.set i (.lst (r.map sgAV))).set j (.ns (lexNs (ln + 1) i p)) := if_pos hc
      rw [e]
      exact W.augAttr cl lx.lineno lo_lineno (.var rfl) hns rfl trivial .int .iadd hns (by show 4 ≤ 1000; decide) (.nil .mk)
    · have e : rcMem m j ln i p (c :: r) = m.set i (.lst (r.map sgAV)) := if_neg fun q => h (congrArg (fun z => [z]) q)
      rw [e]
      exact .mk
private theorem op_push (kn : KnL X) (hD : 4 ≤ D) (L : LexAt m j ln i p cs ts) {t : List Nat} : Call X (D + 1) (opF 130) m [.inst 133 j, .str t] .none (m.set p (.lst ((ts ++ [t]).map .str))) := by
  obtain ⟨mN, cl, lx⟩ := kn.cls
  refine kn.mp.meth kn.lim hD (ps := ["self", "token"]) [] (by rfl) (fun zz zz zz zz zz zz => rfl) rfl ?_
  exact .mk (.attr cl lx.pushback lo_pushback (.var rfl) L.ns rfl trivial fun zz => rfl) ⟨.append L.hts L.hts (by have := L.tz; rw [List.length_map]; exact dB this rfl) (by rw [List.map_append]; rfl), .mk .mk⟩
private theorem LexAt.lt (L : LexAt m j ln i p cs ts) : j < m.length ∧ i < m.length ∧ p < m.length :=
  ⟨(List.getElem?_eq_some_iff.mp L.ns).1, (List.getElem?_eq_some_iff.mp L.hcs).1, (List.getElem?_eq_some_iff.mp L.hts).1⟩
end
end
section
open PySem PySem.W PyProof.Rows PySem.Calls PySem.SeqAt
noncomputable def gTok (z : Nat → Bool) : List Nat → List Nat → List Nat × List Nat × Bool
  | tok, [] => (tok, [], true)
  | tok, c :: r => if z c = true then (tok, r, false) else if c = 92 then (match r with
    | [] => (tok, [], true)
    | d :: r' => gTok z (tok ++ [d]) r') else gTok z (tok ++ [c]) r
private theorem gTok_nil (z : Nat → Bool) (tok : List Nat) : gTok z tok [] = (tok, [], true) := by rw [gTok.eq_def]
private theorem gTok_cons (z : Nat → Bool) (tok : List Nat) (c : Nat) (r : List Nat) : gTok z tok (c :: r) = if z c = true then (tok, r, false) else gTok z (tok ++ if c = 92 then r.take 1 else [c]) (if c = 92 then r.drop 1 else r) := by
  rw [gTok.eq_def]
  dsimp only
  by_cases hz : z c = true
  · rw [if_pos hz, if_pos hz]
  · rw [if_neg hz, if_neg hz]
    by_cases hc : c = 92
    · simp only [if_pos hc]
      rcases r with _ | ⟨d, r'⟩
      · simp only [List.take_nil, List.append_nil, List.drop_nil, gTok_nil]
      · rfl
    · simp only [if_neg hc]
noncomputable def wsB (c : Nat) : Bool := decide (c ∈ [10, 9, 13, 32])
noncomputable def qtB (c : Nat) : Bool := decide (c = 34)
noncomputable def tokF : List Nat → List Nat × List Nat × Bool
  | [] => ([], [], true)
  | c :: r => if wsB c = true then tokF r else if c = 34 then gTok qtB [] r else if c = 92 then (match r with
    | [] => ([], [], true)
    | d :: r' => gTok wsB [d] r') else gTok wsB [c] r
noncomputable def lxM (mem : Mem) (j : Nat) (L : Int) (i p : Nat) (e : Bool) (cs : List Nat) : Mem := ((mem.set i (.lst (cs.map sgAV))).set j (.ns (lexNs (L - (cs.count 10 : Nat)) i p))) ++ [.cit (if e then none else some (116, 133, j))]
section
variable {mem : Mem} {j i p : Nat} {L : Int} {ts : List (List Nat)}
structure LxOk (mem : Mem) (j i p : Nat) (ts : List (List Nat)) : Prop where
  lj : j < mem.length
  li : i < mem.length
  hts : mem[p]? = some (.lst (ts.map .str))
  ij : i ≠ j
  pj : p ≠ j
  ip : i ≠ p
  tz : ts.length ≤ 100000
private theorem lxM_at (o : LxOk mem j i p ts) {e : Bool} {cs : List Nat} (hc : okS cs) (hz : cs.length ≤ 100000) : LexAt (lxM mem j L i p e cs) j (L - (cs.count 10 : Nat)) i p cs ts := by
  have h1 := o.lj; have h2 := o.li
  have h3 := (List.getElem?_eq_some_iff.mp o.hts).1
  refine ⟨?_, ?_, ?_, o.ij, o.pj, o.ip, hc, hz, o.tz⟩ <;> unfold lxM
  · rw [List.getElem?_append_left (by simpa using h1), List.getElem?_set_self (by simpa using h1)]
  · rw [List.getElem?_append_left (by simpa using h2), List.getElem?_set_ne o.ij.symm, List.getElem?_set_self h2]
  · rw [List.getElem?_append_left (by simpa using h3), List.getElem?_set_ne o.pj.symm, List.getElem?_set_ne o.ip]; exact o.hts
private theorem lxM_rc (o : LxOk mem j i p ts) {e : Bool} {cs : List Nat} : rcMem (lxM mem j L i p e cs) j (L - (cs.count 10 : Nat)) i p cs = lxM mem j L i p e (cs.drop 1) := by
  have h1 := o.lj; have h2 := o.li
  rcases cs with _ | ⟨c, r⟩
  · rfl
  · simp only [List.drop_succ_cons, List.drop_zero]
    have key : (lxM mem j L i p e (c :: r)).set i (.lst (r.map sgAV)) = ((mem.set i (.lst (r.map sgAV))).set j (.ns (lexNs (L - ((c :: r).count 10 : Nat)) i p))) ++ [.cit (if e then none else some (116, 133, j))] := by
      unfold lxM
      rw [List.set_append_left _ _ (by simpa using h2), List.set_comm _ _ o.ij.symm, List.set_set]
    by_cases hc : c = 10
    · subst hc
      rw [show rcMem (lxM mem j L i p e (10 :: r)) j (L - ((10 :: r).count 10 : Nat)) i p (10 :: r) = ((lxM mem j L i p e (10 :: r)).set i (.lst (r.map sgAV))).set j (.ns (lexNs (L - ((10 :: r).count 10 : Nat) + 1) i p)) from (by simp only [rcMem, if_true]), key, List.set_append_left _ _ (by simpa using h1), List.set_set]
      have : L - ((10 :: r).count 10 : Nat) + 1 = L - (r.count 10 : Nat) := by simp only [List.count_cons_self]; lia
      rw [this]; rfl
    · rw [show rcMem (lxM mem j L i p e (c :: r)) j (L - ((c :: r).count 10 : Nat)) i p (c :: r) = (lxM mem j L i p e (c :: r)).set i (.lst (r.map sgAV)) from if_neg hc, key]
      rw [List.count_cons_of_ne (by simpa using hc)]; rfl
private theorem lxM_cit {e : Bool} {cs : List Nat} : (lxM mem j L i p e cs)[mem.length]? = some (.cit (if e then none else some (116, 133, j))) := by
  unfold lxM
  rw [List.getElem?_append_right (by simp)]; simp
private theorem lxM_end : (lxM mem j L i p false []).set mem.length (.cit none) = lxM mem j L i p true [] := by
  unfold lxM
  rw [List.set_append_right _ _ (by simp)]; simp
end
section
variable {X : Amb} {D : Nat} {mem : Mem} {j i p : Nat} {L : Int} {ts : List (List Nat)}
private theorem rc_lx (kn : KnL X) (hD : 5 ≤ D) (o : LxOk mem j i p ts) {e : Bool} {cs : List Nat} (hc : okS cs) (hz : cs.length ≤ 100000) : CallC X (D + 1) 116 (lxM mem j L i p e cs) [.inst 133 j] (.str (cs.take 1)) (lxM mem j L i p e (cs.drop 1)) :=
  lxM_rc o (e := e) ▸ op_rc kn hD (lxM_at o hc hz)
private theorem next_lx (kn : KnL X) (hD : 5 ≤ D) (o : LxOk mem j i p ts) {c : Nat} {r : List Nat} (hc : okS (c :: r)) (hz : (c :: r).length ≤ 100000) : NextK X (D + 1) 116 (lxM mem j L i p false (c :: r)) mem.length (some (.str [c])) (lxM mem j L i p false r) :=
  .some lxM_cit (rc_lx kn hD o hc hz) lxM_cit nofun
private theorem next_lx0 (kn : KnL X) (hD : 5 ≤ D) (o : LxOk mem j i p ts) : NextK X (D + 1) 116 (lxM mem j L i p false []) mem.length none (lxM mem j L i p true []) :=
  .last lxM_cit (rc_lx kn hD o okS_nil (Nat.zero_le _)) lxM_cit lxM_end
private theorem next_lx1 {cs : List Nat} : NextK X D 116 (lxM mem j L i p true cs) mem.length none (lxM mem j L i p true cs) := .done lxM_cit
end
end
section
open PySem PySem.W PyProof.Rows PySem.Calls PySem.SeqAt
noncomputable def gtL (j J : Nat) (tok : List Nat) : Lc := bd "token" (.str tok) (bd "fiter" (.mref J) (bd "self" (.inst 133 j) []))
section
variable {X : Amb} {D : Nat} {mem : Mem} {j i p : Nat} {Ln : Int} {ts : List (List Nat)} {sc : Names} {P : RP} {body rest : List Stmt} {pp px pi : Pos}
noncomputable def GtTurn (X : Amb) (D : Nat) (sc : Names) (mem : Mem) (j i p : Nat) (Ln : Int) (z : Nat → Bool) (body : List Stmt) : Prop :=
  ∀ (tok : List Nat) (c : Nat) (r : List Nat) (Lc0 : Lc) (P' : RP), Sub0 (gtL j mem.length tok) Lc0 → okS (c :: r) → tok.length + (c :: r).length ≤ 100000 →
    (z c = true → ∀ L', P' (.ret (.str tok)) L' (lxM mem j Ln i p false r)) → (z c = false → ∀ L', Sub0 (gtL j mem.length (tok ++ if c = 92 then r.take 1 else [c])) L' → P' .next L' (lxM mem j Ln i p false (if c = 92 then r.drop 1 else r))) →
    W X D sc body (bd "ch" (.str [c]) Lc0) (lxM mem j Ln i p false r) P'
private theorem gt_loop (kn : KnL X) (hD : 5 ≤ D) (o : LxOk mem j i p ts) {z : Nat → Bool} (hx : okB sc "ch" = true) (hb : GtTurn X (D + 2) sc mem j i p Ln z body) {cs tok : List Nat} {Lc0 : Lc} (hL : Sub0 (gtL j mem.length tok) Lc0) (hc : okS cs) (hz : tok.length + cs.length ≤ 100000)
    (hret : (gTok z tok cs).2.2 = false → ∀ L', P (.ret (.str (gTok z tok cs).1)) L' (lxM mem j Ln i p false (gTok z tok cs).2.1)) (hnext : (gTok z tok cs).2.2 = true → ∀ L', Sub0 (gtL j mem.length (gTok z tok cs).1) L' → W X (D + 2) sc rest L' (lxM mem j Ln i p true (gTok z tok cs).2.1) P) :
    W X (D + 2) sc (.For (.Name "ch" px) (.Name "fiter" pi) body [] pp :: rest) Lc0 (lxM mem j Ln i p false cs) P := by
  generalize hT : gTok z tok cs = T at hret hnext
  refine W.forC kn.mr (.var (hL _ _ rfl)) lxM_cit hx (fun k L m => ∃ tok cs, cs.length < k ∧ m = lxM mem j Ln i p false cs ∧ Sub0 (gtL j mem.length tok) L ∧ gTok z tok cs = T ∧ okS cs ∧ tok.length + cs.length ≤ 100000) (cs.length + 1) ⟨tok, cs, Nat.lt_succ_self _, rfl, hL, hT, hc, hz⟩ (fun k L m h => ?_) fun zz zz => rfl
  obtain ⟨tok, cs, hk, rfl, hL, rfl, hc, hz⟩ := h
  cases cs with
  | nil =>
    rw [gTok_nil] at hnext
    exact .stop (next_lx0 kn hD o) (hnext rfl L hL)
  | cons c r =>
    have hr : okS r := fun d hd => hc d (List.mem_cons_of_mem _ hd)
    rw [gTok_cons] at hret hnext
    rw [List.length_cons] at hk
    have hz0 := hz
    rw [List.length_cons] at hz
    refine .go (next_lx kn hD o hc (by rw [List.length_cons]; lia)) (hb tok c r L _ hL hc hz0 (fun q L' => ?_) fun q L' hL' => ?_)
    · rw [if_pos q] at hret
      exact hret rfl L'
    · have e : gTok z tok (c :: r) = gTok z (tok ++ if c = 92 then r.take 1 else [c]) (if c = 92 then r.drop 1 else r) := by
        rw [gTok_cons, q, if_neg Bool.false_ne_true]
      refine ⟨(if c = 92 then r.drop 1 else r).length + 1, ?_, _, _, Nat.lt_succ_self _, rfl, hL', e.symm, ?_, ?_⟩
      · split
        · rw [List.length_drop]; lia
        · exact hk
      · split
        · exact okS_drop hr
        · exact hr
      · split
        · rw [List.length_append, Nat.add_assoc, ← List.length_append, List.take_append_drop]; lia
        · rw [List.length_append]; show _ + 1 + _ ≤ _; lia
end
end
section
open PySem PySem.W PyProof.Rows PySem.Calls PySem.SeqAt
noncomputable def forB (l : List Stmt) (k : Nat) : List Stmt := match l[k]? with
  | some (.For _ _ b _ _) => b
  | _ => []
set_option backward.match.sparseCases false in
noncomputable def ifB (l : List Stmt) (k : Nat) : List Stmt × List Stmt := match l[k]? with
  | some (.If _ a b _) => (a, b)
  | _ => ([], [])
noncomputable def gtOuter : List Stmt := forB (fdAt clsBody 2).body 3
noncomputable def gtQuote : List Stmt := forB (ifB gtOuter 1).1 0
noncomputable def gtPlain : List Stmt := forB (ifB gtOuter 1).2 2
noncomputable abbrev gtSc : Names := (fdAt clsBody 2).scope.names
private theorem Sub0.bd {A B : Lc} {x : Str} {v : AV} (h : Sub0 A B) : Sub0 (Mine.bd x v A) (Mine.bd x v B) := fun y w q => by
  show List.lookup y ((x, v) :: B) = _
  rcases lookup_set q with ⟨e1, e2⟩ | ⟨hn, e⟩
  · rw [e1, e2]; exact List.lookup_cons_self
  · rw [List.lookup_cons, beq_eq_false_iff_ne.mpr hn]; exact h y w e
section
variable {X : Amb} {D : Nat} {mem : Mem} {j i p : Nat} {Ln : Int} {ts : List (List Nat)}
private theorem gt_quote (kn : KnL X) (hD : 5 ≤ D) (o : LxOk mem j i p ts) : GtTurn X (D + 2) gtSc mem j i p Ln qtB gtQuote := fun tok c r Lc0 P' hL hc hz h1 h2 => by
  have hD4 : 4 ≤ D + 2 := by exact dE hD rfl
  obtain ⟨mN, cl, lx⟩ := kn.cls
  rw [List.length_cons] at hz
  have hr : okS r := fun d hd => hc d (List.mem_cons_of_mem _ hd)
  have hch : okS [c] := okS_1 (hc c List.mem_cons_self)
  have A := lxM_at (L := Ln) (e := false) o hr (by lia)
  refine W.weak (L' := bd "ch" (.str [c]) (gtL j mem.length tok)) (wpS_ok (G := ⟨X, D + 2, gtSc, []⟩) (k := 40) (n := 40) hD4 ⟨.eqS hch (okS_1 (by decide)) hD4, .d (fun h => ?_) fun h => ⟨.eqS hch (okS_1 (by decide)) hD4, .d (fun h9 => ?_) fun h9 => ?_⟩⟩) hL.bd
  · exact h1 (decide_eq_true (List.cons.inj h).1) _
  · have hq : qtB c = false := decide_eq_false fun e => h (congrArg (fun z => [z]) e)
    have h9 : c = 92 := (List.cons.inj h9).1
    have h2 := h2 hq
    rw [if_pos h9, if_pos h9] at h2
    exact ⟨.inst cl lx.rc kn.mr lo_rc A.ns rfl (rc_lx (D := D + 1) kn (Nat.le_succ_of_le hD) o hr (by lia)).to, .iaddS (by rw [List.length_take]; lia), h2 _ (.cons rfl (.cons rfl (.cons rfl .nil)))⟩
  · have hq : qtB c = false := decide_eq_false fun e => h (congrArg (fun z => [z]) e)
    have h9 : ¬ c = 92 := fun e => h9 (congrArg (fun z => [z]) e)
    have h2 := h2 hq
    rw [if_neg h9, if_neg h9] at h2
    exact ⟨.iaddS (by show _ + 1 ≤ _; lia), h2 _ (.cons rfl (.cons rfl (.cons rfl .nil)))⟩
private theorem gt_plain (kn : KnL X) (hD : 5 ≤ D) (o : LxOk mem j i p ts) : GtTurn X (D + 2) gtSc mem j i p Ln wsB gtPlain := fun tok c r Lc0 P' hL hc hz h1 h2 => by
  have hD4 : 4 ≤ D + 2 := by exact dE hD rfl
  obtain ⟨mN, cl, lx⟩ := kn.cls
  rw [List.length_cons] at hz
  have hr : okS r := fun d hd => hc d (List.mem_cons_of_mem _ hd)
  have hch : okS [c] := okS_1 (hc c List.mem_cons_self)
  have A := lxM_at (L := Ln) (e := false) o hr (by lia)
  refine W.weak (L' := bd "ch" (.str [c]) (gtL j mem.length tok)) (wpS_ok (G := ⟨X, D + 2, gtSc, []⟩) (k := 40) (n := 40) hD4 (.mk (.attr cl lx.white lo_white (.var rfl) A.ns rfl trivial fun zz => rfl) ⟨.inS, .d (fun h => ?_) fun h => ⟨.eqS hch (okS_1 (by decide)) hD4, .d (fun h9 => ?_) fun h9 => ?_⟩⟩)) hL.bd
  · exact h1 (decide_eq_true h) _
  · have h9 : c = 92 := (List.cons.inj h9).1
    have h2 := h2 (decide_eq_false h)
    rw [if_pos h9, if_pos h9] at h2
    exact ⟨.inst cl lx.rc kn.mr lo_rc A.ns rfl (rc_lx (D := D + 1) kn (Nat.le_succ_of_le hD) o hr (by lia)).to, .iaddS (by rw [List.length_take]; lia), h2 _ (.cons rfl (.cons rfl (.cons rfl .nil)))⟩
  · have h9 : ¬ c = 92 := fun e => h9 (congrArg (fun z => [z]) e)
    have h2 := h2 (decide_eq_false h)
    rw [if_neg h9, if_neg h9] at h2
    exact ⟨.iaddS (by show _ + 1 ≤ _; lia), h2 _ (.cons rfl (.cons rfl (.cons rfl .nil)))⟩
end
end
section
open PySem PySem.W PyProof.Rows PySem.Calls PySem.SeqAt
private theorem tokF_ws {c : Nat} {r : List Nat} (h : wsB c = true) : tokF (c :: r) = tokF r := by rw [tokF.eq_def]; exact if_pos h
private theorem tokF_qt {c : Nat} {r : List Nat} (h : ¬ wsB c = true) (h2 : c = 34) : tokF (c :: r) = gTok qtB [] r := by rw [tokF.eq_def]; exact (if_neg h).trans (if_pos h2)
private theorem tokF_pl {c : Nat} {r : List Nat} (h : ¬ wsB c = true) (h2 : ¬ c = 34) : tokF (c :: r) = gTok wsB (if c = 92 then r.take 1 else [c]) (if c = 92 then r.drop 1 else r) := by
  rw [tokF.eq_def]
  refine (if_neg h).trans ((if_neg h2).trans ?_)
  by_cases h9 : c = 92
  · rw [if_pos h9, if_pos h9, if_pos h9]
    cases r with
    | nil => exact (gTok_nil _ _).symm
    | cons d r => rfl
  · rw [if_neg h9, if_neg h9, if_neg h9]
section
variable {X : Amb} {D : Nat} {mem : Mem} {j i p : Nat} {Ln : Int} {ts : List (List Nat)}
inductive GtO (mem : Mem) (j i p : Nat) (Ln : Int) (T : List Nat × List Nat × Bool) (k : Nat) (L : Lc) (m : Mem) : Prop
  | run (cs : List Nat) : Sub0 (gtL j mem.length []) L → m = lxM mem j Ln i p false cs → tokF cs = T → cs.length < k → okS cs → cs.length ≤ 100000 → GtO mem j i p Ln T k L m
  | fin (tok cs : List Nat) : Sub0 (gtL j mem.length tok) L → m = lxM mem j Ln i p true cs → T = (tok, cs, true) → GtO mem j i p Ln T k L m
private theorem gt_outer (kn : KnL X) (hD : 5 ≤ D) (o : LxOk mem j i p ts) {cs : List Nat} (hc : okS cs) (hz : cs.length ≤ 100000) {Lc0 : Lc} (hL : Sub0 (gtL j mem.length []) Lc0) : W X (D + 2) gtSc ((fdAt clsBody 2).body.drop 3) Lc0 (lxM mem j Ln i p false cs) (Ret (IsV (AV.str (tokF cs).1) (lxM mem j Ln i p (tokF cs).2.2 (tokF cs).2.1))) := by
  have hD4 : 4 ≤ D + 2 := by exact dE hD rfl
  obtain ⟨mN, cl, lx⟩ := kn.cls
  generalize hT : tokF cs = T
  refine W.forC kn.mr (.var (hL _ _ rfl)) lxM_cit rfl (GtO mem j i p Ln T) (cs.length + 1) (.run cs hL rfl hT (Nat.lt_succ_self _) hc hz) (fun k L m h => ?_) fun zz zz => rfl
  have ret : ∀ {L' : Lc} {tok : List Nat} {m' : Mem}, Sub0 (gtL j mem.length tok) L' → IsV (AV.str T.1) (lxM mem j Ln i p T.2.2 T.2.1) (AV.str tok) m' → W X (D + 2) gtSc ((fdAt clsBody 2).body.drop 4) L' m' (Ret (IsV (AV.str T.1) (lxM mem j Ln i p T.2.2 T.2.1))) := fun h1 h2 => .ret (.var (h1 _ _ rfl)) h2
  cases h with
  | fin tok cs hL hm hT => subst hm; subst hT; exact .stop next_lx1 (ret hL .mk)
  | run cs hL hm hT hk hc hz =>
    subst hm
    cases cs with
    | nil => subst hT; exact .stop (next_lx0 kn hD o) (ret hL .mk)
    | cons c r =>
      have hr : okS r := fun d hd => hc d (List.mem_cons_of_mem _ hd)
      have hch : okS [c] := okS_1 (hc c List.mem_cons_self)
      have hz1 := hz
      rw [List.length_cons] at hz1 hk
      have A := lxM_at (L := Ln) (e := false) o hr (Nat.le_of_lt hz)
      refine .go (next_lx kn hD o hc hz) (W.weak (L' := bd "ch" (.str [c]) (gtL j mem.length [])) (wpS_ok (G := ⟨X, D + 2, gtSc, []⟩) (k := 40) (n := 40) hD4 (.mk (.attr cl lx.white lo_white (.var rfl) A.ns rfl trivial fun zz => rfl) ⟨.inS, .d (fun h => ?_) fun h => ⟨.eqS hch (okS_1 (by decide)) hD4, .d (fun hq => ?_) fun hq => ?_⟩⟩)) hL.bd)
      · exact ⟨r.length + 1, by exact hk, .run r (.cons rfl (.cons rfl (.cons rfl .nil))) rfl ((tokF_ws (decide_eq_true h)).symm.trans hT) (Nat.lt_succ_self _) hr (Nat.le_of_lt hz)⟩
      · have e := (tokF_qt (r := r) (fun q => h (of_decide_eq_true q)) (List.cons.inj hq).1).symm.trans hT
        subst e
        exact gt_loop kn hD o (tok := []) (z := qtB) (body := gtQuote) rfl (gt_quote kn hD o) (.cons rfl (.cons rfl (.cons rfl .nil))) hr (by rw [List.length_nil]; lia) (fun q L' => by rw [q]; exact .mk) fun q L' hL' => .nil ⟨0, by exact dA hk rfl, .fin _ _ hL' rfl (by rw [← q])⟩
      · have e := (tokF_pl (r := r) (fun q => h (of_decide_eq_true q)) (fun q => hq (congrArg (fun z => [z]) q))).symm.trans hT
        refine ⟨.eqS hch (okS_1 (by decide)) hD4, .d (fun h9 => ?_) fun h9 => ?_⟩
        · have h9 : c = 92 := (List.cons.inj h9).1
          rw [if_pos h9, if_pos h9] at e
          subst e
          refine ⟨.inst cl lx.rc kn.mr lo_rc A.ns rfl (rc_lx (D := D + 1) kn (Nat.le_succ_of_le hD) o hr (Nat.le_of_lt hz)).to, .iaddS (by rw [List.length_nil, List.length_take]; lia), ?_⟩
          exact gt_loop kn hD o (tok := r.take 1) (cs := r.drop 1) (z := wsB) (body := gtPlain) rfl (gt_plain kn hD o) (.cons rfl (.cons rfl (.cons rfl .nil))) (okS_drop hr) (by rw [List.length_take, List.length_drop]; lia) (fun q L' => by rw [q]; exact .mk) fun q L' hL' => .nil ⟨0, by exact dA hk rfl, .fin _ _ hL' rfl (by rw [← q])⟩
        · have h9 : ¬ c = 92 := fun e => h9 (congrArg (fun z => [z]) e)
          rw [if_neg h9, if_neg h9] at e
          subst e
          refine ⟨.iaddS (by show 0 + 1 ≤ _; decide), ?_⟩
          exact gt_loop kn hD o (tok := [c]) (cs := r) (z := wsB) (body := gtPlain) rfl (gt_plain kn hD o) (.cons rfl (.cons rfl (.cons rfl .nil))) hr (by show 1 + _ ≤ _; lia) (fun q L' => by rw [q]; exact .mk) fun q L' hL' => .nil ⟨0, by exact dA hk rfl, .fin _ _ hL' rfl (by rw [← q])⟩
end
end
section
open PySem PySem.W PyProof.Rows PySem.Calls PySem.SeqAt
private theorem set_same {α : Type} {l : List α} {i : Nat} {x : α} (h : l[i]? = some x) : l.set i x = l := by
  obtain ⟨hi, e⟩ := List.getElem?_eq_some_iff.mp h
  subst e
  exact List.set_getElem_self hi
section
variable {X : Amb} {D : Nat} {m : Mem} {j i p : Nat} {ln : Int} {cs : List Nat} {ts : List (List Nat)}
private theorem lxM_start (L : LexAt m j ln i p cs ts) : sn m (.cit (some (116, 133, j))) = lxM m j (ln + (cs.count 10 : Nat)) i p false cs := by
  have h1 : m.set i (.lst (cs.map sgAV)) = m := set_same L.hcs
  have h2 : m.set j (.ns (lexNs ln i p)) = m := set_same L.ns
  unfold lxM
  rw [h1, Int.add_sub_cancel, h2]; rfl
private theorem LexAt.lx (L : LexAt m j ln i p cs ts) : LxOk m j i p ts := ⟨L.lt.1, L.lt.2.1, L.hts, L.ij, L.pj, L.ip, L.tz⟩
private theorem op_gtPush (kn : KnL X) (hD : 4 ≤ D) {t : List Nat} (L : LexAt m j ln i p cs (t :: ts)) : Call X (D + 1) (opF 123) m [.inst 133 j] (.str t) (m.set p (.lst (ts.map .str))) := by
  obtain ⟨mN, cl, lx⟩ := kn.cls
  have hz := L.tz
  rw [List.length_cons] at hz
  have hz2 : (ts.map AV.str).length ≤ 2 ^ 23 := by rw [List.length_map]; exact dD hz rfl
  exact kn.mg.meth kn.lim hD (ps := ["self"]) [] (by rfl) (fun zz zz zz zz zz => rfl) rfl (.mk (.attr cl lx.pushback lo_pushback (.var rfl) L.ns rfl trivial fun zz => rfl) ⟨.mref L.hts (by rw [List.length_map, List.length_cons]; exact dB hz rfl), .t rfl (.mk (.attr cl lx.pushback lo_pushback (.var rfl) L.ns rfl trivial fun zz => rfl) ⟨.pop0 L.hts L.hts hz2 rfl, .mk⟩)⟩)
private theorem op_gt (kn : KnL X) (hD : 7 ≤ D) (L : LexAt m j ln i p cs []) : Call X (D + 1) (opF 123) m [.inst 133 j] (.str (tokF cs).1) (lxM m j (ln + (cs.count 10 : Nat)) i p (tokF cs).2.2 (tokF cs).2.1) := by
  obtain ⟨D, rfl⟩ : ∃ d, D = d + 2 := ⟨D - 2, by lia⟩
  have hD4 : 4 ≤ D + 2 := by exact dA hD rfl
  obtain ⟨mN, cl, lx⟩ := kn.cls
  refine (kn.mg.callC (ps := ["self"]) kn.lim (cloOk (by rfl)) (fun zz zz zz zz zz => rfl) rfl (.app (pre := (fdAt clsBody 2).body.take 2) (rest := (fdAt clsBody 2).body.drop 2) (wpS_ok (G := ⟨X, D + 2, gtSc, []⟩) (k := 40) (n := 40) hD4 (.mk (.attr cl lx.pushback lo_pushback (.var rfl) L.ns rfl trivial fun zz => rfl) ⟨.mref L.hts (Nat.zero_le _), .f rfl ?_⟩)))).to
  refine W.set (.iterM cl lx.rc kn.mr lo_rc (by rfl) rfl (kn.bu "iter" _ rfl) (fun zz => rfl) (.cons (fun zz => rfl) (.cons (fun zz => rfl) .nil)) (fun zz => rfl) (.var rfl) L.ns rfl) (noSwap_c rfl) rfl ?_
  rw [lxM_start L]
  exact gt_outer kn (dC hD rfl) L.lx L.ok L.sz (.cons rfl (.cons rfl (.cons rfl .nil)))
end
end
section
open PySem PySem.W PyProof.Rows PySem.Calls PySem.SeqAt
private theorem set_app_lt {α : Type} {l r : List α} {j : Nat} {x : α} (h : j < l.length) : (l ++ r).set j x = l.set j x ++ r := List.set_append_left _ _ h
private theorem IsV.of {α : Type} {v : α} {m m' : Mem} (h : m' = m) : IsV v m v m' := h ▸ .mk
private theorem ini_set {m : Mem} {j : Nat} {A B C F x : AObj} (h : j < m.length) : (sn (((m.set j A).set j B).set j C) x).set j F = sn (m.set j F) x := by
  unfold sn
  rw [set_app_lt (by simp only [List.length_set]; exact h), List.set_set, List.set_set, List.set_set]
private theorem ini_len {m : Mem} {j : Nat} {A B C : AObj} : (((m.set j A).set j B).set j C).length = m.length := by simp only [List.length_set]
section
variable {X : Amb} {D : Nat} {m : Mem} {j i : Nat}
private theorem op_init (kn : KnL X) (hD : 4 ≤ D) (hj : m[j]? = some (.ns [])) : CallC X (D + 1) 109 m [.inst 133 j, .strm lamRead i] .none (sn (m.set j (.ns (lexNs 1 i m.length))) (.lst [])) := by
  obtain ⟨mN, cl, lx⟩ := kn.cls
  have lj : j < m.length := (List.getElem?_eq_some_iff.mp hj).1
  refine kn.mi'.methC kn.lim hD (ps := ["self", "fp"]) [] (by rfl) (fun zz zz zz zz zz zz => rfl) rfl ?_
  refine W.setAttr cl lx.lineno lo_lineno (noSwap_c rfl) .int (.var rfl) hj (by decide) (.setAttr cl lx.instream lo_instream (noSwap_c rfl) (.var rfl) (.var rfl) (List.getElem?_set_self lj) (by decide) (.setAttr cl lx.white lo_white (noSwap_c rfl) .str (.var rfl) (List.getElem?_set_self (by rw [List.length_set]; exact lj)) (by show 2 ≤ 1000; decide) (.setAttr cl lx.pushback lo_pushback (noSwap_c rfl) (.wp (G := ⟨X, D, _, []⟩) (k := 40) hD .mk) (.var rfl) (l := [("lineno", .int 1), ("instream", .strm lamRead i), ("whitespace", .str [10, 9, 13, 32])]) ?_ (by show 3 ≤ 1000; decide) (.nil ?_))))
  · have : ∀ {l : Mem} {x y : AObj}, j < l.length → l[j]? = some x → (sn l y)[j]? = some x := fun h e => (List.getElem?_append_left h).trans e
    refine this (by simp only [List.length_set]; exact lj) (List.getElem?_set_self (by simp only [List.length_set]; exact lj))
  · exact .of ((ini_set lj).trans (congrArg (fun n => sn (m.set j (.ns (lexNs 1 i n))) (.lst [])) ini_len))
end
end
section
open PySem PySem.W PyProof.Rows PySem.Calls PySem.SeqAt
noncomputable def lexMem (m : Mem) (t : List Nat) : Mem := sn (sn (sn m (.lst (t.map sgAV))) (.ns (lexNs 1 m.length (m.length + 2)))) (.lst [])
private theorem closL_left {cells : List (Str × Addr)} {c : Addr} (h : cells.lookup ("left" : Str) = some c) : closL cells ([("count", .local), ("left", .free)] : Names) [] = ([("left", c)] : List (Str × Addr)) := by
  show (List.filterMap (frC cells) ([("count", .local), ("left", .free)] : Names)).reverse ++ [] = _
  have e : frC cells (("left" : Str), .free) = some (("left" : Str), c) := by show (cells.lookup _).map _ = _; rw [h]; rfl
  rw [List.filterMap_cons_none rfl, List.filterMap_cons_some e]; rfl
section
variable {X : Amb} {D : Nat} {m : Mem} {t : List Nat}
noncomputable abbrev lexSc : Names := (fdAt prog1 20).scope.names
noncomputable abbrev lexLam : Names := ([("count", .local), ("left", .free)] : Names)
private theorem lex_ret (kn : KnM X) (hD : 20 ≤ D) {L : Lc} (h : L.lookup ("stream" : Str) = some (.strm lamRead m.length)) {p1 p2 p3 : Pos} : PE X D (kept lexLam lexSc) (.Call (.Name "_netrclex" p1) [.Name "stream" p2] [] p3) L (sn m (.lst (t.map sgAV))) (.inst 133 (m.length + 1)) (lexMem m t) := by
  obtain ⟨mN, cl, lx⟩ := kn.cls
  obtain ⟨D, rfl⟩ : ∃ d, D = d + 2 := ⟨D - 2, by lia⟩
  have o : CallC X (D + 1) 109 (sn (sn m (.lst (t.map sgAV))) (.ns [])) [.inst 133 (m.length + 1), .strm lamRead m.length] .none (lexMem m t) := by
    have := op_init (D := D) (m := sn (sn m (.lst (t.map sgAV))) (.ns [])) (j := m.length + 1) (i := m.length) kn.toKnL (dC hD rfl) (by rw [← sn_len m (.lst (t.map sgAV)), sn_get])
    rw [← sn_len m (.lst (t.map sgAV)), sn_set, sn_len, sn_len, sn_len] at this
    exact this
  have o2 := makeC (C := 133) (f := 109) (m := sn m (.lst (t.map sgAV))) (avs := [.strm lamRead m.length]) kn.mkc (by rw [sn_len]; exact o)
  rw [sn_len] at o2
  exact (Fn.cls cl kn.gcls o2) _ _ _ _ _ _ (by rfl) (.cons (fun zz => rfl) (.var h) .nil)
private theorem lex_body (kn : KnM X) (hD : 20 ≤ D) (ht : t.length ≤ 2 ^ 23) : WE X D lexSc (.ref 155) "_law_lexer.<locals>." (fdAt prog1 20).body [("text", .str t)] m (Ret (IsV (.inst 133 (m.length + 1)) (lexMem m t))) := fun env own A c e1 e2 T Q E k => by
  have evList : PE X D lexSc (.Call (.Name "list" ⟨215, 20, 215, 24⟩) [.Name "text" ⟨215, 25, 215, 29⟩] [] ⟨215, 20, 215, 30⟩) [("text", .str t)] m (.mref m.length) (sn m (.lst (t.map sgAV))) := .wp (G := ⟨X, D, _, []⟩) (k := 40) (dA hD rfl) ⟨.t (kn.bu "list" _ rfl) (.listS ht), .mk⟩
  refine wpAny_execs_cons (Assign_Tuple (wpAny_Tuple (wpAny_items_cons (evList.go T fun v1 d1 l1 F1 r1 => ?_) rfl)) rfl (swStores (by rfl) env T.F.N.names T.F.N.kind))
  refine wpAny_items_cons (lamGo false kn.s_lexer (T.on F1) e1 (by rw [e2]) rfl rfl (by decide) ⟨_, .head _, rfl⟩ fun f d2 fo cd md F2 => wpAny_items_nil ⟨by simp [sizeLine_is], ?_⟩) rfl
  have g3 := Got.newTup md.h (.cons (r1.up md.l) (.one (.ext (.ref f)))) d2.s.toks
  refine Asg.tup (xs := ["left", "stream"]) (.cons rfl (.cons rfl .nil)) rfl env own A _ _ _ T.R T.T (F2.keep g3.l g3.h) g3.r _ _ fun d4 l4 F4 => ?_
  refine wpAny_execs_cons (plainObj_wpAny_Assign_Attribute (lamGo true kn.s_lexer (T.on F4) e1 (by rw [e2]) rfl rfl (by decide) ⟨_, .tail _ (.head _), rfl⟩ fun rl d5 ro cd5 md5 F5 => ?_) rfl)
  refine (PE.var (av := .ext (.ref f)) rfl).go (T.on F5) fun vo d6 l6 F6 r6 => ?_
  cases r6.i_ext
  have fno : f ∉ own := fun h => by obtain ⟨o, e⟩ := (F1.ow f h).1; rw [md.nw] at e; cases e
  have fnc : ∀ n a, env.cells.lookup n = some a → a ≠ f := fun n a h q => by
    obtain ⟨o, e⟩ := F1.N.cel n a h
    rw [q] at e; rcases e with e | e <;> (rw [md.nw] at e; cases e)
  have e4 : d4.M.h f = some (.pin fo) := l4.h _ _ fno (g3.l.h _ _ md.f)
  have e6 : d6.M.h f = some (.pin fo) := l6.h _ _ fno (md5.l.h _ _ e4)
  have l06 : ∀ a x, a ∉ own → c.M.h a = some x → d6.M.h a = some x ∧ a ≠ f := fun a x n e =>
    have e1 := l1.h a x n e
    ⟨l6.h a x n (md5.l.h a x (l4.h a x n (g3.l.h a x (md.l.h a x e1)))), fun q => by rw [q, md.nw] at e1; cases e1⟩
  obtain ⟨fd, ho1, ho2, ho3⟩ := md.p.fn
  obtain ⟨⟨h6, g6, dr6, t6, o6⟩, M6⟩ := d6
  have hf6 : h6.get? f = some fo := F6.S.pin e6
  refine fn_setAttr hf6 ho1 ho2 ho3 fun h' tk' dd hd0 hf' hn' hx => ?_
  have nd : M6.h dd = none := F6.S.fresh hd0
  have ndf : dd ≠ f := fun q => by rw [q, e6] at nd; cases nd
  obtain ⟨od, es, ep, q1, q2, q3, q4, q5⟩ := hn'
  have nB : X.B.h f = none := by
    cases q : X.B.h f with
    | none => rfl
    | some y => have := F1.S.x.h _ _ q; rw [md.nw] at this; cases this
  have S7 : Sep X { (⟨h6, g6, dr6, t6, o6⟩ : Shared) with heap := h', toks := tk' } (M6.set f (.frz { fo with dict := some dd })) (sn m (.lst (t.map sgAV))) :=
    F6.S.put (fun y e n => by rw [e6] at e; cases e; exact absurd rfl (n _)) (fun y e => by rw [nB] at e; cases e) (fun b o hb e => hx b o hb e) (fun zz zz zz zz => rfl) nofun (.frz hf')
  have nd7 : (M6.set f (.frz { fo with dict := some dd })).h dd = none := (Map.set_ne _ _ ndf).trans nd
  have S8 := S7.putNew (h' := h') (tk := tk') (x := .frz od) nd7 (fun zz zz zz e => e) (fun zz zz zz zz => rfl) nofun (.frz q1)
  have k8 : ∀ a x, a ≠ f → M6.h a = some x → ((M6.set f (.frz { fo with dict := some dd })).set dd (.frz od)).h a = some x := fun a x n e => by
    rw [Map.set_ne _ _ (fun q => by rw [q, nd] at e; cases e), Map.set_ne _ _ n]; exact e
  have F8 := F6.keepB (d := ⟨_, _⟩) (fun a x e n => k8 a x (fun q => by rw [q, e6] at e; cases e; exact n _ rfl) e) (fun a ha x e => k8 a x (fun q => fno (q ▸ ha)) e) (fun n a h x e => k8 a x (fnc n a h) e) S8
  obtain ⟨X', own', c', g⟩ := (T.on F8).give (names := lexLam) (by rfl)
  obtain ⟨_, cl, oc, vl, hcl, hoc, hcd, rl'⟩ := g.F.var "left" (.mref m.length) rfl
  cases rl'.i_mref with
  | @mk l hl =>
    have x9 := g.T.F.S.x
    have n5 : ∀ a o, d5.M.h a = some (.frz o) → a ∉ own := fun a o e h => by obtain ⟨o', e'⟩ := (F5.ow a h).1; rw [e] at e'; cases e'
    have lf : d5.M.lef X'.B := fun a o e =>
      have e7 := l6.h a _ (n5 a o e) e
      g.l _ _ (k8 a _ (fun q => by rw [q, e6] at e7; cases e7) e7)
    obtain ⟨o2, fd2, hlam⟩ := md5.p.at' (lf _ _ md5.f) (closL_left (mem_closL (mem_of_lookup hcl)).2) (md5.c.up lf)
    have hst : StrmAt X'.B lamRead f l := ⟨_, fd, dd, od, es, ep, rl, o2, fd2, cl, oc, {
      m := g.l _ _ ((Map.set_ne _ _ ndf.symm).trans (Map.set_at _ _ _)), cls := ho1, data := ho3, dict := rfl, md := g.l _ _ (Map.set_at _ _ _), dd := q2, keys := q3, find := fun n => q5 n
      lam := hlam, mc := hoc, cd := hcd }⟩
    have N9 : EnvOk env (kept lexLam lexSc) c'.M (bd "stream" (.strm lamRead m.length) (binds ["left", "stream"] [.mref m.length, .ext (.ref f)] [("text", .str t)])) := { g.T.F.N with
      var := fun x av h => by
        rcases lookup_set h with ⟨e1, e2⟩ | ⟨_, h⟩
        · obtain ⟨v, r, z⟩ := g.T.F.N.var "stream" (.ext (.ref f)) rfl
          rw [r.i_ext] at z
          rw [e1, e2]
          exact ⟨_, (Rep.strm hst hl).up x9, z⟩
        · exact g.T.F.N.var x av h }
    have ev := lex_ret (X := X) (D := D) (m := m) (t := t) kn hD (L := bd "stream" (.strm lamRead m.length) (binds ["left", "stream"] [.mref m.length, .ext (.ref f)] [("text", .str t)])) rfl (p1 := ⟨217, 11, 217, 20⟩) (p2 := ⟨217, 21, 217, 27⟩) (p3 := ⟨217, 11, 217, 28⟩) env A c' ⟨T.R, N9, { g.T.F.S with x := g.b.tr x9, os := g.T.F.S.os.trans (by rw [g.o]; rfl) }⟩
    rw [g.s] at ev
    refine wpAny_execs_cons (wpAny_Return_some (ev _ _ fun v d9 g9 => ?_))
    have fin := g.k (P := Ret (IsV (.inst 133 (m.length + 1)) (lexMem m t))) (v := .ret v) (d := d9) (fl := .ret (.inst 133 (m.length + 1))) (L' := []) (m' := lexMem m t) ⟨g9.l.b own', { g9.h with x := x9.tr g9.l, os := g9.h.os.trans (by rw [g.o]; rfl) }, .ret g9.r, .mk⟩
    exact k _ d9 _ _ _ (fin.fr ⟨fun a x n e => (l06 a x n e).elim fun h1 h2 => k8 a x h2 h1, fun i x e => l6.g i x (md5.l.g i x (l4.g i x (g3.l.g i x (md.l.g i x (l1.g i x e)))))⟩)
private theorem op_lexer (kn : KnM X) (hD : 20 ≤ D) (ht : t.length ≤ 2 ^ 23) : Fn X (D + 1) "_law_lexer" m [.str t] (.inst 133 (m.length + 1)) (lexMem m t) := by
  obtain ⟨o, doc, pm, ct, h⟩ := kn.f_lexer.f
  exact .f kn.f_lexer.g ⟨o, doc, pm, _, ct, h⟩ (h.call kn.lim (fnOk (ps := ["text"]) (by rfl)) (fun zz zz zz zz zz => rfl) rfl (lex_body kn hD ht)).to
end
end
section
inductive Tr | leaf | node (l r : Tr)
deriving DecidableEq
noncomputable def enc : Tr → List Nat
  | .leaf => [41]
  | .node l r => 40 :: (enc l ++ enc r)
noncomputable def Tr.sz : Tr → Nat
  | .leaf => 0
  | .node l r => l.sz + r.sz + 1
private theorem enc_len : ∀ T : Tr, (enc T).length = 2 * T.sz + 1
  | .leaf => rfl
  | .node l r => by simp [enc, Tr.sz, enc_len l, enc_len r]; lia
private theorem enc_41 : ∀ T : Tr, (enc T).count 41 = T.sz + 1
  | .leaf => rfl
  | .node l r => by simp [enc, Tr.sz, enc_41 l, enc_41 r]; lia
noncomputable def par (c : Nat) : Prop := c = 40 ∨ c = 41
private theorem enc_par : ∀ (T : Tr), ∀ c ∈ enc T, par c
  | .leaf, c, h => by simp [enc] at h; exact .inr h
  | .node l r, c, h => by
    simp only [enc, List.mem_cons, List.mem_append] at h
    rcases h with h | h | h
    · exact .inl h
    · exact enc_par l c h
    · exact enc_par r c h
private theorem enc_last : ∀ T : Tr, (enc T).getLast? = some 41
  | .leaf => rfl
  | .node l r => by
    simp only [enc]
    rw [List.getLast?_cons, List.getLast?_append, enc_last r]; rfl
noncomputable def rowT (T : Tr) : List Nat := (enc T).dropLast
private theorem rowT_snoc (T : Tr) : rowT T ++ [41] = enc T := by
  obtain ⟨ys, h⟩ := List.getLast?_eq_some_iff.mp (enc_last T)
  unfold rowT; rw [h]; simp
private theorem rowT_len (T : Tr) : (rowT T).length = 2 * T.sz := by
  have := congrArg List.length (rowT_snoc T)
  rw [enc_len] at this; simp at this; exact this
private theorem rowT_par (T : Tr) : ∀ c ∈ rowT T, par c := fun c h => enc_par T c (by rw [← rowT_snoc]; exact List.mem_append_left _ h)
private theorem rowT_node (l r : Tr) : rowT (.node l r) = 40 :: (rowT l ++ 41 :: rowT r) := by
  have h : rowT (.node l r) ++ [41] = (40 :: (rowT l ++ 41 :: rowT r)) ++ [41] := by
    rw [rowT_snoc, enc, ← rowT_snoc l, ← rowT_snoc r]; simp
  exact List.append_cancel_right h
private theorem rowT_leaf : rowT .leaf = [] := rfl
noncomputable def dep : Nat → List Nat → Option Nat
  | d, [] => some d
  | d, c :: r => if c = 40 then dep (d + 1) r else if d = 0 then none else dep (d - 1) r
private theorem dep_enc : ∀ (T : Tr) (d : Nat) (r : List Nat), dep (d + 1) (enc T ++ r) = dep d r
  | .leaf, d, r => by simp [enc, dep]
  | .node a b, d, r => by
    simp only [enc, List.cons_append, List.append_assoc, dep, if_pos]
    rw [dep_enc a (d + 1), dep_enc b d]
private theorem dep_pre : ∀ (T : Tr) (d k : Nat), k < (enc T).length → ∃ e, d ≤ e ∧ dep d ((enc T).take k) = some e
  | .leaf, d, k, h => by
    have : k = 0 := by simp [enc] at h; exact h
    subst this; exact ⟨d, Nat.le_refl _, rfl⟩
  | .node a b, d, 0, _ => ⟨d, Nat.le_refl _, rfl⟩
  | .node a b, d, k + 1, h => by
    simp only [enc, List.take_succ_cons, dep, if_pos]
    simp only [enc, List.length_cons, List.length_append] at h
    by_cases hk : k < (enc a).length
    · obtain ⟨e, h1, h2⟩ := dep_pre a (d + 1) k hk
      refine ⟨e, by exact Nat.le_of_lt h1, ?_⟩
      rw [List.take_append_of_le_length (Nat.le_of_lt hk)]; exact h2
    · obtain ⟨e, h1, h2⟩ := dep_pre b d (k - (enc a).length) (by lia)
      refine ⟨e, h1, ?_⟩
      rw [List.take_append, List.take_of_length_le (by lia), dep_enc a d]; exact h2
private theorem esc_par : ∀ (l : List Nat) (i : Nat), (∀ c ∈ l, par c) → (esc i false l).map (·.2) = l.map fun c => [c]
  | [], _, _ => rfl
  | c :: r, i, h => by
    have hc : c ≠ 92 := by rcases h c List.mem_cons_self with rfl | rfl <;> decide
    simp only [esc, if_neg hc, List.map_cons]
    rw [esc_par r (i + 1) fun d hd => h d (List.mem_cons_of_mem _ hd)]
private theorem open_none : ∀ l : List (Nat × List Nat), l.foldl openStep none = none
  | [] => rfl
  | _ :: r => open_none r
private theorem open_par : ∀ (l : List (Nat × List Nat)) (m : List Nat) (d : Nat), l.map (·.2) = m.map (fun c => [c]) → (∀ c ∈ m, par c) → l.foldl openStep (some (d : Int)) = (dep d m).map fun n => (n : Int)
  | [], [], d, _, _ => rfl
  | [], _ :: _, _, h, _ => by simp at h
  | _ :: _, [], _, h, _ => by simp at h
  | x :: l, c :: m, d, h, hp => by
    simp only [List.map_cons, List.cons.injEq] at h
    have hp' : ∀ c ∈ m, par c := fun d hd => hp d (List.mem_cons_of_mem _ hd)
    rw [List.foldl_cons]
    rcases hp c List.mem_cons_self with rfl | rfl
    · have e : openStep (some (d : Int)) x = some ((d + 1 : Nat) : Int) := by simp [openStep, h.1]
      have e2 : dep d (40 :: m) = dep (d + 1) m := by simp [dep]
      rw [e, e2]; exact open_par l m (d + 1) h.2 hp'
    · rcases d with _ | d
      · have e : openStep (some ((0 : Nat) : Int)) x = none := by simp [openStep, h.1]
        have e2 : dep 0 (41 :: m) = none := by simp [dep]
        rw [e, e2]; exact open_none l
      · have e : openStep (some ((d + 1 : Nat) : Int)) x = some (d : Int) := by
          simp only [openStep, h.1, show ¬(([41] : List Nat) = [40]) by decide, if_false, if_true]
          rw [if_neg (by lia)]; congr 1; lia
        have e2 : dep (d + 1) (41 :: m) = dep d m := by simp [dep]
        rw [e, e2]; exact open_par l m d h.2 hp'
private theorem checkF_par {l : List Nat} (h : ∀ c ∈ l, par c) : checkF l = decide (dep 0 l = some 0) := by
  have hs : stripF l = l := by
    unfold stripF
    rw [if_neg (fun hm => by rcases h _ hm with h | h <;> cases h)]
  unfold checkF
  rw [hs, show ((0 : Int)) = ((0 : Nat) : Int) from rfl, open_par _ l 0 (esc_par l 0 h) h]
  cases dep 0 l with
  | none => rfl
  | some n => simp
private theorem check_pre (T : Tr) (k : Nat) (hk : k < (enc T).length) : checkF (40 :: (enc T).take k) = false := by
  rw [checkF_par (fun c hc => by
    rcases List.mem_cons.mp hc with rfl | hc
    · exact .inl rfl
    · exact enc_par T c (List.mem_of_mem_take hc))]
  obtain ⟨e, h1, h2⟩ := dep_pre T 1 k hk
  simp only [dep, if_pos]
  rw [h2]; simp; exact Nat.ne_of_gt h1
private theorem check_enc (T : Tr) : checkF (40 :: enc T) = true := by
  rw [checkF_par (fun c hc => by
    rcases List.mem_cons.mp hc with rfl | hc
    · exact .inl rfl
    · exact enc_par T c hc)]
  have := dep_enc T 0 []
  simp only [List.append_nil] at this
  simp only [dep, if_pos]
  rw [this]; rfl
end
section
noncomputable abbrev St := Nat → Bool
noncomputable abbrev Wd := List Bool
noncomputable def cons (b : Bool) (x : St) : St := fun n => match n with
  | 0 => b
  | n + 1 => x n
noncomputable def tl (x : St) : St := fun n => x (n + 1)
private theorem cons_tl (x : St) : cons (x 0) (tl x) = x := by
  funext n; cases n <;> rfl
private theorem tl_cons (b : Bool) (x : St) : tl (cons b x) = x := rfl
private theorem cons_inj {b c : Bool} {x y : St} (h : cons b x = cons c y) : b = c ∧ x = y := ⟨congrFun h 0, by rw [← tl_cons b x, h, tl_cons]⟩
noncomputable def pre : Wd → St → St
  | [], x => x
  | b :: w, x => cons b (pre w x)
private theorem pre_app : ∀ (v w : Wd) (x : St), pre (v ++ w) x = pre v (pre w x)
  | [], _, _ => rfl
  | b :: v, w, x => by simp only [List.cons_append, pre]; rw [pre_app v w x]
private theorem pre_inj : ∀ {v w : Wd}, (∀ x, pre v x = pre w x) → v = w
  | [], [], _ => rfl
  | [], b :: w, h => by
    have := congrFun (h fun zz => !b) 0
    simp [pre, cons] at this
  | b :: w, [], h => by
    have := congrFun (h fun zz => !b) 0
    simp [pre, cons] at this
  | b :: v, c :: w, h => by
    obtain ⟨rfl, _⟩ := cons_inj (h fun zz => false)
    rw [pre_inj (v := v) (w := w) fun x => (cons_inj (h x)).2]
noncomputable def Tr.lv : Tr → Nat
  | .leaf => 1
  | .node l r => l.lv + r.lv
private theorem lv_sz : ∀ T : Tr, T.lv = T.sz + 1
  | .leaf => rfl
  | .node l r => by simp only [Tr.lv, Tr.sz, lv_sz l, lv_sz r]; lia
private theorem lv_pos (T : Tr) : 0 < T.lv := by rw [lv_sz]; lia
noncomputable def words : Tr → List Wd
  | .leaf => [[]]
  | .node l r => (words l).map (false :: ·) ++ (words r).map (true :: ·)
private theorem words_len : ∀ T : Tr, (words T).length = T.lv
  | .leaf => rfl
  | .node l r => by simp [words, Tr.lv, words_len l, words_len r]
noncomputable def gen : Tr → List (St → St) → St → St
  | .leaf, fs, x => (fs.headD id) x
  | .node l r, fs, x => if x 0 then gen r (fs.drop l.lv) (tl x) else gen l (fs.take l.lv) (tl x)
private theorem gen_comp (g : St → St) : ∀ (A : Tr) (fs : List (St → St)) (x : St), fs.length = A.lv → g (gen A fs x) = gen A (fs.map fun f y => g (f y)) x
  | .leaf, [f], x, _ => rfl
  | .leaf, [], x, h => by simp [Tr.lv] at h
  | .leaf, _ :: _ :: _, x, h => by simp [Tr.lv] at h
  | .node l r, fs, x, h => by
    simp only [Tr.lv] at h
    simp only [gen]
    split
    · rw [gen_comp g r _ _ (by rw [List.length_drop]; lia), List.map_drop]
    · rw [gen_comp g l _ _ (by rw [List.length_take]; lia), List.map_take]
private theorem gen_app {l r : Tr} {f g : List (St → St)} (h : f.length = l.lv) (x : St) : gen (.node l r) (f ++ g) x = if x 0 then gen r g (tl x) else gen l f (tl x) := by
  simp only [gen, ← h, List.drop_left, List.take_left]
private theorem gen_words : ∀ (A : Tr) (x : St), gen A ((words A).map pre) x = x
  | .leaf, x => rfl
  | .node l r, x => by
    rw [words, List.map_append, gen_app (by simp [words_len])]
    simp only [List.map_map]
    have e1 : (words l).map (pre ∘ fun w => false :: w) = ((words l).map pre).map fun f y => cons false (f y) := by rw [List.map_map]; rfl
    have e2 : (words r).map (pre ∘ fun w => true :: w) = ((words r).map pre).map fun f y => cons true (f y) := by rw [List.map_map]; rfl
    rw [e1, e2, ← gen_comp (cons true) r _ _ (by simp [words_len]), ← gen_comp (cons false) l _ _ (by simp [words_len]), gen_words l, gen_words r]
    conv => rhs; rw [← cons_tl x]
    split <;> simp [*]
private theorem gen_pre : ∀ (B : Tr) (fs : List (St → St)), fs.length = B.lv → ((words B).map fun b y => gen B fs (pre b y)) = fs
  | .leaf, [f], _ => rfl
  | .leaf, [], h => by simp [Tr.lv] at h
  | .leaf, _ :: _ :: _, h => by simp [Tr.lv] at h
  | .node l r, fs, h => by
    simp only [Tr.lv] at h
    have e : fs = fs.take l.lv ++ fs.drop l.lv := (List.take_append_drop _ _).symm
    have h1 := gen_pre l (fs.take l.lv) (by rw [List.length_take]; lia)
    have h2 := gen_pre r (fs.drop l.lv) (by rw [List.length_drop]; lia)
    rw [words, List.map_append, List.map_map, List.map_map]
    conv => rhs; rw [e]
    exact congr (congrArg _ h1) h2
noncomputable def phi (A B : Tr) (x : St) : St := gen A ((words B).map pre) x
private theorem phi_id (A : Tr) (x : St) : phi A A x = x := gen_words A x
private theorem phi_comp {A B C : Tr} (h1 : A.lv = B.lv) (h2 : B.lv = C.lv) (x : St) : phi B C (phi A B x) = phi A C x := by
  unfold phi
  rw [gen_comp (gen B ((words C).map pre)) A _ x (by simp [words_len, h1]), List.map_map]
  have := gen_pre B ((words C).map pre) (by simp [words_len, h2])
  exact congrArg (fun q => gen A q x) this
private theorem phi_inv {A B : Tr} (h : A.lv = B.lv) (x : St) : phi B A (phi A B x) = x := by rw [phi_comp h h.symm, phi_id]
noncomputable def sub : Tr → List Tr → Tr
  | .leaf, ts => ts.headD .leaf
  | .node l r, ts => .node (sub l (ts.take l.lv)) (sub r (ts.drop l.lv))
noncomputable def wsub (fs : List (St → St)) (ts : List Tr) : List (St → St) := (List.zipWith (fun f t => (words t).map fun w y => f (pre w y)) fs ts).flatten
private theorem wsub_app {f1 f2 : List (St → St)} {t1 t2 : List Tr} (h : f1.length = t1.length) : wsub (f1 ++ f2) (t1 ++ t2) = wsub f1 t1 ++ wsub f2 t2 := by
  unfold wsub
  rw [List.zipWith_append h, List.flatten_append]
private theorem wsub_len : ∀ (A : Tr) (fs : List (St → St)) (ts : List Tr), fs.length = A.lv → ts.length = A.lv → (wsub fs ts).length = (sub A ts).lv
  | .leaf, [f], [t], _, _ => by simp [wsub, sub, words_len]
  | .leaf, [], _, h, _ => by simp [Tr.lv] at h
  | .leaf, _ :: _ :: _, _, h, _ => by simp [Tr.lv] at h
  | .leaf, _, [], _, h => by simp [Tr.lv] at h
  | .leaf, _, _ :: _ :: _, _, h => by simp [Tr.lv] at h
  | .node l r, fs, ts, h1, h2 => by
    simp only [Tr.lv] at h1 h2
    have e1 : fs = fs.take l.lv ++ fs.drop l.lv := (List.take_append_drop _ _).symm
    have e2 : ts = ts.take l.lv ++ ts.drop l.lv := (List.take_append_drop _ _).symm
    rw [sub, Tr.lv, ← wsub_len l (fs.take l.lv) (ts.take l.lv) (by rw [List.length_take]; lia) (by rw [List.length_take]; lia), ← wsub_len r (fs.drop l.lv) (ts.drop l.lv) (by rw [List.length_drop]; lia) (by rw [List.length_drop]; lia),
      ← List.length_append, ← wsub_app (by rw [List.length_take, List.length_take]; lia), ← e1, ← e2]
private theorem gen_sub : ∀ (A : Tr) (fs : List (St → St)) (ts : List Tr) (x : St), fs.length = A.lv → ts.length = A.lv → gen (sub A ts) (wsub fs ts) x = gen A fs x
  | .leaf, [f], [t], x, _, _ => by
    have e : wsub [f] [t] = ((words t).map pre).map fun g y => f (g y) := by simp [wsub, List.map_map]
    rw [e, sub, List.headD_cons, ← gen_comp f t _ x (by simp [words_len]), gen_words]; rfl
  | .leaf, [], _, _, h, _ => by simp [Tr.lv] at h
  | .leaf, _ :: _ :: _, _, _, h, _ => by simp [Tr.lv] at h
  | .leaf, _, [], _, _, h => by simp [Tr.lv] at h
  | .leaf, _, _ :: _ :: _, _, _, h => by simp [Tr.lv] at h
  | .node l r, fs, ts, x, h1, h2 => by
    simp only [Tr.lv] at h1 h2
    have e1 : fs = fs.take l.lv ++ fs.drop l.lv := (List.take_append_drop _ _).symm
    have e2 : ts = ts.take l.lv ++ ts.drop l.lv := (List.take_append_drop _ _).symm
    have l1 : (fs.take l.lv).length = l.lv := by rw [List.length_take]; lia
    have l2 : (ts.take l.lv).length = l.lv := by rw [List.length_take]; lia
    have l3 : (fs.drop l.lv).length = r.lv := by rw [List.length_drop]; lia
    have l4 : (ts.drop l.lv).length = r.lv := by rw [List.length_drop]; lia
    have e3 : wsub fs ts = wsub (fs.take l.lv) (ts.take l.lv) ++ wsub (fs.drop l.lv) (ts.drop l.lv) := by rw [← wsub_app (by rw [l1, l2]), ← e1, ← e2]
    rw [sub, e3, gen_app (wsub_len l _ _ l1 l2), gen_sub l _ _ _ l1 l2, gen_sub r _ _ _ l3 l4]
    rfl
private theorem words_sub : ∀ (B : Tr) (ts : List Tr), ts.length = B.lv → (words (sub B ts)).map pre = wsub ((words B).map pre) ts
  | .leaf, [t], _ => by simp [sub, wsub, words]; exact fun zz zz => rfl
  | .leaf, [], h => by simp [Tr.lv] at h
  | .leaf, _ :: _ :: _, h => by simp [Tr.lv] at h
  | .node l r, ts, h => by
    simp only [Tr.lv] at h
    have e2 : ts = ts.take l.lv ++ ts.drop l.lv := (List.take_append_drop _ _).symm
    have l2 : (ts.take l.lv).length = l.lv := by rw [List.length_take]; lia
    have l4 : (ts.drop l.lv).length = r.lv := by rw [List.length_drop]; lia
    have key : ∀ (c : Bool) (T : Tr) (us : List Tr), (words (sub T us)).map pre = wsub ((words T).map pre) us → ((words (sub T us)).map (c :: ·)).map pre = wsub (((words T).map (c :: ·)).map pre) us := by
      intro c T us h
      have a1 : ((words (sub T us)).map (c :: ·)).map pre = ((words (sub T us)).map pre).map fun g y => cons c (g y) := by rw [List.map_map, List.map_map]; rfl
      have a2 : ((words T).map (c :: ·)).map pre = ((words T).map pre).map fun g y => cons c (g y) := by rw [List.map_map, List.map_map]; rfl
      rw [a1, a2, h]
      unfold wsub
      rw [List.map_flatten, List.map_zipWith, List.zipWith_map_left]
      simp only [List.map_map]
      rw [List.zipWith_map_left]; rfl
    rw [sub, words, List.map_append, key false l _ (words_sub l _ l2), key true r _ (words_sub r _ l4), ← wsub_app (by simp [words_len, l2]), ← e2, ← List.map_append]
    rfl
private theorem phi_sub {A B : Tr} {ts : List Tr} (h1 : A.lv = B.lv) (h2 : ts.length = A.lv) (x : St) : phi (sub A ts) (sub B ts) x = phi A B x := by
  unfold phi
  rw [words_sub B ts (by lia), gen_sub A _ ts x (by simp [words_len, h1]) h2]
private theorem lv_sub {A B : Tr} {ts : List Tr} (h1 : A.lv = B.lv) (h2 : ts.length = A.lv) : (sub A ts).lv = (sub B ts).lv := by
  rw [← wsub_len A ((words A).map pre) ts (by simp [words_len]) h2, ← wsub_len B ((words A).map pre) ts (by simp [words_len, h1]) (by lia)]
private theorem phi_times {A B C D : Tr} {g0 g1 : List Tr} (h1 : A.lv = B.lv) (h2 : C.lv = D.lv) (l0 : g0.length = B.lv) (l1 : g1.length = C.lv) (e : sub B g0 = sub C g1) (x : St) :
    phi (sub A g0) (sub D g1) x = phi C D (phi A B x) := by
  rw [← phi_sub h1 (ts := g0) (by lia) x, ← phi_sub h2 (ts := g1) l1, ← e, phi_comp (lv_sub h1 (by lia)) (by rw [e]; exact lv_sub h2 l1)]
end
section
noncomputable def bad : Tr → List Wd → Prop
  | .leaf, _ => False
  | .node l r, ws => (l = .leaf ∧ r = .leaf ∧ ∃ v : Wd, ws = [v ++ [false], v ++ [true]]) ∨ bad l (ws.take l.lv) ∨ bad r (ws.drop l.lv)
private theorem bad_of : ∀ (C : Tr) (ws : List Wd) (v : Wd), C ≠ .leaf → ws.length = C.lv → (∀ x, gen C (ws.map pre) x = pre v x) → bad C ws
  | .leaf, _, _, h, _, _ => absurd rfl h
  | .node l r, ws, v, _, hl, h => by
    simp only [Tr.lv] at hl
    have h1 : ∀ x, gen l ((ws.take l.lv).map pre) x = pre (v ++ [false]) x := fun x => by
      rw [pre_app, List.map_take]; exact h (cons false x)
    have h2 : ∀ x, gen r ((ws.drop l.lv).map pre) x = pre (v ++ [true]) x := fun x => by
      rw [pre_app, List.map_drop]; exact h (cons true x)
    by_cases e1 : l = .leaf
    · by_cases e2 : r = .leaf
      · subst e1; subst e2
        obtain ⟨a, ws, rfl⟩ := List.exists_cons_of_length_eq_add_one (n := 1) hl
        obtain ⟨b, rfl⟩ := List.length_eq_one_iff.mp (Nat.succ.inj hl)
        · have h1' : ∀ x, pre a x = pre (v ++ [false]) x := h1
          have h2' : ∀ x, pre b x = pre (v ++ [true]) x := h2
          exact .inl ⟨rfl, rfl, v, by rw [pre_inj h1', pre_inj h2']⟩
      · exact .inr (.inr (bad_of r _ _ e2 (by rw [List.length_drop]; lia) h2))
    · exact .inr (.inl (bad_of l _ _ e1 (by rw [List.length_take]; lia) h1))
private theorem uniq : ∀ (A C : Tr) (vs ws : List Wd), vs.length = A.lv → ws.length = C.lv → (∀ x, gen A (vs.map pre) x = gen C (ws.map pre) x) → ¬bad A vs → ¬bad C ws → A = C ∧ vs = ws
  | .leaf, .leaf, vs, ws, h1, h2, h, _, _ => by
    obtain ⟨v, rfl⟩ := List.length_eq_one_iff.mp h1
    obtain ⟨w, rfl⟩ := List.length_eq_one_iff.mp h2
    exact ⟨rfl, by rw [pre_inj (v := v) (w := w) h]⟩
  | .leaf, .node l r, vs, ws, h1, h2, h, _, hb => by
    obtain ⟨v, rfl⟩ := List.length_eq_one_iff.mp h1
    exact absurd (bad_of _ ws v (by simp) h2 fun x => (h x).symm) hb
  | .node l r, .leaf, vs, ws, h1, h2, h, hb, _ => by
    obtain ⟨w, rfl⟩ := List.length_eq_one_iff.mp h2
    exact absurd (bad_of _ vs w (by simp) h1 h) hb
  | .node l r, .node l' r', vs, ws, h1, h2, h, hb, hb' => by
    simp only [Tr.lv] at h1 h2
    obtain ⟨e1, e2⟩ := uniq l l' (vs.take l.lv) (ws.take l'.lv) (by rw [List.length_take]; lia) (by rw [List.length_take]; lia)
      (fun x => by rw [List.map_take, List.map_take]; exact h (cons false x)) (fun hh => hb (.inr (.inl hh))) (fun hh => hb' (.inr (.inl hh)))
    obtain ⟨e3, e4⟩ := uniq r r' (vs.drop l.lv) (ws.drop l'.lv) (by rw [List.length_drop]; lia) (by rw [List.length_drop]; (clear e1; lia))
      (fun x => by rw [List.map_drop, List.map_drop]; exact h (cons true x)) (fun hh => hb (.inr (.inr hh))) (fun hh => hb' (.inr (.inr hh)))
    refine ⟨by rw [e1, e3], ?_⟩
    rw [← List.take_append_drop l.lv vs, e2, e4, ← List.take_append_drop l'.lv ws]
    simp
private theorem words_inj : ∀ {A B : Tr}, words A = words B → A = B
  | .leaf, .leaf, _ => rfl
  | .leaf, .node l r, h => by
    have := congrArg List.length h
    simp [words, words_len] at this
    have := lv_pos l; have := lv_pos r; lia
  | .node l r, .leaf, h => by
    have := congrArg List.length h
    simp [words, words_len] at this
    have := lv_pos l; have := lv_pos r; lia
  | .node l r, .node l' r', h => by
    have key : ∀ (a a' b b' : List Wd), a.map (false :: ·) ++ b.map (true :: ·) = a'.map (false :: ·) ++ b'.map (true :: ·) → a = a' ∧ b = b' := by
      intro a
      induction a with
      | nil =>
        intro a' b b' h
        cases a' with
        | nil =>
          refine ⟨rfl, ?_⟩
          simp only [List.map_nil, List.nil_append] at h
          exact (List.map_inj_right (fun zz zz h => by simpa using h)).mp h
        | cons w a' => cases b <;> simp at h
      | cons w a ih =>
        intro a' b b' h
        cases a' with
        | nil => cases b' <;> simp at h
        | cons w' a' =>
          simp only [List.map_cons, List.cons_append, List.cons.injEq, true_and] at h
          obtain ⟨e1, e2⟩ := ih a' b b' h.2
          exact ⟨by rw [h.1, e1], e2⟩
    obtain ⟨e1, e2⟩ := key _ _ _ _ h
    rw [words_inj e1, words_inj e2]
noncomputable def red (A B : Tr) : Prop := ¬bad A (words B)
private theorem red_uniq {A B C D : Tr} (h1 : A.lv = B.lv) (h2 : C.lv = D.lv) (r1 : red A B) (r2 : red C D) (h : ∀ x, phi A B x = phi C D x) : A = C ∧ B = D := by
  obtain ⟨e1, e2⟩ := uniq A C (words B) (words D) (by rw [words_len, h1]) (by rw [words_len, h2]) h r1 r2
  exact ⟨e1, words_inj e2⟩
noncomputable def car : Nat → Tr → Prop
  | _, .leaf => False
  | k, .node l r => (l = .leaf ∧ r = .leaf ∧ k = 0) ∨ car k l ∨ (l.lv ≤ k ∧ car (k - l.lv) r)
private theorem bad_car : ∀ (A : Tr) (vs : List Wd), vs.length = A.lv → bad A vs → ∃ (k : Nat) (v : Wd), car k A ∧ vs[k]? = some (v ++ [false]) ∧ vs[k + 1]? = some (v ++ [true])
  | .leaf, _, _, h => h.elim
  | .node l r, vs, hl, h => by
    simp only [Tr.lv] at hl
    rcases h with ⟨rfl, rfl, v, rfl⟩ | h | h
    · exact ⟨0, v, .inl ⟨rfl, rfl, rfl⟩, rfl, rfl⟩
    · obtain ⟨k, v, h1, h2, h3⟩ := bad_car l _ (by rw [List.length_take]; lia) h
      have b2 := (List.getElem?_eq_some_iff.mp h2).1
      have b3 := (List.getElem?_eq_some_iff.mp h3).1
      rw [List.length_take] at b2 b3
      rw [List.getElem?_take_of_lt (by lia)] at h2 h3
      exact ⟨k, v, .inr (.inl h1), h2, h3⟩
    · obtain ⟨k, v, h1, h2, h3⟩ := bad_car r _ (by rw [List.length_drop]; lia) h
      rw [List.getElem?_drop] at h2 h3
      exact ⟨l.lv + k, v, .inr (.inr ⟨by lia, by rw [Nat.add_sub_cancel_left]; exact h1⟩), h2, h3⟩
private theorem words_nil_mem : ∀ {T : Tr}, [] ∈ words T → T = .leaf
  | .leaf, _ => rfl
  | .node l r, h => by simp [words] at h
private theorem words_car : ∀ (B : Tr) (k : Nat) (v : Wd), (words B)[k]? = some (v ++ [false]) → (words B)[k + 1]? = some (v ++ [true]) → car k B
  | .leaf, k, v, h, _ => by
    cases k <;> simp [words] at h
  | .node l r, k, v, h, h' => by
    have hl : ((words l).map (false :: ·)).length = l.lv := by simp [words_len]
    rw [words] at h h'
    rcases Nat.lt_trichotomy (k + 1) l.lv with hk | hk | hk
    · rw [List.getElem?_append_left (by rw [hl]; lia), List.getElem?_map] at h h'
      obtain ⟨a, ha, ea⟩ := Option.map_eq_some_iff.mp h
      obtain ⟨b, hb, eb⟩ := Option.map_eq_some_iff.mp h'
      cases v with
      | nil => simp at eb
      | cons c v =>
        simp only [List.cons_append, List.cons.injEq] at ea eb
        exact .inr (.inl (words_car l k v (by rw [ha, ea.2]) (by rw [hb, eb.2])))
    · rw [List.getElem?_append_left (by rw [hl]; exact Nat.le_of_eq hk), List.getElem?_map] at h
      rw [List.getElem?_append_right (by rw [hl]; lia), List.getElem?_map] at h'
      obtain ⟨a, ha, ea⟩ := Option.map_eq_some_iff.mp h
      obtain ⟨b, hb, eb⟩ := Option.map_eq_some_iff.mp h'
      cases v with
      | nil =>
        simp only [List.nil_append, List.cons.injEq, true_and] at ea eb
        subst ea; subst eb
        have e1 := words_nil_mem (List.mem_of_getElem? ha)
        have e2 := words_nil_mem (List.mem_of_getElem? hb)
        subst e1
        exact .inl ⟨rfl, e2, by simp [Tr.lv] at hk; exact hk⟩
      | cons c v =>
        simp only [List.cons_append, List.cons.injEq] at ea eb
        rw [← ea.1] at eb; cases eb.1
    · rw [List.getElem?_append_right (by rw [hl]; lia), List.getElem?_map, hl] at h h'
      obtain ⟨a, ha, ea⟩ := Option.map_eq_some_iff.mp h
      obtain ⟨b, hb, eb⟩ := Option.map_eq_some_iff.mp h'
      cases v with
      | nil => simp at ea
      | cons c v =>
        simp only [List.cons_append, List.cons.injEq] at ea eb
        exact .inr (.inr ⟨by lia, words_car r (k - l.lv) v (by rw [ha, ea.2]) (by rw [show k - l.lv + 1 = k + 1 - l.lv by lia, hb, eb.2])⟩)
private theorem bad_common {A B : Tr} (h : A.lv = B.lv) (hb : bad A (words B)) : ∃ k, car k A ∧ car k B := by
  obtain ⟨k, v, h1, h2, h3⟩ := bad_car A _ (by rw [words_len, h]) hb
  exact ⟨k, h1, words_car B k v h2 h3⟩
noncomputable def ex : Tr → Nat → Tr
  | .leaf, _ => .node .leaf .leaf
  | .node l r, k => if k < l.lv then .node (ex l k) r else .node l (ex r (k - l.lv))
private theorem ex_lv : ∀ (T : Tr) (k : Nat), (ex T k).lv = T.lv + 1
  | .leaf, _ => rfl
  | .node l r, k => by
    simp only [ex]
    split
    · simp only [Tr.lv, ex_lv l]; lia
    · simp only [Tr.lv, ex_lv r]; lia
private theorem gen_ex : ∀ (A : Tr) (a b : List (St → St)) (f : St → St) (x : St), a.length + (b.length + 1) = A.lv →
    gen (ex A a.length) (a ++ (fun y => f (cons false y)) :: (fun y => f (cons true y)) :: b) x = gen A (a ++ f :: b) x
  | .leaf, a, b, f, x, h => by
    simp only [Tr.lv] at h
    have ha : a = [] := List.eq_nil_of_length_eq_zero (by lia)
    have hb : b = [] := List.eq_nil_of_length_eq_zero (by lia)
    subst ha; subst hb
    simp only [ex, gen, List.length_nil, List.nil_append, Tr.lv]
    conv => rhs; rw [← cons_tl x]
    cases x 0 <;> rfl
  | .node l r, a, b, f, x, h => by
    simp only [Tr.lv] at h
    simp only [ex]
    by_cases hk : a.length < l.lv
    · rw [if_pos hk]
      have e := List.take_append_drop (l.lv - a.length - 1) b
      have lb : (b.take (l.lv - a.length - 1)).length = l.lv - a.length - 1 := by rw [List.length_take]; lia
      have ih := gen_ex l a (b.take (l.lv - a.length - 1)) f (tl x) (by (clear h; omega))
      have e1 : a ++ (fun y => f (cons false y)) :: (fun y => f (cons true y)) :: b = (a ++ (fun y => f (cons false y)) :: (fun y => f (cons true y)) :: b.take (l.lv - a.length - 1)) ++ b.drop (l.lv - a.length - 1) := by
        conv => lhs; rw [← e]
        simp
      have e2 : a ++ f :: b = (a ++ f :: b.take (l.lv - a.length - 1)) ++ b.drop (l.lv - a.length - 1) := by
        conv => lhs; rw [← e]
        simp
      rw [e1, e2, gen_app (by rw [ex_lv]; simp only [List.length_append, List.length_cons]; (clear h; omega)), gen_app (by simp only [List.length_append, List.length_cons]; lia), ih]
    · rw [if_neg hk]
      have e := List.take_append_drop l.lv a
      have la : (a.take l.lv).length = l.lv := by rw [List.length_take]; lia
      have ld : (a.drop l.lv).length = a.length - l.lv := by rw [List.length_drop]
      have ih := gen_ex r (a.drop l.lv) b f (tl x) (by rw [ld]; lia)
      rw [ld] at ih
      have e1 : ∀ z : List (St → St), a ++ z = a.take l.lv ++ (a.drop l.lv ++ z) := fun z => by
        rw [← List.append_assoc, e]
      rw [e1, e1 (f :: b), gen_app la, gen_app la, ih]
private theorem words_ex : ∀ (B : Tr) (k : Nat) (hk : k < B.lv), ∃ (a b : List Wd) (w : Wd), a.length = k ∧ words B = a ++ w :: b ∧ words (ex B k) = a ++ (w ++ [false]) :: (w ++ [true]) :: b
  | .leaf, k, hk => by
    simp only [Tr.lv] at hk
    exact ⟨[], [], [], by simp; lia, rfl, by simp [ex, words]⟩
  | .node l r, k, hk => by
    simp only [Tr.lv] at hk
    simp only [ex]
    by_cases h : k < l.lv
    · obtain ⟨a, b, w, h1, h2, h3⟩ := words_ex l k h
      refine ⟨a.map (false :: ·), b.map (false :: ·) ++ (words r).map (true :: ·), false :: w, by simp [h1], ?_, ?_⟩
      · rw [words, h2]; simp
      · rw [if_pos h, words, h3]; simp
    · obtain ⟨a, b, w, h1, h2, h3⟩ := words_ex r (k - l.lv) (by omega)
      refine ⟨(words l).map (false :: ·) ++ a.map (true :: ·), b.map (true :: ·), true :: w, by simp [h1, words_len]; lia, ?_, ?_⟩
      · rw [words, h2]; simp
      · rw [if_neg h, words, h3]; simp
private theorem phi_ex {A B : Tr} {k : Nat} (h : A.lv = B.lv) (hk : k < A.lv) (x : St) : phi (ex A k) (ex B k) x = phi A B x := by
  obtain ⟨a, b, w, h1, h2, h3⟩ := words_ex B k (by lia)
  have hlen : a.length + (b.length + 1) = A.lv := by
    have := words_len B
    rw [h2] at this; simp at this; lia
  unfold phi
  rw [h2, h3]
  have e : (a ++ (w ++ [false]) :: (w ++ [true]) :: b).map pre = a.map pre ++ (fun y => pre w (cons false y)) :: (fun y => pre w (cons true y)) :: b.map pre := by
    rw [List.map_append, List.map_cons, List.map_cons]
    congr 2
    · funext y; rw [pre_app]; rfl
    · congr 1; funext y; rw [pre_app]; rfl
  rw [e, List.map_append, List.map_cons]
  have := gen_ex A (a.map pre) (b.map pre) (pre w) x (by simpa using hlen)
  rw [List.length_map, h1] at this
  exact this
end
section
noncomputable def metT : Tr → Tr → List (List Nat) × List (List Nat)
  | .leaf, .leaf => ([[41]], [[41]])
  | .node a b, .node c d => ((metT a c).1 ++ (metT b d).1, (metT a c).2 ++ (metT b d).2)
  | .leaf, .node c d => ([enc (.node c d)], List.replicate (c.sz + d.sz + 2) [41])
  | .node a b, .leaf => (List.replicate (a.sz + b.sz + 2) [41], [enc (.node a b)])
private theorem metT_len1 : ∀ T S : Tr, (metT T S).1.length = T.sz + 1
  | .leaf, .leaf => rfl
  | .leaf, .node c d => rfl
  | .node a b, .leaf => by simp [metT, Tr.sz]
  | .node a b, .node c d => by simp [metT, Tr.sz, metT_len1 a c, metT_len1 b d]; lia
private theorem metT_len2 : ∀ T S : Tr, (metT T S).2.length = S.sz + 1
  | .leaf, .leaf => rfl
  | .node a b, .leaf => rfl
  | .leaf, .node c d => by simp [metT, Tr.sz]
  | .node a b, .node c d => by simp [metT, Tr.sz, metT_len2 a c, metT_len2 b d]; lia
noncomputable abbrev TP := List (Tr × Tr)
noncomputable def met0 (fs : TP) : List (List Nat) := fs.flatMap fun x => (metT x.1 x.2).1
noncomputable def met1 (fs : TP) : List (List Nat) := fs.flatMap fun x => (metT x.1 x.2).2
noncomputable def cd0 (fs : TP) : List Nat := fs.flatMap fun x => enc x.1
noncomputable def cd1 (fs : TP) : List Nat := fs.flatMap fun x => enc x.2
noncomputable def wq (l : List Nat) : List (List Nat) := l.map fun c => [c]
private theorem wq_app (a b : List Nat) : wq (a ++ b) = wq a ++ wq b := by simp [wq]
private theorem wq_len (a : List Nat) : (wq a).length = a.length := by simp [wq]
end
section
noncomputable def mt : Tr → Tr → List Tr × List Tr
  | .leaf, .leaf => ([.leaf], [.leaf])
  | .node a b, .node c d => ((mt a c).1 ++ (mt b d).1, (mt a c).2 ++ (mt b d).2)
  | .leaf, .node c d => ([.node c d], List.replicate (c.sz + d.sz + 2) .leaf)
  | .node a b, .leaf => (List.replicate (a.sz + b.sz + 2) .leaf, [.node a b])
private theorem mt_met : ∀ T S : Tr, metT T S = ((mt T S).1.map enc, (mt T S).2.map enc)
  | .leaf, .leaf => rfl
  | .node a b, .node c d => by simp [mt, metT, mt_met a c, mt_met b d]
  | .leaf, .node c d => by simp [mt, metT, enc]
  | .node a b, .leaf => by simp [mt, metT, enc]
private theorem mt_len1 (T S : Tr) : (mt T S).1.length = T.lv := by
  have := metT_len1 T S
  rw [mt_met] at this; rw [lv_sz]; simpa using this
private theorem mt_len2 (T S : Tr) : (mt T S).2.length = S.lv := by
  have := metT_len2 T S
  rw [mt_met] at this; rw [lv_sz]; simpa using this
private theorem sub_leaves : ∀ T : Tr, sub T (List.replicate T.lv .leaf) = T
  | .leaf => rfl
  | .node l r => by
    have e : List.replicate (l.lv + r.lv) Tr.leaf = List.replicate l.lv .leaf ++ List.replicate r.lv .leaf := (List.replicate_append_replicate).symm
    simp only [sub, Tr.lv]
    rw [e, List.take_left' (by simp), List.drop_left' (by simp), sub_leaves l, sub_leaves r]
private theorem sub_app {l r : Tr} {x y : List Tr} (h : x.length = l.lv) : sub (.node l r) (x ++ y) = .node (sub l x) (sub r y) := by
  simp only [sub, ← h, List.drop_left, List.take_left]
private theorem mt_sub : ∀ T S : Tr, sub T (mt T S).1 = sub S (mt T S).2 ∧ (sub T (mt T S).1).sz ≤ T.sz + S.sz
  | .leaf, .leaf => ⟨rfl, Nat.le_refl _⟩
  | .node a b, .node c d => by
    obtain ⟨h1, h2⟩ := mt_sub a c
    obtain ⟨h3, h4⟩ := mt_sub b d
    simp only [mt]
    rw [sub_app (mt_len1 a c), sub_app (mt_len2 a c), h1, h3]
    refine ⟨rfl, ?_⟩
    rw [h1] at h2; rw [h3] at h4
    simp only [Tr.sz]; lia
  | .leaf, .node c d => by
    have := sub_leaves (.node c d)
    rw [lv_sz] at this
    simp only [mt]
    refine ⟨?_, by simp [sub, Tr.sz]⟩
    rw [show c.sz + d.sz + 2 = (Tr.node c d).sz + 1 from rfl, this]; rfl
  | .node a b, .leaf => by
    have := sub_leaves (.node a b)
    rw [lv_sz] at this
    simp only [mt]
    rw [show a.sz + b.sz + 2 = (Tr.node a b).sz + 1 from rfl, this]
    exact ⟨rfl, by simp [Tr.sz]⟩
private theorem sub_sz {A B : Tr} {ts : List Tr} (h1 : A.lv = B.lv) (h2 : ts.length = A.lv) : (sub A ts).sz = (sub B ts).sz := by
  have := lv_sub h1 h2
  rw [lv_sz, lv_sz] at this; lia
private theorem put_go : ∀ (A : Tr) (ts : List Tr) (out : List Nat) (rest : List (List Nat)), ts.length = A.lv →
    (enc A).foldl putStep (some (out, ts.map enc ++ rest)) = some (out ++ enc (sub A ts), rest)
  | .leaf, [t], out, rest, _ => by simp [enc, sub, putStep]
  | .leaf, [], _, _, h => by simp [Tr.lv] at h
  | .leaf, _ :: _ :: _, _, _, h => by simp [Tr.lv] at h
  | .node l r, ts, out, rest, h => by
    simp only [Tr.lv] at h
    have e2 : ts = ts.take l.lv ++ ts.drop l.lv := (List.take_append_drop _ _).symm
    have l2 : (ts.take l.lv).length = l.lv := by rw [List.length_take]; lia
    have l4 : (ts.drop l.lv).length = r.lv := by rw [List.length_drop]; lia
    conv => lhs; rw [e2]
    rw [enc, List.foldl_cons, List.foldl_append, List.map_append, List.append_assoc]
    simp only [putStep, if_pos]
    rw [put_go l _ _ _ l2, put_go r _ _ _ l4, sub, enc]
    simp
private theorem put_tree {A : Tr} {ts : List Tr} (h : ts.length = A.lv) : putF (rowT A) (ts.map enc) = some (rowT (sub A ts)) := by
  have := put_go A ts [] [] h
  unfold putF putAt
  rw [List.take_length, rowT_snoc]
  simp only [List.append_nil, List.nil_append] at this
  rw [this]; rfl
end
section
private theorem caretT_split {w : List Nat} {p : Nat} (h : caretT w p = true) : ∃ x y, w = x ++ 40 :: 41 :: 41 :: y ∧ x.length = p := by
  unfold caretT at h
  simp only [decide_eq_true_eq] at h
  have hl := congrArg List.length h
  simp only [List.length_drop, List.length_take, List.length_cons, List.length_nil] at hl
  refine ⟨w.take p, w.drop (p + 3), ?_, by rw [List.length_take]; lia⟩
  have e : w.take (p + 3) = w.take p ++ [40, 41, 41] := by
    rw [← h]
    have := (List.take_append_drop p (w.take (p + 3))).symm
    rwa [List.take_take, Nat.min_eq_left (by lia)] at this
  conv => lhs; rw [← List.take_append_drop (p + 3) w, e]
  simp
private theorem caretT_mk (x y : List Nat) : caretT (x ++ 40 :: 41 :: 41 :: y) x.length = true := by
  unfold caretT
  rw [List.take_append, List.take_of_length_le (by lia), List.drop_left]
  simp
private theorem cut_mk (x y : List Nat) : cutAt (x ++ 40 :: 41 :: 41 :: y) (x.length : Int) = x ++ 41 :: y := by
  unfold cutAt
  rw [Int.toNat_natCast, List.take_left, List.drop_append, List.drop_of_length_le (by lia)]
  simp
private theorem enc_end : ∀ (T : Tr) (x : List Nat), enc T ≠ x ++ [40, 41]
  | .leaf, x, h => by
    have := congrArg List.length h
    simp [enc] at this
  | .node l r, x, h => by
    cases r with
    | leaf =>
      have e := congrArg List.dropLast h
      simp only [enc] at e
      rw [show (40 :: (enc l ++ [41])) = (40 :: enc l) ++ [41] by rfl, List.dropLast_concat, show x ++ [40, 41] = (x ++ [40]) ++ [41] by simp, List.dropLast_concat] at e
      have h2 := congrArg List.getLast? e
      rw [List.getLast?_cons, enc_last] at h2
      simp at h2
    | node c d =>
      have hs : enc (.node l (.node c d)) = (40 :: enc l) ++ enc (.node c d) := by simp [enc]
      rw [hs] at h
      have hl := congrArg List.length h
      have h5 : 3 ≤ (enc (.node c d)).length := by rw [enc_len]; simp only [Tr.sz]; lia
      simp only [List.length_append, List.length_cons, List.length_nil] at hl
      rcases List.append_eq_append_iff.mp h with ⟨a, h1, h2⟩ | ⟨a, h1, h2⟩
      · exact enc_end (.node c d) a h2
      · have := congrArg List.length h2
        simp only [List.length_append, List.length_cons, List.length_nil] at this
        lia
private theorem cut_spec : ∀ (A : Tr) (x y : List Nat), enc A = x ++ 40 :: 41 :: 41 :: y → ∃ A' : Tr, enc A' = x ++ 41 :: y ∧ A = ex A' (x.count 41) ∧ x.count 41 < A'.lv
  | .leaf, x, y, h => by
    have := congrArg List.length h
    simp [enc] at this; lia
  | .node l r, [], y, h => by
    simp only [enc, List.nil_append, List.cons.injEq, true_and] at h
    cases l with
    | leaf =>
      cases r with
      | leaf =>
        simp only [enc, List.cons_append, List.nil_append, List.cons.injEq, true_and] at h
        exact ⟨.leaf, by simp [enc, ← h], rfl, by simp [Tr.lv]⟩
      | node c d => simp [enc] at h
    | node c d => simp [enc] at h
  | .node l r, c :: x, y, h => by
    simp only [enc, List.cons_append, List.cons.injEq] at h
    obtain ⟨rfl, h⟩ := h
    rcases List.append_eq_append_iff.mp h with ⟨a, h1, h2⟩ | ⟨a, h1, h2⟩
    · -- in the right part
      obtain ⟨r', e1, e2, e3⟩ := cut_spec r a y h2
      have hc : (40 :: x).count 41 = l.lv + a.count 41 := by
        rw [h1, List.count_cons_of_ne (by decide), List.count_append, enc_41, lv_sz]
      refine ⟨.node l r', ?_, ?_, ?_⟩
      · simp only [enc, h1, e1]; simp
      · rw [hc, ex, if_neg (by lia), Nat.add_sub_cancel_left, ← e2]
      · rw [hc, Tr.lv]; lia
    · match a, h1, h2 with
      | [], h1, h2 =>
        obtain ⟨r', e1, e2, e3⟩ := cut_spec r [] y (by simpa using h2.symm)
        have hc : (40 :: x).count 41 = l.lv := by
          rw [List.append_nil] at h1
          rw [← h1, List.count_cons_of_ne (by decide), enc_41, lv_sz]
        refine ⟨.node l r', ?_, ?_, ?_⟩
        · rw [List.append_nil] at h1
          simp only [enc, e1, ← h1]; simp
        · rw [hc, ex, if_neg (by lia), Nat.sub_self, show (0 : Nat) = ([] : List Nat).count 41 from rfl, ← e2]
        · rw [hc, Tr.lv]; have := lv_pos r'; lia
      | [b], h1, h2 =>
        simp only [List.cons_append, List.nil_append, List.cons.injEq] at h2
        have := congrArg List.getLast? h1
        rw [enc_last, ← h2.1] at this
        simp at this
      | [b, c], h1, h2 =>
        simp only [List.cons_append, List.nil_append, List.cons.injEq] at h2
        rw [← h2.1, ← h2.2.1] at h1
        exact absurd h1 (enc_end l x)
      | b :: c :: d :: a, h1, h2 =>
        simp only [List.cons_append, List.cons.injEq] at h2
        rw [← h2.1, ← h2.2.1, ← h2.2.2.1] at h1
        obtain ⟨l', e1, e2, e3⟩ := cut_spec l x a h1
        have hc : (40 :: x).count 41 = x.count 41 := List.count_cons_of_ne (by decide)
        refine ⟨.node l' r, ?_, ?_, ?_⟩
        · simp only [enc, e1, h2.2.2.2]; simp
        · rw [hc, ex, if_pos e3, ← e2]
        · rw [hc, Tr.lv]; lia
private theorem car_at : ∀ (A : Tr) (k : Nat), car k A → ∃ x y, enc A = x ++ 40 :: 41 :: 41 :: y ∧ x.count 41 = k
  | .leaf, _, h => h.elim
  | .node l r, k, h => by
    rcases h with ⟨rfl, rfl, rfl⟩ | h | ⟨h0, h⟩
    · exact ⟨[], [], rfl, rfl⟩
    · obtain ⟨x, y, e, hk⟩ := car_at l k h
      exact ⟨40 :: x, y ++ enc r, by simp [enc, e], by rw [List.count_cons_of_ne (by decide), hk]⟩
    · obtain ⟨x, y, e, hk⟩ := car_at r _ h
      exact ⟨40 :: (enc l ++ x), y, by simp [enc, e], by rw [List.count_cons_of_ne (by decide), List.count_append, hk, enc_41, ← lv_sz]; lia⟩
private theorem storedI_key (ks : List (Int × Int)) (k v : Int) : ∃ u, (k, u) ∈ storedI ks k v := by
  unfold storedI
  split
  · rename_i h
    obtain ⟨q, h1, h2⟩ := List.any_eq_true.mp h
    simp only [decide_eq_true_eq] at h2
    exact ⟨v, List.mem_map.mpr ⟨q, h1, by rw [if_pos h2, h2]⟩⟩
  · exact ⟨v, by simp⟩
private theorem storedI_keep {ks : List (Int × Int)} {k v k' u : Int} (h : (k', u) ∈ ks) : ∃ u', (k', u') ∈ storedI ks k v := by
  unfold storedI
  split
  · by_cases e : k' = k
    · exact ⟨v, List.mem_map.mpr ⟨_, h, by simp [e]⟩⟩
    · exact ⟨u, List.mem_map.mpr ⟨_, h, by simp [e]⟩⟩
  · exact ⟨u, List.mem_append_left _ h⟩
private theorem carets_mem2 {w : List Nat} {x : Int × Int} (h : x ∈ caretsF w) : ∃ p : Nat, caretT w p = true ∧ x = ((((w.take p).count 41 : Nat) : Int), (p : Int)) := by
  unfold caretsF at h
  have key : ∀ (l : List Nat) (ks : List (Int × Int)), (∀ p ∈ l, caretT w p = true) → (∀ y ∈ ks, ∃ p : Nat, caretT w p = true ∧ y = ((((w.take p).count 41 : Nat) : Int), (p : Int))) →
      ∀ y ∈ l.foldl (fun ks (p : Nat) => storedI ks (((w.take p).count 41 : Nat) : Int) (p : Int)) ks, ∃ p : Nat, caretT w p = true ∧ y = ((((w.take p).count 41 : Nat) : Int), (p : Int)) := by
    intro l
    induction l with
    | nil => intro ks _ h; exact h
    | cons p l ih =>
      intro ks hl hk
      refine ih _ (fun q hq => hl q (List.mem_cons_of_mem _ hq)) fun y hy => ?_
      rcases storedI_mem hy with hy | rfl
      · exact hk y hy
      · exact ⟨p, hl p List.mem_cons_self, rfl⟩
  exact key _ [] (fun p hp => (List.mem_filter.mp hp).2) (fun y hy => by cases hy) x h
private theorem carets_key {w : List Nat} {p : Nat} (h : caretT w p = true) : ∃ v, ((((w.take p).count 41 : Nat) : Int), v) ∈ caretsF w := by
  have hp : p ∈ (List.range (w.length - 2)).filter (caretT w) := by
    obtain ⟨x, y, e, hx⟩ := caretT_split h
    have := congrArg List.length e
    simp only [List.length_append, List.length_cons] at this
    exact List.mem_filter.mpr ⟨List.mem_range.mpr (by lia), h⟩
  unfold caretsF
  have keep : ∀ (l : List Nat) (ks : List (Int × Int)) (k u : Int), (k, u) ∈ ks → ∃ v, (k, v) ∈ l.foldl (fun ks (p : Nat) => storedI ks (((w.take p).count 41 : Nat) : Int) (p : Int)) ks := by
    intro l
    induction l with
    | nil => intro ks k u h; exact ⟨u, h⟩
    | cons q l ih =>
      intro ks k u h
      obtain ⟨u', h'⟩ := storedI_keep (k := (((w.take q).count 41 : Nat) : Int)) (v := (q : Int)) h
      exact ih _ k u' h'
  generalize (List.range (w.length - 2)).filter (caretT w) = L at hp
  generalize ([] : List (Int × Int)) = ks
  induction L generalizing ks with
  | nil => cases hp
  | cons q l ih =>
    rw [List.foldl_cons]
    rcases List.mem_cons.mp hp with rfl | hp
    · obtain ⟨u, hu⟩ := storedI_key ks (((w.take p).count 41 : Nat) : Int) (p : Int)
      exact keep l _ _ u hu
    · exact ih hp _
private theorem common_none {a b : List Nat} (h : commonF a b = []) {p q : Nat} (h1 : caretT a p = true) (h2 : caretT b q = true) (e : (a.take p).count 41 = (b.take q).count 41) : False := by
  obtain ⟨v, hv⟩ := carets_key h1
  obtain ⟨u, hu⟩ := carets_key h2
  rw [← e] at hu
  unfold commonF at h
  have hm : ((((a.take p).count 41 : Nat) : Int), v) ∈ (caretsF a).filter fun kv => (caretsF b).any fun q => q.1 == kv.1 :=
    List.mem_filter.mpr ⟨hv, List.any_eq_true.mpr ⟨_, hu, by simp⟩⟩
  revert h hm
  generalize (caretsF a).filter (fun kv => (caretsF b).any fun q => q.1 == kv.1) = L
  intro h hm
  cases L with
  | nil => cases hm
  | cons x L => simp at h
private theorem leafAt_mem {w : List Nat} {k : Int} (h : ∃ v, (k, v) ∈ caretsF w) : ∃ p : Nat, caretT w p = true ∧ k = ((w.take p).count 41 : Nat) ∧ leafAt w k = p := by
  obtain ⟨v, hv⟩ := h
  obtain ⟨u, hu⟩ := lookI_any (ks := caretsF w) (k := k) (List.any_eq_true.mpr ⟨_, hv, by simp⟩)
  obtain ⟨p, h1, h2⟩ := carets_mem2 (lookI_mem hu)
  have h2' := Prod.mk.inj h2
  exact ⟨p, h1, h2'.1, by unfold leafAt; rw [hu, h2'.2]; rfl⟩
private theorem common_some {a b : List Nat} {kv : Int × Int} {r : List (Int × Int)} (h : commonF a b = kv :: r) : ∃ p q : Nat, caretT a p = true ∧ caretT b q = true ∧ (a.take p).count 41 = (b.take q).count 41 ∧ leafAt a kv.1 = p ∧ leafAt b kv.1 = q := by
  have hm : kv ∈ (caretsF a).filter fun kv => (caretsF b).any fun q => q.1 == kv.1 := by
    have : kv ∈ commonF a b := by rw [h]; exact List.mem_cons_self
    exact List.mem_of_mem_take this
  obtain ⟨h1, h2⟩ := List.mem_filter.mp hm
  obtain ⟨q, h3, h4⟩ := List.any_eq_true.mp h2
  simp only [beq_iff_eq] at h4
  obtain ⟨p, e1, e2, e3⟩ := leafAt_mem (w := a) (k := kv.1) ⟨kv.2, h1⟩
  obtain ⟨p', f1, f2, f3⟩ := leafAt_mem (w := b) (k := kv.1) ⟨q.2, by rw [← h4]; exact h3⟩
  exact ⟨p, p', e1, f1, by rw [e2] at f2; exact_mod_cast f2, e3, f3⟩
private theorem cut_tree {A : Tr} {p : Nat} (h : caretT (enc A) p = true) : ∃ A' : Tr, enc A' = cutAt (enc A) (p : Int) ∧ A = ex A' (((enc A).take p).count 41) ∧ ((enc A).take p).count 41 < A'.lv := by
  obtain ⟨x, y, e, rfl⟩ := caretT_split h
  obtain ⟨A', e1, e2, e3⟩ := cut_spec A x y e
  refine ⟨A', ?_, ?_, ?_⟩
  · rw [e, cut_mk, e1]
  · rw [e, List.take_left, ← e2]
  · rw [e, List.take_left]; exact e3
private theorem bareGo_tree : ∀ (n : Nat) (A B : Tr), A.lv = B.lv → A.sz < n → ∃ A' B' : Tr, bareGo n (enc A) (enc B) = (enc A', enc B') ∧ A'.lv = B'.lv ∧ A'.sz ≤ A.sz ∧ red A' B' ∧ ∀ x, phi A' B' x = phi A B x
  | 0, _, _, _, h => by lia
  | n + 1, A, B, hl, hn => by
    unfold bareGo
    cases hc : commonF (enc A) (enc B) with
    | nil =>
      refine ⟨A, B, rfl, hl, Nat.le_refl _, ?_, fun zz => rfl⟩
      intro hb
      obtain ⟨k, h1, h2⟩ := bad_common hl hb
      obtain ⟨x, y, e1, e2⟩ := car_at A k h1
      obtain ⟨x', y', e3, e4⟩ := car_at B k h2
      refine common_none hc (p := x.length) (q := x'.length) (by rw [e1]; exact caretT_mk x y) (by rw [e3]; exact caretT_mk x' y') ?_
      rw [e1, e3, List.take_left, List.take_left, e2, e4]
    | cons kv r =>
      obtain ⟨p, q, h1, h2, h3, h4, h5⟩ := common_some hc
      obtain ⟨A1, a1, a2, a3⟩ := cut_tree h1
      obtain ⟨B1, b1, b2, b3⟩ := cut_tree h2
      rw [← h3] at b2
      have la : A.lv = A1.lv + 1 := by rw [a2]; exact ex_lv _ _
      have lb : B.lv = B1.lv + 1 := by rw [b2]; exact ex_lv _ _
      have sa := lv_sz A
      have sa1 := lv_sz A1
      obtain ⟨A', B', e1, e2, e3, e4, e5⟩ := bareGo_tree n A1 B1 (by (clear sa1 sa; lia)) (by lia)
      refine ⟨A', B', ?_, e2, by lia, e4, fun x => ?_⟩
      · show bareGo n (cutAt (enc A) (leafAt (enc A) kv.1)) (cutAt (enc B) (leafAt (enc B) kv.1)) = _
        rw [h4, h5, ← a1, ← b1, e1]
      · rw [e5 x, a2, b2, phi_ex (by lia) a3]
private theorem bare_tree {A B : Tr} (h : A.lv = B.lv) : ∃ A' B' : Tr, bareF (rowT A) (rowT B) = (rowT A', rowT B') ∧ A'.lv = B'.lv ∧ A'.sz ≤ A.sz ∧ red A' B' ∧ ∀ x, phi A' B' x = phi A B x := by
  obtain ⟨A', B', h1, h2⟩ := bareGo_tree ((rowT A).length + 2) A B h (by rw [rowT_len]; lia)
  refine ⟨A', B', ?_, h2⟩
  unfold bareF
  rw [rowT_snoc, rowT_snoc, h1]; rfl
end
section
noncomputable def num : Nat → St → Nat
  | 0, _ => 0
  | b + 1, x => (if x 0 = true then 2 ^ b else 0) + num b (tl x)
noncomputable def str : Nat → Nat → St
  | 0, _ => fun zz => false
  | b + 1, r => cons (decide (2 ^ b ≤ r)) (str b (if 2 ^ b ≤ r then r - 2 ^ b else r))
noncomputable def zb (b : Nat) (x : St) : Prop := ∀ n, b ≤ n → x n = false
private theorem num_lt : ∀ (b : Nat) (x : St), num b x < 2 ^ b
  | 0, _ => by simp [num]
  | b + 1, x => by
    have := num_lt b (tl x)
    simp only [num, Nat.pow_succ]; split <;> lia
private theorem num_str : ∀ (b r : Nat), r < 2 ^ b → num b (str b r) = r
  | 0, r, h => by simp at h; simp [num, h]
  | b + 1, r, h => by
    rw [Nat.pow_succ] at h
    simp only [num, str, tl_cons]
    rw [num_str b _ (by split <;> omega)]
    simp only [cons, decide_eq_true_eq]
    split <;> lia
private theorem zb_cons {b : Nat} {c : Bool} {x : St} (h : zb b x) : zb (b + 1) (cons c x) := fun n hn => by
  cases n with
  | zero => lia
  | succ n => exact h n (by lia)
private theorem zb_tl {b : Nat} {x : St} (h : zb (b + 1) x) : zb b (tl x) := fun n hn => h (n + 1) (Nat.succ_le_succ hn)
private theorem zb_mono {b c : Nat} {x : St} (h : zb b x) (hc : b ≤ c) : zb c x := fun n hn => h n (by lia)
private theorem zb_str : ∀ (b r : Nat), zb b (str b r)
  | 0, _ => fun zz zz => rfl
  | b + 1, r => zb_cons (zb_str b _)
private theorem num_zero : ∀ {x : St} (b : Nat), zb 0 x → num b x = 0
  | _, 0, _ => rfl
  | x, b + 1, h => by
    rw [num, h 0 (Nat.le_refl _), num_zero (x := tl x) b fun n zz => h (n + 1) (Nat.zero_le _)]; rfl
private theorem num_zb : ∀ {x : St} (b k : Nat), zb b x → num (b + k) x = num b x * 2 ^ k
  | x, 0, k, h => by rw [num_zero _ h]; simp [num]
  | x, b + 1, k, h => by
    rw [show b + 1 + k = (b + k) + 1 by lia, num, num, num_zb b k (zb_tl h), Nat.add_mul]
    congr 1
    split
    · rw [← Nat.pow_add]
    · simp
private theorem str_num : ∀ (b : Nat) (x : St), zb b x → str b (num b x) = x
  | 0, x, h => by funext n; exact (h n (Nat.zero_le _)).symm
  | b + 1, x, h => by
    have hl := num_lt b (tl x)
    have ih := str_num b (tl x) (zb_tl h)
    rw [str, num]
    conv => rhs; rw [← cons_tl x]
    by_cases hx : x 0 = true
    · rw [if_pos hx, if_pos (by lia), Nat.add_sub_cancel_left, ih, decide_eq_true (by lia), hx]
    · rw [if_neg hx, Nat.zero_add, if_neg (by lia), ih, decide_eq_false (by lia), Bool.eq_false_iff.mpr hx]
noncomputable def wv : Wd → Nat
  | [] => 0
  | c :: w => (if c = true then 2 ^ w.length else 0) + wv w
noncomputable def nw (b : Nat) (w : Wd) : Nat := wv w * 2 ^ (b - w.length)
private theorem nw_cons {b : Nat} {c : Bool} {w : Wd} (h : w.length ≤ b) : nw (b + 1) (c :: w) = (if c = true then 2 ^ b else 0) + nw b w := by
  unfold nw
  rw [wv, List.length_cons, Nat.add_sub_add_right, Nat.add_mul]
  congr 1
  split
  · rw [← Nat.pow_add]; congr 1; lia
  · simp
private theorem nw_nil (b : Nat) : nw b [] = 0 := by simp [nw, wv]
private theorem num_pre : ∀ (w : Wd) (b : Nat) (z : St), w.length ≤ b → num b (pre w z) = nw b w + num (b - w.length) z
  | [], b, z, _ => by simp [nw_nil, pre]
  | c :: w, 0, z, h => by simp at h
  | c :: w, b + 1, z, h => by
    simp only [List.length_cons] at h
    rw [nw_cons (by lia), pre, num, tl_cons, num_pre w b z (by lia), List.length_cons, Nat.add_sub_add_right]
    rw [show cons c (pre w z) 0 = c from rfl, Nat.add_assoc]
private theorem zb_pre : ∀ {w : Wd} {b : Nat} {z : St}, zb (b - w.length) z → w.length ≤ b → zb b (pre w z)
  | [], b, z, h, _ => h
  | c :: w, 0, z, h, hb => by simp at hb
  | c :: w, b + 1, z, h, hb => by
    simp only [List.length_cons, Nat.add_sub_add_right] at h hb
    exact zb_cons (zb_pre h (by lia))
private theorem zb_unpre : ∀ {w : Wd} {b : Nat} {z : St}, zb b (pre w z) → zb (b - w.length) z
  | [], b, z, h => h
  | c :: w, b, z, h => by
    have h1 : zb (b - 1) (pre w z) := fun n hn => h (n + 1) (by lia)
    have := zb_unpre h1
    rw [List.length_cons, show b - (w.length + 1) = b - 1 - w.length by lia]; exact this
private theorem pre_of_num : ∀ (w : Wd) (b : Nat) (x : St), w.length ≤ b → num b x / 2 ^ (b - w.length) = wv w → ∃ z, x = pre w z
  | [], _, x, _, _ => ⟨x, rfl⟩
  | c :: w, 0, x, h, _ => by simp at h
  | c :: w, b + 1, x, h, e => by
    simp only [List.length_cons, Nat.add_sub_add_right] at h e
    have hl := num_lt b (tl x)
    have hp : 0 < 2 ^ (b - w.length) := Nat.pow_pos (by decide)
    have hb : 2 ^ b = 2 ^ w.length * 2 ^ (b - w.length) := by rw [← Nat.pow_add]; congr 1; lia
    have hq : num b (tl x) / 2 ^ (b - w.length) < 2 ^ w.length := by
      rw [Nat.div_lt_iff_lt_mul hp, ← hb]; exact hl
    have hw : ∀ w : Wd, wv w < 2 ^ w.length := by
      intro w
      induction w with
      | nil => simp [wv]
      | cons c w ih => simp only [wv, List.length_cons, Nat.pow_succ]; split <;> lia
    have hw := hw w
    rw [num, wv, hb] at e
    have e2 : (if x 0 = true then 2 ^ w.length * 2 ^ (b - w.length) else 0) = (if x 0 = true then 2 ^ w.length else 0) * 2 ^ (b - w.length) := by split <;> simp
    rw [e2, Nat.add_comm, Nat.add_mul_div_right _ _ hp] at e
    generalize hT : num b (tl x) / 2 ^ (b - w.length) = T at e hq
    have hc : x 0 = c := by
      by_cases hx : x 0 = true
      · by_cases hc : c = true
        · rw [hx, hc]
        · rw [if_pos hx, if_neg hc] at e; (clear hT; lia)
      · by_cases hc : c = true
        · rw [if_neg hx, if_pos hc] at e; (clear hT; lia)
        · rw [Bool.eq_false_iff.mpr hx, Bool.eq_false_iff.mpr hc]
    have e3 : num b (tl x) / 2 ^ (b - w.length) = wv w := by rw [hc] at e; lia
    obtain ⟨z, hz⟩ := pre_of_num w b (tl x) (by lia) e3
    exact ⟨z, by rw [← cons_tl x, hc, hz]; rfl⟩
private theorem at_leaf : ∀ (A : Tr) (x : St), ∃ (i : Nat) (w : Wd) (z : St), (words A)[i]? = some w ∧ x = pre w z
  | .leaf, x => ⟨0, [], x, rfl, rfl⟩
  | .node l r, x => by
    have hl : ((words l).map (false :: ·)).length = l.lv := by simp [words_len]
    cases hx : x 0 with
    | false =>
      obtain ⟨i, w, z, h1, h2⟩ := at_leaf l (tl x)
      have hi := (List.getElem?_eq_some_iff.mp h1).1
      rw [words_len] at hi
      refine ⟨i, false :: w, z, ?_, by rw [pre, ← h2, ← hx, cons_tl]⟩
      rw [words, List.getElem?_append_left (by rw [hl]; exact hi), List.getElem?_map, h1]; rfl
    | true =>
      obtain ⟨i, w, z, h1, h2⟩ := at_leaf r (tl x)
      refine ⟨l.lv + i, true :: w, z, ?_, by rw [pre, ← h2, ← hx, cons_tl]⟩
      rw [words, List.getElem?_append_right (by rw [hl]; lia), List.getElem?_map, hl, Nat.add_sub_cancel_left, h1]; rfl
private theorem gen_at {A : Tr} {fs : List (St → St)} (h : fs.length = A.lv) {i : Nat} {w : Wd} {f : St → St} (hw : (words A)[i]? = some w) (hf : fs[i]? = some f) (z : St) : gen A fs (pre w z) = f z := by
  have e := congrArg (fun l => l[i]?) (gen_pre A fs h)
  simp only [List.getElem?_map, hw, hf, Option.map_some, Option.some.injEq] at e
  exact congrFun e z
private theorem phi_at {A B : Tr} (h : A.lv = B.lv) {i : Nat} {w v : Wd} (hw : (words A)[i]? = some w) (hv : (words B)[i]? = some v) (z : St) : phi A B (pre w z) = pre v z :=
  gen_at (by simp [words_len, h]) hw (by rw [List.getElem?_map, hv]; rfl) z
private theorem leaf_uniq {A : Tr} {i j : Nat} {w v : Wd} (hw : (words A)[i]? = some w) (hv : (words A)[j]? = some v) {z y : St} (e : pre w z = pre v y) : i = j := by
  have hi := (List.getElem?_eq_some_iff.mp hw).1
  have hj := (List.getElem?_eq_some_iff.mp hv).1
  rw [words_len] at hi hj
  have key : ∀ k, k < A.lv → ((List.range A.lv).map fun n => (fun (_ : St) (m : Nat) => decide (m = n) : St → St))[k]? = some fun zz m => decide (m = k) := fun k hk => by
    rw [List.getElem?_map, List.getElem?_range hk]; rfl
  have h1 := gen_at (by simp) hw (key i hi) z
  have h2 := gen_at (by simp) hv (key j hj) y
  rw [e, h2] at h1
  have := congrFun h1 j
  exact (by simpa using this : j = i).symm
private theorem word_len : ∀ (A : Tr) {w : Wd}, w ∈ words A → w.length ≤ A.sz
  | .leaf, w, h => by simp [words] at h; simp [h]
  | .node l r, w, h => by
    simp only [words, List.mem_append, List.mem_map] at h
    rcases h with ⟨v, hv, rfl⟩ | ⟨v, hv, rfl⟩
    · have := word_len l hv; simp only [List.length_cons, Tr.sz]; lia
    · have := word_len r hv; simp only [List.length_cons, Tr.sz]; lia
private theorem word_pos : ∀ {A : Tr} {w : Wd}, A ≠ .leaf → w ∈ words A → 1 ≤ w.length
  | .leaf, _, h, _ => absurd rfl h
  | .node l r, w, _, h => by
    simp only [words, List.mem_append, List.mem_map] at h
    rcases h with ⟨v, hv, rfl⟩ | ⟨v, hv, rfl⟩ <;> simp
private theorem phi_zb {A B : Tr} {b m : Nat} (h : A.lv = B.lv) (hA : A ≠ .leaf) (hB : B.sz ≤ m + 1) {x : St} (hx : zb b x) (hb : A.sz ≤ b) : zb (b + m) (phi A B x) := by
  obtain ⟨i, w, z, hw, rfl⟩ := at_leaf A x
  have hi := (List.getElem?_eq_some_iff.mp hw).1
  rw [words_len, h, ← words_len] at hi
  have hv : (words B)[i]? = some (words B)[i] := List.getElem?_eq_getElem hi
  rw [phi_at h hw hv]
  have h1 := word_pos hA (List.mem_of_getElem? hw)
  have h2 := word_len A (List.mem_of_getElem? hw)
  have h3 := word_len B (List.mem_of_getElem? hv)
  exact zb_pre (zb_mono (zb_unpre hx) (by lia)) (by lia)
end
section
noncomputable def pt (p d : Nat) (w : Wd) : Int × Int := (((p * 2 ^ w.length + wv w : Nat) : Int), ((d + w.length : Nat) : Int))
private theorem pt_cons (p d : Nat) (c : Bool) (w : Wd) : pt p d (c :: w) = pt (2 * p + (if c = true then 1 else 0)) (d + 1) w := by
  unfold pt
  simp only [wv, List.length_cons]
  have e : p * 2 ^ (w.length + 1) + ((if c = true then 2 ^ w.length else 0) + wv w) = (2 * p + (if c = true then 1 else 0)) * 2 ^ w.length + wv w := by
    rw [Nat.pow_succ, Nat.add_mul, show p * (2 ^ w.length * 2) = 2 * p * 2 ^ w.length by rw [Nat.mul_comm (2 ^ w.length), ← Nat.mul_assoc, Nat.mul_comm p]]
    split <;> lia
  rw [e, show d + (w.length + 1) = d + 1 + w.length by lia]
private theorem parts_go : ∀ (A : Tr) (p d : Nat) (ps pile : PP'), (enc A).foldl partsStep (some (ps, pile ++ [((p : Int), (d : Int))])) = some (ps ++ (words A).map (pt p d), pile)
  | .leaf, p, d, ps, pile => by
    simp [enc, partsStep, words, pt, wv]
  | .node l r, p, d, ps, pile => by
    have e : partsStep (some (ps, pile ++ [((p : Int), (d : Int))])) 40 = some (ps, (pile ++ [(((2 * p + 1 : Nat) : Int), ((d + 1 : Nat) : Int))]) ++ [(((2 * p + 0 : Nat) : Int), ((d + 1 : Nat) : Int))]) := by
      simp [partsStep]
    rw [enc, List.foldl_cons, List.foldl_append, e, parts_go l, parts_go r, words, List.map_append, List.map_map, List.map_map, List.append_assoc]
    congr 4
    · exact List.map_congr_left fun w zz => (pt_cons p d false w).symm
    · exact List.map_congr_left fun w zz => (pt_cons p d true w).symm
private theorem parts_tree (A : Tr) : partsF (rowT A) = some ((words A).map (pt 0 0)) := by
  have := parts_go A 0 0 [] []
  unfold partsF partsAt
  rw [List.take_length, rowT_snoc]
  simp only [List.nil_append] at this
  rw [show ((0 : Int), (0 : Int)) = (((0 : Nat) : Int), ((0 : Nat) : Int)) from rfl, this]; rfl
private theorem cut_node (l r : Tr) : cutF (rowT (.node l r)) = 2 + 2 * l.sz := by
  have hr : rowT (.node l r) = 40 :: (enc l ++ rowT r) := by rw [rowT_node, ← rowT_snoc l]; simp
  have hlen : (rowT (.node l r)).length = 2 * l.sz + 2 * r.sz + 2 := by rw [rowT_len]; simp only [Tr.sz]; lia
  have el := enc_len l
  have step : ∀ k, k < l.sz → cutC (rowT (.node l r)) k = true := fun k hk => by
    unfold cutC
    have e : (rowT (.node l r)).take (2 + 2 * k) = 40 :: (enc l).take (2 * k + 1) := by
      rw [hr, show 2 + 2 * k = (2 * k + 1) + 1 by lia, List.take_succ_cons, List.take_append_of_le_length (by lia)]
    rw [e, check_pre l _ (by lia), decide_eq_true (by lia)]; rfl
  have stop : cutC (rowT (.node l r)) l.sz = false := by
    unfold cutC
    have e : (rowT (.node l r)).take (2 + 2 * l.sz) = 40 :: enc l := by
      rw [hr, show 2 + 2 * l.sz = (enc l).length + 1 by lia, List.take_succ_cons, List.take_left]
    rw [e, check_enc l]; simp
  have go : ∀ n k, k ≤ l.sz → l.sz - k < n → cutR (rowT (.node l r)) n k = l.sz := by
    intro n
    induction n with
    | zero => intro k _ h; lia
    | succ n ih =>
      intro k hk hn
      unfold cutR
      by_cases h : k < l.sz
      · rw [if_pos (step k h)]; exact ih (k + 1) (h) (by lia)
      · have : k = l.sz := by lia
        subst this
        rw [if_neg (by rw [stop]; decide)]
  unfold cutF
  rw [go _ 0 (Nat.zero_le _) (by lia)]
private theorem starts_go : ∀ (n : Nat) (A : Tr) (low : Int) (b : Nat), 2 * A.sz < n → A.sz ≤ b → startsF n (rowT A) low ((2 ^ b : Nat) : Int) = (words A).map fun w => low + (nw b w : Int)
  | 0, _, _, _, h, _ => by lia
  | n + 1, .leaf, low, b, _, _ => by simp [startsF, rowT_leaf, words, nw_nil]
  | n + 1, .node l r, low, 0, _, h => by simp [Tr.sz] at h
  | n + 1, .node l r, low, b + 1, hn, h => by
    simp only [Tr.sz] at hn h
    have hd : (((2 ^ (b + 1) : Nat) : Int)).fdiv 2 = ((2 ^ b : Nat) : Int) := by
      rw [show ((2 ^ (b + 1) : Nat) : Int) = ((2 ^ b : Nat) : Int) * 2 by rw [Nat.pow_succ]; push_cast; rfl]
      exact Int.mul_fdiv_cancel _ (by decide)
    have hr : rowT (.node l r) = 40 :: (rowT l ++ 41 :: rowT r) := rowT_node l r
    have ll := rowT_len l
    have h1 : ((rowT (.node l r)).take (2 + 2 * l.sz - 1)).drop 1 = rowT l := by
      rw [hr, show 2 + 2 * l.sz - 1 = (rowT l).length + 1 by lia, List.take_succ_cons, List.take_left]; rfl
    have h2 : (rowT (.node l r)).drop (2 + 2 * l.sz) = rowT r := by
      rw [hr, show 2 + 2 * l.sz = (rowT l).length + 1 + 1 by lia, List.drop_succ_cons, List.drop_append, List.drop_of_length_le (Nat.le_succ _)]
      simp
    rw [startsF, if_neg (by rw [hr]; simp), cut_node, h1, h2, hd, starts_go n l low b (by lia) (by lia), starts_go n r _ b (by lia) (by lia), words, List.map_append, List.map_map, List.map_map]
    congr 1
    · refine List.map_congr_left fun w hw => ?_
      have := word_len l hw
      show _ = low + (nw (b + 1) (false :: w) : Int)
      rw [nw_cons (by lia)]; simp
    · refine List.map_congr_left fun w hw => ?_
      have := word_len r hw
      show _ = low + (nw (b + 1) (true :: w) : Int)
      rw [nw_cons (by lia)]; simp; lia
private theorem led_go (rest : Nat) (b : Nat) (point : Int) : ∀ (wa wb : List Wd) (k i : Nat) (w v : Wd), (∀ w ∈ wa, w.length ≤ b) → (∀ w ∈ wb, w.length ≤ b) → b ≤ 100 → wa[i]? = some w → wb[i]? = some v →
    rest / 2 ^ (b - w.length) = wv w → (∀ j, j < i → ∀ u, wa[j]? = some u → rest / 2 ^ (b - u.length) ≠ wv u) →
    ledGo rest b point (wa.map (pt 0 0)) (wb.map (pt 0 0)) k = some [point - rest + (nw b v : Int) + (((rest - nw b w) * 2 ^ w.length / 2 ^ v.length : Nat) : Int), 0, ((k + i : Nat) : Int)]
  | [], _, _, i, _, _, _, _, _, h, _, _, _ => by simp at h
  | _ :: _, [], _, i, _, _, _, _, _, _, h, _, _ => by simp at h
  | a :: wa, c :: wb, k, i, w, v, ha, hb, hb2, h1, h2, h3, h4 => by
    have la := ha a List.mem_cons_self
    have lc := hb c List.mem_cons_self
    have wlt : ∀ (w : Wd), w.length ≤ b → (wv w : Int).natAbs < 2 ^ 900 := by
      intro w hw
      have : ∀ w : Wd, wv w < 2 ^ w.length := by
        intro w
        induction w with
        | nil => simp [wv]
        | cons c w ih => simp only [wv, List.length_cons, Nat.pow_succ]; split <;> lia
      have h1 := this w
      have h2 : 2 ^ w.length ≤ 2 ^ 900 := Nat.pow_le_pow_right (by decide) (by lia)
      rw [Int.natAbs_natCast]; lia
    have e0 : ∀ w : Wd, pt 0 0 w = ((wv w : Int), (w.length : Int)) := fun w => by unfold pt; simp
    have sb : ∀ w : Wd, w.length ≤ b → ((b : Int) - (w.length : Int)).toNat = b - w.length := fun w hw => by lia
    have pc : ∀ n : Nat, (2 : Int) ^ n = ((2 ^ n : Nat) : Int) := fun n => by push_cast; rfl
    simp only [List.map_cons, e0, ledGo]
    rw [if_pos ⟨by exact Int.natCast_nonneg _, by exact Int.ofNat_le.mpr la, by exact Int.natCast_nonneg _, by exact Int.ofNat_le.mpr lc, wlt a la, wlt c lc⟩, sb a la, sb c lc, Int.toNat_natCast, Int.toNat_natCast, pc, pc, pc, pc]
    have fd : ((rest : Nat) : Int).fdiv ((2 ^ (b - a.length) : Nat) : Int) = ((rest / 2 ^ (b - a.length) : Nat) : Int) := by
      rw [Int.fdiv_eq_ediv_of_nonneg _ (Int.natCast_nonneg _)]; push_cast; rfl
    rw [fd]
    cases i with
    | zero =>
      simp only [List.getElem?_cons_zero, Option.some.injEq] at h1 h2
      subst h1; subst h2
      rw [if_pos (by exact_mod_cast h3)]
      have hle : nw b a ≤ rest := by
        unfold nw; rw [← h3]; exact Nat.div_mul_le_self _ _
      have e2 : ((rest : Nat) : Int) - (wv a : Int) * ((2 ^ (b - a.length) : Nat) : Int) = ((rest - nw b a : Nat) : Int) := by
        rw [Int.natCast_sub hle]; unfold nw; push_cast; rfl
      rw [e2, ← Int.natCast_mul, Int.fdiv_eq_ediv_of_nonneg _ (Int.natCast_nonneg _)]
      unfold nw; push_cast; rfl
    | succ i =>
      have hne := h4 0 (by lia) a rfl
      rw [if_neg (by intro h; exact hne (by exact_mod_cast h))]
      have := led_go rest b point wa wb (k + 1) i w v (fun w h => ha w (List.mem_cons_of_mem _ h)) (fun w h => hb w (List.mem_cons_of_mem _ h)) hb2 (by simpa using h1) (by simpa using h2) h3
        (fun j hj u hu => h4 (j + 1) (Nat.succ_le_succ hj) u (by simpa using hu))
      have key : ∀ xs ys : PP', xs = wa.map (pt 0 0) → ys = wb.map (pt 0 0) → ledGo rest b point xs ys (k + 1) = some [point - rest + (nw b v : Int) + (((rest - nw b w) * 2 ^ w.length / 2 ^ v.length : Nat) : Int), 0, ((k + (i + 1) : Nat) : Int)] := by
        rintro _ _ rfl rfl
        rw [this, show k + 1 + i = k + (i + 1) by lia]
      exact key _ _ rfl rfl
structure Falls (A B : Tr) (b : Nat) (x : St) (i : Nat) (w v : Wd) (z : St) : Prop where
  ha : (words A)[i]? = some w
  hb : (words B)[i]? = some v
  hx : x = pre w z
  hp : phi A B x = pre v z
  la : w.length ≤ b
  lb : v.length ≤ b
  na : num b x = nw b w + num (b - w.length) z
  nb : num b (phi A B x) = nw b v + num (b - v.length) z
private theorem falls {A B : Tr} (h : A.lv = B.lv) {b : Nat} (hb : A.sz ≤ b) (x : St) : ∃ i w v z, Falls A B b x i w v z := by
  obtain ⟨i, w, z, hw, rfl⟩ := at_leaf A x
  have hi := (List.getElem?_eq_some_iff.mp hw).1
  rw [words_len, h, ← words_len] at hi
  have hv : (words B)[i]? = some (words B)[i] := List.getElem?_eq_getElem hi
  have h1 := word_len A (List.mem_of_getElem? hw)
  have h2 := word_len B (List.mem_of_getElem? hv)
  have s1 := lv_sz A
  have s2 := lv_sz B
  refine ⟨i, w, _, z, hw, hv, rfl, phi_at h hw hv z, by lia, by lia, num_pre _ _ _ (by lia), ?_⟩
  rw [phi_at h hw hv z]; exact num_pre _ _ _ (by lia)
private theorem Falls.scale {A B : Tr} {b : Nat} {x : St} {i : Nat} {w v : Wd} {z : St} (f : Falls A B b x i w v z) (h1 : zb b x) (h2 : zb b (phi A B x)) : num (b - w.length) z * 2 ^ w.length = num (b - v.length) z * 2 ^ v.length := by
  have z1 : zb (b - w.length) z := zb_unpre (f.hx ▸ h1)
  have z2 : zb (b - v.length) z := zb_unpre (f.hp ▸ h2)
  have e1 := num_zb _ w.length z1
  have e2 := num_zb _ v.length z2
  rw [Nat.sub_add_cancel f.la] at e1
  rw [Nat.sub_add_cancel f.lb] at e2
  rw [← e1, ← e2]
private theorem led_tree {A B : Tr} {b : Nat} {x : St} {i : Nat} {w v : Wd} {z : St} (f : Falls A B b x i w v z) (h1 : zb b x) (h2 : zb b (phi A B x)) (hA : A.sz ≤ b) (hB : B.sz ≤ b) (hb : b ≤ 100) (whole : Int) :
    ledF (rowT A) (rowT B) (whole * 2 ^ b + (num b x : Int)) b = some [whole * 2 ^ b + (num b (phi A B x) : Int), 0, (i : Int)] := by
  have hl := num_lt b x
  have pc : (2 : Int) ^ b = ((2 ^ b : Nat) : Int) := by push_cast; rfl
  have hm : (whole * 2 ^ b + (num b x : Int)) % 2 ^ b = (num b x : Int) := by
    rw [Int.mul_comm, Int.mul_add_emod_self_left]
    exact Int.emod_eq_of_lt (Int.natCast_nonneg _) (by rw [pc]; exact_mod_cast hl)
  have lz := num_lt (b - w.length) z
  have hp : 0 < 2 ^ (b - w.length) := Nat.pow_pos (by decide)
  have go := led_go (num b x) b (whole * 2 ^ b + (num b x : Int)) (words A) (words B) 0 i w v (fun w hw => by have := word_len A hw; lia) (fun w hw => by have := word_len B hw; lia) hb f.ha f.hb
    (by rw [f.na]; unfold nw; rw [Nat.add_comm, Nat.add_mul_div_right _ _ hp, Nat.div_eq_of_lt lz, Nat.zero_add])
    (fun j hj u hu he => by
      obtain ⟨y, hy⟩ := pre_of_num u b x (by have := word_len A (List.mem_of_getElem? hu); lia) he
      have := leaf_uniq f.ha hu (z := z) (y := y) (by rw [← f.hx, ← hy])
      lia)
  unfold ledF
  rw [parts_tree, parts_tree]
  simp only []
  have s1 := words_len A
  have s2 := words_len B
  have s3 := lv_sz A
  have s4 := lv_sz B
  rw [if_pos ⟨by rw [List.length_map]; lia, by rw [List.length_map]; lia⟩, show ((b : Int)).toNat = b from Int.toNat_natCast b, hm, go]
  have hs := f.scale h1 h2
  have e : (num b x - nw b w) * 2 ^ w.length / 2 ^ v.length = num (b - v.length) z := by
    rw [f.na, Nat.add_sub_cancel_left, hs, Nat.mul_div_cancel _ (Nat.pow_pos (by decide))]
  rw [e, f.nb, Nat.zero_add]
  congr 2
  push_cast; lia
end
section
private theorem bisGo_find (p : Nat → Bool) (c : Nat) : ∀ n lo hi, hi - lo < 2 ^ n → lo ≤ c → c ≤ hi → (∀ i, lo ≤ i → i < hi → p i = decide (c ≤ i)) → bisGo p n lo hi = c
  | 0, lo, hi, h, h1, h2, _ => Nat.le_antisymm h1 (Nat.le_trans h2 (Nat.le_of_sub_eq_zero (Nat.lt_one_iff.mp h)))
  | n + 1, lo, hi, h, h1, h2, h3 => by
    unfold bisGo
    by_cases hlt : lo < hi
    · obtain ⟨q1, q2, q3, q4⟩ := half hlt h
      rw [if_pos hlt, h3 _ q1 q2]
      by_cases hc : c ≤ (lo + hi) / 2
      · rw [if_pos (decide_eq_true hc)]
        exact bisGo_find p c n _ _ q3 h1 hc fun i a b => h3 i a (Nat.lt_trans b q2)
      · rw [if_neg fun e => hc (of_decide_eq_true e)]
        exact bisGo_find p c n _ _ q4 (Nat.not_le.mp hc) h2 fun i a b => h3 i (Nat.le_trans q1 (Nat.le_of_succ_le a)) b
    · rw [if_neg hlt]; exact Nat.le_antisymm h1 (Nat.le_trans h2 (Nat.not_lt.mp hlt))
private theorem first_word : ∀ (A : Tr) {w : Wd}, (words A)[0]? = some w → wv w = 0
  | .leaf, w, h => by simp [words] at h; subst h; rfl
  | .node l r, w, h => by
    have hl := lv_pos l
    rw [words, List.getElem?_append_left (by simpa [words_len] using hl), List.getElem?_map] at h
    obtain ⟨v, h1, rfl⟩ := Option.map_eq_some_iff.mp h
    have := first_word l h1
    simp [wv, this]
private theorem next_word : ∀ (A : Tr) (b i : Nat) (w : Wd), A.sz ≤ b → (words A)[i]? = some w → ((words A).map (nw b) ++ [2 ^ b])[i + 1]? = some (nw b w + 2 ^ (b - w.length))
  | .leaf, b, i, w, _, h => by
    cases i with
    | zero => simp [words] at h; subst h; simp [words, nw_nil]
    | succ i => simp [words] at h
  | .node l r, 0, _, _, h, _ => by simp [Tr.sz] at h
  | .node l r, b + 1, i, w, hb, h => by
    simp only [Tr.sz] at hb
    have hl : ((words l).map (false :: ·)).length = l.lv := by simp [words_len]
    have e1 : ((words l).map (false :: ·)).map (nw (b + 1)) = (words l).map (nw b) := by
      rw [List.map_map]
      refine List.map_congr_left fun u hu => ?_
      have := word_len l hu
      show nw (b + 1) (false :: u) = _
      rw [nw_cons (by lia)]; simp
    have e2 : ((words r).map (true :: ·)).map (nw (b + 1)) = (words r).map fun u => 2 ^ b + nw b u := by
      rw [List.map_map]
      refine List.map_congr_left fun u hu => ?_
      have := word_len r hu
      show nw (b + 1) (true :: u) = _
      rw [nw_cons (by lia)]; simp
    have hlm : ((words l).map (nw b)).length = l.lv := by simp [words_len]
    rw [words] at h
    rw [words, List.map_append, e1, e2, List.append_assoc]
    by_cases hi : i < l.lv
    · rw [List.getElem?_append_left (by rw [hl]; exact hi), List.getElem?_map] at h
      obtain ⟨v, h1, rfl⟩ := Option.map_eq_some_iff.mp h
      have hv := word_len l (List.mem_of_getElem? h1)
      have ih := next_word l b i v (by lia) h1
      rw [nw_cons (by lia), List.length_cons, Nat.add_sub_add_right]
      simp only [Bool.false_eq_true, if_false, Nat.zero_add]
      by_cases hi2 : i + 1 < l.lv
      · rw [List.getElem?_append_left (by rw [hlm]; exact hi2)] at ih ⊢
        exact ih
      · have : i + 1 = l.lv := by lia
        rw [List.getElem?_append_right (by rw [hlm]; lia), hlm, this, Nat.sub_self] at ih ⊢
        simp only [List.getElem?_cons_zero, Option.some.injEq] at ih
        have hr : 0 < (words r).length := by rw [words_len]; exact lv_pos r
        have h0 : (words r)[0]? = some (words r)[0] := List.getElem?_eq_getElem hr
        have hz := first_word r h0
        rw [List.getElem?_append_left (by simpa using hr), List.getElem?_map, h0, Option.map_some]
        have hz2 : nw b (words r)[0] = 0 := by unfold nw; rw [hz, Nat.zero_mul]
        rw [← ih, hz2, Nat.add_zero]
    · rw [List.getElem?_append_right (by rw [hl]; lia), List.getElem?_map, hl] at h
      obtain ⟨v, h1, rfl⟩ := Option.map_eq_some_iff.mp h
      have hv := word_len r (List.mem_of_getElem? h1)
      have ih := next_word r b (i - l.lv) v (by lia) h1
      rw [nw_cons (by lia), List.length_cons, Nat.add_sub_add_right]
      simp only [if_true]
      rw [List.getElem?_append_right (by rw [hlm]; lia), hlm, show i + 1 - l.lv = i - l.lv + 1 by lia]
      have e3 : (words r).map (fun u => 2 ^ b + nw b u) ++ [2 ^ (b + 1)] = ((words r).map (nw b) ++ [2 ^ b]).map fun n => 2 ^ b + n := by
        rw [List.map_append, List.map_map, Nat.pow_succ, Nat.mul_two]; rfl
      rw [e3, List.getElem?_map, ih, Option.map_some, Nat.add_assoc]
noncomputable def stL (A : Tr) (b : Nat) : List Int := (words A).map (fun w => (nw b w : Int)) ++ [(2 : Int) ^ b]
private theorem stL_nat (A : Tr) (b : Nat) : stL A b = (((words A).map (nw b) ++ [2 ^ b] : List Nat)).map fun (n : Nat) => (n : Int) := by
  unfold stL; simp
private theorem stL_len (A : Tr) (b : Nat) : (stL A b).length = A.lv + 1 := by unfold stL; simp [words_len]
private theorem stL_at {A : Tr} {b i : Nat} {w : Wd} (hb : A.sz ≤ b) (h : (words A)[i]? = some w) : (stL A b).getD i 0 = (nw b w : Int) ∧ (stL A b).getD (i + 1) 0 = (nw b w : Int) + ((2 ^ (b - w.length) : Nat) : Int) := by
  have hi := (List.getElem?_eq_some_iff.mp h).1
  constructor
  · rw [List.getD_eq_getElem?_getD, stL_nat, List.getElem?_map, List.getElem?_append_left (by simpa using hi), List.getElem?_map, h]; rfl
  · rw [List.getD_eq_getElem?_getD, stL_nat, List.getElem?_map, next_word A b i w hb h]; simp
private theorem stL_mono {A : Tr} {b : Nat} (hb : A.sz ≤ b) (j : Nat) : ∀ k, j + k ≤ A.lv → (stL A b).getD j 0 ≤ (stL A b).getD (j + k) 0
  | 0, _ => Int.le_refl _
  | k + 1, h => by
    have ih := stL_mono hb j k (Nat.le_of_lt h)
    have hi : j + k < (words A).length := by rw [words_len]; exact h
    obtain ⟨h1, h2⟩ := stL_at hb (List.getElem?_eq_getElem hi)
    rw [show j + (k + 1) = j + k + 1 by lia, h2]
    rw [h1] at ih
    have := Int.natCast_nonneg (2 ^ (b - (words A)[j + k].length))
    lia
private theorem spot_tree {A : Tr} {b i : Nat} {w : Wd} {r : Nat} (hb : A.sz ≤ b) (hs : A.sz ≤ 100) (h : (words A)[i]? = some w) (h1 : nw b w ≤ r) (h2 : r < nw b w + 2 ^ (b - w.length)) : spotF (stL A b) (r : Int) = i + 1 := by
  have hi := (List.getElem?_eq_some_iff.mp h).1
  rw [words_len] at hi
  have hs2 := lv_sz A
  obtain ⟨e1, e2⟩ := stL_at hb h
  unfold spotF
  refine bisGo_find _ (i + 1) 12 0 _ (by rw [stL_len]; lia) (Nat.zero_le _) (by rw [stL_len]; exact Nat.le_succ_of_le hi) fun j zz hj => ?_
  rw [stL_len] at hj
  have h2' : ((r : Nat) : Int) < (nw b w : Int) + ((2 ^ (b - w.length) : Nat) : Int) := by exact_mod_cast h2
  have h1' : (nw b w : Int) ≤ (r : Int) := by exact_mod_cast h1
  by_cases hc : i + 1 ≤ j
  · have m := stL_mono hb (i + 1) (j - (i + 1)) (by (clear hs2 hi; lia))
    rw [show i + 1 + (j - (i + 1)) = j by omega, e2] at m
    rw [decide_eq_true hc, decide_eq_true (by (clear e2 e1 h2; omega))]
  · have m := stL_mono hb j (i - j) (by (clear hc hs2; lia))
    rw [show j + (i - j) = i by lia, e1] at m
    rw [decide_eq_false hc, decide_eq_false (by lia)]
private theorem neg_fdiv_neg' (a b : Int) : (-1 * a).fdiv (-1 * b) = a.fdiv b := by
  rw [Int.neg_one_mul, Int.neg_one_mul]; exact Int.neg_fdiv_neg a b
private theorem neg_fmod_neg' (a b : Int) : (-1 * a).fmod (-1 * b) = -1 * a.fmod b := by
  rw [Int.fmod_def, Int.fmod_def, neg_fdiv_neg']; rw [Int.mul_sub, Int.mul_assoc]
private theorem moved_tree {A B : Tr} {b : Nat} {x : St} {i : Nat} {w v : Wd} {z : St} (f : Falls A B b x i w v z) (hl : A.lv = B.lv) (h1 : zb b x) (h2 : zb b (phi A B x)) (hA : A.sz ≤ b) (hA2 : A.sz ≤ 100) (hb : b ≤ 29) (whole sign : Int) (hs : sign = 1 ∨ sign = -1)
    (hp : (whole * 2 ^ b + (num b x : Int)).natAbs < 2 ^ 60) :
    movedF (stL A b) (stL B b) (whole * 2 ^ b + (num b x : Int)) (2 ^ b) sign = some [whole * 2 ^ b + (num b (phi A B x) : Int), 0, (i : Int)] := by
  have hlt := num_lt b x
  have pc : (2 : Int) ^ b = ((2 ^ b : Nat) : Int) := by push_cast; rfl
  have sA := lv_sz A
  have sB := lv_sz B
  have hi := (List.getElem?_eq_some_iff.mp f.ha).1
  rw [words_len] at hi
  have hm0 : (0 : Int) < 2 ^ b := Int.pow_pos (by decide)
  have hdiv : (whole * 2 ^ b + (num b x : Int)).fdiv (2 ^ b) = whole := by
    rw [Int.fdiv_eq_ediv_of_nonneg _ (by lia), Int.add_comm, Int.add_mul_ediv_right _ _ (by lia), Int.ediv_eq_zero_of_lt (by lia) (by rw [pc]; exact_mod_cast hlt), Int.zero_add]
  have hmod : (whole * 2 ^ b + (num b x : Int)).fmod (2 ^ b) = (num b x : Int) := by
    rw [Int.fmod_def, hdiv, Int.mul_comm]; lia
  have hdiv' : (sign * (whole * 2 ^ b + (num b x : Int))).fdiv (sign * 2 ^ b) = whole := by
    rcases hs with rfl | rfl
    · rw [Int.one_mul, Int.one_mul, hdiv]
    · rw [neg_fdiv_neg', hdiv]
  have hmod' : sign * (sign * (whole * 2 ^ b + (num b x : Int))).fmod (sign * 2 ^ b) = (num b x : Int) := by
    rcases hs with rfl | rfl
    · rw [Int.one_mul, Int.one_mul, Int.one_mul, hmod]
    · rw [neg_fmod_neg', hmod]; lia
  obtain ⟨a1, a2⟩ := stL_at hA f.ha
  obtain ⟨b1, b2⟩ := stL_at (show B.sz ≤ b by lia) f.hb
  have lz := num_lt (b - w.length) z
  have lz' := num_lt (b - v.length) z
  have hspot : spotF (stL A b) (num b x : Int) = i + 1 := spot_tree hA hA2 f.ha (by rw [f.na]; lia) (by rw [f.na]; lia)
  unfold movedF
  rw [hmod', hspot]
  simp only []
  unfold movedAt
  rw [hmod', hdiv', a1, a2, b1, b2]
  have hsc := f.scale h1 h2
  have pw : 2 ^ (b - w.length) * 2 ^ w.length = 2 ^ b := by rw [← Nat.pow_add, Nat.sub_add_cancel f.la]
  have pv : 2 ^ (b - v.length) * 2 ^ v.length = 2 ^ b := by rw [← Nat.pow_add, Nat.sub_add_cancel f.lb]
  have far : num (b - w.length) z * 2 ^ (b - v.length) = num (b - v.length) z * 2 ^ (b - w.length) := by
    have hpos : 0 < 2 ^ w.length * 2 ^ v.length := Nat.mul_pos (Nat.pow_pos (by decide)) (Nat.pow_pos (by decide))
    refine Nat.eq_of_mul_eq_mul_right hpos ?_
    calc num (b - w.length) z * 2 ^ (b - v.length) * (2 ^ w.length * 2 ^ v.length)
        = (num (b - w.length) z * 2 ^ w.length) * (2 ^ (b - v.length) * 2 ^ v.length) := by ac_rfl
      _ = (num (b - v.length) z * 2 ^ v.length) * (2 ^ (b - w.length) * 2 ^ w.length) := by rw [hsc, pv, pw]
      _ = num (b - v.length) z * 2 ^ (b - w.length) * (2 ^ w.length * 2 ^ v.length) := by ac_rfl
  have d1 : (num b x : Int) - (nw b w : Int) = (num (b - w.length) z : Int) := by rw [f.na]; push_cast; lia
  have d2 : (nw b v : Int) + ((2 ^ (b - v.length) : Nat) : Int) - (nw b v : Int) = ((2 ^ (b - v.length) : Nat) : Int) := by lia
  have d3 : (nw b w : Int) + ((2 ^ (b - w.length) : Nat) : Int) - (nw b w : Int) = ((2 ^ (b - w.length) : Nat) : Int) := by lia
  have hpw : 2 ^ (b - w.length) ≤ 2 ^ 29 := Nat.pow_le_pow_right (by decide) (by lia)
  have hpv : 2 ^ (b - v.length) ≤ 2 ^ 29 := Nat.pow_le_pow_right (by decide) (by lia)
  have hpb : 2 ^ b ≤ 2 ^ 29 := Nat.pow_le_pow_right (by decide) (hb)
  have hp0 : 0 < 2 ^ (b - w.length) := Nat.pow_pos (by decide)
  rw [d1, d2, d3, ← Int.natCast_mul, far]
  have hfar : num (b - v.length) z * 2 ^ (b - w.length) < 2 ^ 60 := by
    have : num (b - v.length) z * 2 ^ (b - w.length) ≤ 2 ^ 29 * 2 ^ 29 := Nat.mul_le_mul (by lia) hpw
    have : (2 : Nat) ^ 29 * 2 ^ 29 < 2 ^ 60 := by decide
    (clear far; lia)
  have sg : ∀ a : Int, (sign * a).natAbs = a.natAbs := fun a => sg_mul hs
  have hne : ((2 ^ (b - w.length) : Nat) : Int) ≠ 0 := by
    intro h
    have : 2 ^ (b - w.length) = 0 := by exact_mod_cast h
    (clear h; lia)
  rw [if_pos ⟨hs, by rw [sg]; exact hp, by lia, by rw [pc, Int.natAbs_natCast]; lia, by rw [stL_len]; lia, by rw [stL_len]; lia, by rw [stL_len]; lia, by rw [stL_len]; lia,
    sg_ne hs hne, by rw [sg, Int.natAbs_natCast]; lia, by rw [sg, Int.natAbs_natCast]; exact hfar, by rw [Int.natAbs_natCast]; lia⟩]
  have q1 : (sign * ((num (b - v.length) z * 2 ^ (b - w.length) : Nat) : Int)).fdiv (sign * ((2 ^ (b - w.length) : Nat) : Int)) = (num (b - v.length) z : Int) := by
    have : (((num (b - v.length) z * 2 ^ (b - w.length) : Nat) : Int)).fdiv ((2 ^ (b - w.length) : Nat) : Int) = (num (b - v.length) z : Int) := by
      rw [Int.natCast_mul]; exact Int.mul_fdiv_cancel _ hne
    rcases hs with rfl | rfl
    · rw [Int.one_mul, Int.one_mul, this]
    · rw [neg_fdiv_neg', this]
  have q2 : (sign * ((num (b - v.length) z * 2 ^ (b - w.length) : Nat) : Int)).fmod (sign * ((2 ^ (b - w.length) : Nat) : Int)) = 0 := by
    rw [Int.fmod_def, q1, Int.natCast_mul, Int.mul_comm (num (b - v.length) z : Int), Int.mul_assoc]; lia
  rw [q1, q2, f.nb]
  congr 2
  push_cast; lia
end
section
noncomputable def lts (x y : St) : Prop := ∃ n, (∀ m, m < n → x m = y m) ∧ x n = false ∧ y n = true
private theorem lts_cons {c : Bool} {x y : St} : lts (cons c x) (cons c y) ↔ lts x y := by
  constructor
  · rintro ⟨n, h1, h2, h3⟩
    cases n with
    | zero => simp only [cons] at h2 h3; rw [h2] at h3; cases h3
    | succ n => exact ⟨n, fun m hm => h1 (m + 1) (Nat.succ_le_succ hm), h2, h3⟩
  · rintro ⟨n, h1, h2, h3⟩
    refine ⟨n + 1, fun m hm => ?_, h2, h3⟩
    cases m with
    | zero => rfl
    | succ m => exact h1 m (by lia)
private theorem lts_pre {x y : St} : ∀ {w : Wd}, lts (pre w x) (pre w y) ↔ lts x y
  | [] => Iff.rfl
  | _ :: _ => lts_cons.trans lts_pre
private theorem lts_head (x y : St) : lts (cons false x) (cons true y) := ⟨0, fun m hm => by lia, rfl, rfl⟩
private theorem lts_asymm {x y : St} (h : lts x y) (h' : lts y x) : False := by
  obtain ⟨n, a1, a2, a3⟩ := h
  obtain ⟨m, b1, b2, b3⟩ := h'
  rcases Nat.lt_trichotomy n m with h | h | h
  · rw [← b1 n h, a3] at a2; cases a2
  · subst h; rw [a2] at b3; cases b3
  · rw [← a1 m h, b3] at b2; cases b2
private theorem words_pw : ∀ B : Tr, (words B).Pairwise fun v u => ∀ x y, lts (pre v x) (pre u y)
  | .leaf => by simp [words]
  | .node l r => by
    rw [words, List.pairwise_append]
    refine ⟨List.pairwise_map.mpr ((words_pw l).imp fun h x y => lts_cons.mpr (h x y)), List.pairwise_map.mpr ((words_pw r).imp fun h x y => lts_cons.mpr (h x y)), fun v hv u hu x y => ?_⟩
    obtain ⟨v', _, rfl⟩ := List.mem_map.mp hv
    obtain ⟨u', _, rfl⟩ := List.mem_map.mp hu
    exact lts_head _ _
private theorem words_lt {B : Tr} {i j : Nat} {v u : Wd} (h : i < j) (hv : (words B)[i]? = some v) (hu : (words B)[j]? = some u) (x y : St) : lts (pre v x) (pre u y) := by
  obtain ⟨hi, rfl⟩ := List.getElem?_eq_some_iff.mp hv
  obtain ⟨hj, rfl⟩ := List.getElem?_eq_some_iff.mp hu
  exact List.pairwise_iff_getElem.mp (words_pw B) i j hi hj h x y
private theorem phi_mono {A B : Tr} (h : A.lv = B.lv) {x y : St} (hl : lts x y) : lts (phi A B x) (phi A B y) := by
  obtain ⟨i, w, z, hw, rfl⟩ := at_leaf A x
  obtain ⟨j, w', z', hw', rfl⟩ := at_leaf A y
  have hi := (List.getElem?_eq_some_iff.mp hw).1
  have hj := (List.getElem?_eq_some_iff.mp hw').1
  rw [words_len, h, ← words_len] at hi hj
  have hv := List.getElem?_eq_getElem hi
  have hu := List.getElem?_eq_getElem hj
  rw [phi_at h hw hv, phi_at h hw' hu]
  rcases Nat.lt_trichotomy i j with hc | hc | hc
  · exact words_lt hc hv hu _ _
  · subst hc
    rw [hw] at hw'; cases hw'
    exact lts_pre.mpr (lts_pre.mp hl)
  · exact (lts_asymm hl (words_lt hc hw' hw _ _)).elim
private theorem num_mono : ∀ (b : Nat) {x y : St}, zb b y → lts x y → num b x < num b y
  | 0, x, y, hy, ⟨n, _, _, h3⟩ => by rw [hy n (Nat.zero_le _)] at h3; cases h3
  | b + 1, x, y, hy, h => by
    rw [← cons_tl x, ← cons_tl y] at h
    have h1 := num_lt b (tl x)
    rw [num, num]
    cases hx0 : x 0 <;> cases hy0 : y 0 <;> rw [hx0, hy0] at h
    · have := num_mono b (zb_tl hy) (lts_cons.mp h); simp; exact this
    · simp; lia
    · exact (lts_asymm h (lts_head _ _)).elim
    · have := num_mono b (zb_tl hy) (lts_cons.mp h); simp; exact this
private theorem lts_total (x y : St) : x = y ∨ lts x y ∨ lts y x := by
  by_cases h : x = y
  · exact .inl h
  · refine .inr ?_
    have hex : ∃ n, x n ≠ y n := Classical.byContradiction fun hn => h (funext fun n => Classical.byContradiction fun h2 => hn ⟨n, h2⟩)
    have key : ∀ n, x n ≠ y n → ∃ m, (∀ k, k < m → x k = y k) ∧ x m ≠ y m := by
      intro n
      induction n using Nat.strongRecOn with
      | ind n ih =>
        intro hn
        by_cases h3 : ∃ k, k < n ∧ x k ≠ y k
        · obtain ⟨k, h4, h5⟩ := h3
          exact ih k h4 h5
        · exact ⟨n, fun k hk => Classical.byContradiction fun h5 => h3 ⟨k, hk, h5⟩, hn⟩
    obtain ⟨n, hn⟩ := hex
    obtain ⟨m, h1, h2⟩ := key n hn
    cases hx : x m <;> cases hy : y m
    · rw [hx, hy] at h2; exact absurd rfl h2
    · exact .inl ⟨m, h1, hx, hy⟩
    · exact .inr ⟨m, fun k hk => (h1 k hk).symm, hy, hx⟩
    · rw [hx, hy] at h2; exact absurd rfl h2
private theorem lts_num {b : Nat} {x y : St} (hx : zb b x) (h : num b x < num b y) : lts x y := by
  rcases lts_total x y with rfl | h1 | h1
  · lia
  · exact h1
  · have := num_mono b hx h1; lia
noncomputable def st16 (b s : Nat) : St := str b (s * 2 ^ (b - 4))
private theorem p16 {b s : Nat} (hb : 4 ≤ b) (hs : s < 16) : s * 2 ^ (b - 4) < 2 ^ b := by
  have : 2 ^ b = 16 * 2 ^ (b - 4) := by rw [show (16 : Nat) = 2 ^ 4 from rfl, ← Nat.pow_add]; congr 1; omega
  rw [this]; exact Nat.mul_lt_mul_of_pos_right hs (Nat.pow_pos (by decide))
private theorem num16 {b s : Nat} (hb : 4 ≤ b) (hs : s < 16) : num b (st16 b s) = s * 2 ^ (b - 4) := num_str b _ (p16 hb hs)
private theorem str_zb : ∀ (b k r : Nat), r < 2 ^ b → str (b + k) (r * 2 ^ k) = str b r
  | b, k, r, h => by
    have h1 := num_zb b k (zb_str b r)
    rw [num_str b r h] at h1
    rw [← h1]
    exact str_num (b + k) (str b r) (zb_mono (zb_str b r) (by lia))
private theorem zb16 {b s : Nat} (hb : 4 ≤ b) (hs : s < 16) : zb 4 (st16 b s) := by
  have := str_zb 4 (b - 4) s (by simpa using hs)
  unfold st16
  rw [show 4 + (b - 4) = b by omega] at this
  rw [this]; exact zb_str 4 s
private theorem lt16 {b s t : Nat} (hb : 4 ≤ b) (hs : s < t) (ht : t < 16) : lts (st16 b s) (st16 b t) := by
  refine lts_num (b := b) (zb_mono (zb16 hb (by lia)) hb) ?_
  rw [num16 hb (by lia), num16 hb ht]
  exact Nat.mul_lt_mul_of_pos_right hs (Nat.pow_pos (by decide))
private theorem bis_left {ks : List Int} {s : Nat} (hl : ks.length = 16) (hs : s < 16) (hm : ∀ i j, i < j → j < 16 → ks.getD i 0 < ks.getD j 0) : bisGo (fun i => !decide (ks.getD i 0 < ks.getD s 0)) 12 0 ks.length = s := by
  refine bisGo_find _ s 12 0 _ (by rw [hl]; decide) (Nat.zero_le _) (by lia) fun j zz hj => ?_
  by_cases h : s ≤ j
  · rw [decide_eq_true h]
    rcases Nat.lt_or_eq_of_le h with h2 | h2
    · have := hm s j h2 (by lia)
      rw [decide_eq_false (by lia)]; rfl
    · subst h2; rw [decide_eq_false (by lia)]; rfl
  · have := hm j s (by lia) hs
    rw [decide_eq_false h, decide_eq_true this]; rfl
private theorem bis_right {ks : List Int} {s : Nat} (hl : ks.length = 16) (hs : s < 16) (hm : ∀ i j, i < j → j < 16 → ks.getD i 0 < ks.getD j 0) : bisGo (fun i => decide (ks.getD s 0 < ks.getD i 0)) 12 0 ks.length = s + 1 := by
  refine bisGo_find _ (s + 1) 12 0 _ (by rw [hl]; decide) (Nat.zero_le _) (by lia) fun j zz hj => ?_
  by_cases h : s + 1 ≤ j
  · rw [decide_eq_true h, decide_eq_true (hm s j (h) (by lia))]
  · rw [decide_eq_false h]
    rcases Nat.lt_or_eq_of_le (show j ≤ s by lia) with h2 | h2
    · have := hm j s h2 hs
      rw [decide_eq_false (by lia)]
    · subst h2; rw [decide_eq_false (by lia)]
structure Pr where
  a : Tr
  b : Tr
noncomputable def Pr.ok (p : Pr) (n : Nat) : Prop := p.a.lv = p.b.lv ∧ p.a.sz ≤ n
noncomputable def Pr.f (p : Pr) (x : St) : St := phi p.a p.b x
noncomputable def Pr.rows (p : Pr) : List (List Nat) := [rowT p.a, rowT p.b]
noncomputable def timesF (one two : Pr) : List Nat × List Nat := bareF (rowT (sub one.a (mt one.b two.a).1)) (rowT (sub two.b (mt one.b two.a).2))
private theorem times_tree {one two : Pr} {n m : Nat} (h1 : one.ok n) (h2 : two.ok m) : (sub one.a (mt one.b two.a).1).sz ≤ n + m ∧ (sub two.b (mt one.b two.a).2).sz ≤ n + m ∧
    ∃ p : Pr, timesF one two = (rowT p.a, rowT p.b) ∧ p.ok (n + m) ∧ red p.a p.b ∧ ∀ x, p.f x = two.f (one.f x) := by
  obtain ⟨e1, e2⟩ := mt_sub one.b two.a
  have l1 := mt_len1 one.b two.a
  have l2 := mt_len2 one.b two.a
  have s1 := lv_sz one.a
  have s2 := lv_sz one.b
  have s3 := lv_sz two.a
  have s4 := lv_sz two.b
  obtain ⟨h1, h1'⟩ := h1
  obtain ⟨h2, h2'⟩ := h2
  have z1 := sub_sz h1 (ts := (mt one.b two.a).1) (by (clear s2 s1; lia))
  have z2 := sub_sz h2 (ts := (mt one.b two.a).2) (l2)
  have hlv : (sub one.a (mt one.b two.a).1).lv = (sub two.b (mt one.b two.a).2).lv := by rw [lv_sz, lv_sz, z1, ← z2, e1]
  refine ⟨by lia, by rw [← z2, ← e1]; lia, ?_⟩
  obtain ⟨A', B', b1, b2, b3, b4, b5⟩ := bare_tree hlv
  refine ⟨⟨A', B'⟩, b1, ⟨b2, by show A'.sz ≤ _; lia⟩, b4, fun x => ?_⟩
  show phi A' B' x = _
  rw [b5 x]
  exact phi_times h1 h2 l1 l2 e1 x
private theorem pr_uniq {p q : Pr} {n m : Nat} (h1 : p.ok n) (h2 : q.ok m) (r1 : red p.a p.b) (r2 : red q.a q.b) (h : ∀ x, p.f x = q.f x) : p = q := by
  obtain ⟨a, b⟩ := p
  obtain ⟨c, d⟩ := q
  obtain ⟨e1, e2⟩ := red_uniq h1.1 h2.1 r1 r2 h
  simp only at e1 e2
  rw [e1, e2]
end
section
private theorem gTok_par {z : Nat → Bool} (hz : z 40 = false ∧ z 41 = false) (r : List Nat) : ∀ (w tok : List Nat), (∀ c ∈ w, par c) → gTok z tok (w ++ r) = gTok z (tok ++ w) r
  | [], tok, _ => by simp
  | c :: w, tok, h => by
    have hc := h c List.mem_cons_self
    have h1 : z c = false := by rcases hc with rfl | rfl; exact hz.1; exact hz.2
    have h2 : c ≠ 92 := by rcases hc with rfl | rfl <;> decide
    rw [List.cons_append, gTok_cons, h1, if_neg (by decide), if_neg h2, if_neg h2, gTok_par hz r w _ fun d hd => h d (List.mem_cons_of_mem _ hd)]
    simp
private theorem gTok_guard {z : Nat → Bool} (hz : z 92 = false) (r : List Nat) : ∀ (w tok : List Nat), gTok z tok (guardF w ++ r) = gTok z (tok ++ w) r
  | [], tok => by simp [guardF]
  | c :: w, tok => by
    have e : guardF (c :: w) ++ r = 92 :: c :: (guardF w ++ r) := by simp [guardF]
    rw [e, gTok_cons, hz, if_neg (by decide), if_pos rfl, if_pos rfl]
    simp only [List.take_succ_cons, List.take_zero, List.drop_succ_cons, List.drop_zero]
    rw [gTok_guard hz r w]; simp
private theorem tokF_lead (r : List Nat) : ∀ l : List Nat, (∀ c ∈ l, wsB c = true) → tokF (l ++ r) = tokF r
  | [], _ => rfl
  | c :: l, h => by
    rw [List.cons_append, tokF_ws (h c List.mem_cons_self), tokF_lead r l fun d hd => h d (List.mem_cons_of_mem _ hd)]
private theorem wsz : wsB 40 = false ∧ wsB 41 = false ∧ wsB 92 = false ∧ wsB 34 = false := by decide
private theorem qtz : qtB 40 = false ∧ qtB 41 = false ∧ qtB 92 = false ∧ qtB 34 = true := by decide
private theorem tokF_bare {w : List Nat} (r : List Nat) (h : ∀ c ∈ w, par c) (hn : w ≠ []) : tokF (w ++ r) = gTok wsB w r := by
  match w, hn with
  | c :: w, _ =>
    have hc := h c List.mem_cons_self
    have h1 : wsB c = false := by rcases hc with rfl | rfl; exact wsz.1; exact wsz.2.1
    have h2 : c ≠ 92 := by rcases hc with rfl | rfl <;> decide
    have h3 : c ≠ 34 := by rcases hc with rfl | rfl <;> decide
    rw [List.cons_append, tokF_pl (by rw [h1]; decide) h3, if_neg h2, if_neg h2, gTok_par ⟨wsz.1, wsz.2.1⟩ r w _ fun d hd => h d (List.mem_cons_of_mem _ hd)]
    rfl
private theorem tokF_guard {w : List Nat} (r : List Nat) (hn : w ≠ []) : tokF (guardF w ++ r) = gTok wsB w r := by
  match w, hn with
  | c :: w, _ =>
    have e : guardF (c :: w) ++ r = 92 :: c :: (guardF w ++ r) := by simp [guardF]
    rw [e, tokF_pl (by rw [wsz.2.2.1]; decide) (by decide), if_pos rfl, if_pos rfl]
    simp only [List.take_succ_cons, List.take_zero, List.drop_succ_cons, List.drop_zero]
    rw [gTok_guard wsz.2.2.1]; rfl
private theorem tokF_quote (r : List Nat) : tokF (34 :: r) = gTok qtB [] r := by
  exact tokF_qt (by rw [wsz.2.2.2]; decide) rfl
private theorem gTok_ws {w r : List Nat} {c : Nat} (h : wsB c = true) : gTok wsB w (c :: r) = (w, r, false) := by rw [gTok_cons, if_pos h]
private theorem gTok_qt {w r : List Nat} : gTok qtB w (34 :: r) = (w, r, false) := by rw [gTok_cons, if_pos qtz.2.2.2]
private theorem endF_cases (s : Int) : ∃ e : List Nat, endF s = e ∧ (∀ c ∈ e, wsB c = true) ∧ (e = [] ∨ ∃ c, e = [c]) ∧ ((s % 4).toNat % 2 = 0 → e ≠ []) := by
  refine ⟨endF s, rfl, ?_⟩
  have h2 : ((s % 4).toNat % 2 = 0) = (s % 2 = 0) := by
    rw [← Int.emod_emod_of_dvd s (show (2 : Int) ∣ 4 by decide), ← Int.toNat_of_nonneg (Int.emod_nonneg s (show (4 : Int) ≠ 0 by decide))]
    exact propext Int.natCast_eq_zero.symm
  rw [h2]
  unfold endF
  split
  · split
    · exact ⟨by decide, .inr ⟨_, rfl⟩, fun zz => by simp⟩
    · exact ⟨by simp, .inl rfl, fun h => by lia⟩
  · exact ⟨by decide, .inr ⟨_, rfl⟩, fun zz => by simp⟩
  · exact ⟨by decide, .inr ⟨_, rfl⟩, fun zz => by simp⟩
  · exact ⟨by decide, .inr ⟨_, rfl⟩, fun zz => by simp⟩
private theorem mod4 (s : Int) : (s % 4).toNat = 0 ∨ (s % 4).toNat = 1 ∨ (s % 4).toNat = 2 ∨ (s % 4).toNat = 3 := by
  have : (s % 4).toNat < 4 := (Int.toNat_lt (Int.emod_nonneg s (by decide))).mpr (Int.emod_lt_of_pos s (by decide))
  revert this
  generalize (s % 4).toNat = k
  intro h
  revert k
  decide
private theorem tok_word {w : List Nat} (h : ∀ c ∈ w, par c) (hn : w ≠ []) (s : Int) (r : List Nat) : ∃ l : List Nat, (∀ c ∈ l, wsB c = true) ∧ tokF (writtenF w s ++ r) = (w, l ++ r, false) := by
  obtain ⟨e, he, h1, h2, h3⟩ := endF_cases s
  unfold writtenF
  rw [he]
  rcases mod4 s with hk | hk | hk | hk <;> rw [hk] at h3 ⊢ <;> simp only [baseF]
  · rcases h2 with rfl | ⟨c, rfl⟩
    · exact absurd rfl (h3 rfl)
    · refine ⟨[], by simp, ?_⟩
      rw [List.append_assoc, tokF_bare _ h hn]
      exact gTok_ws (h1 c List.mem_cons_self)
  · refine ⟨e, h1, ?_⟩
    rw [show (34 :: (w ++ [34]) ++ e) ++ r = 34 :: (w ++ 34 :: (e ++ r)) by simp, tokF_quote, gTok_par ⟨qtz.1, qtz.2.1⟩ _ _ _ h]
    exact gTok_qt
  · rcases h2 with rfl | ⟨c, rfl⟩
    · exact absurd rfl (h3 rfl)
    · refine ⟨[], by simp, ?_⟩
      rw [List.append_assoc, tokF_guard _ hn]
      exact gTok_ws (h1 c List.mem_cons_self)
  · refine ⟨e, h1, ?_⟩
    rw [show (34 :: (guardF w ++ [34]) ++ e) ++ r = 34 :: (guardF w ++ 34 :: (e ++ r)) by simp, tokF_quote, gTok_guard qtz.2.2.1]
    exact gTok_qt
private theorem tok_last {w : List Nat} (h : ∀ c ∈ w, par c) (hn : w ≠ []) (s : Int) : ∃ b, tokF (writtenF w s).dropLast = (w, [], b) := by
  obtain ⟨e, he, h1, h2, h3⟩ := endF_cases s
  unfold writtenF
  rw [he]
  rcases mod4 s with hk | hk | hk | hk <;> rw [hk] at h3 ⊢ <;> simp only [baseF]
  · rcases h2 with rfl | ⟨c, rfl⟩
    · exact absurd rfl (h3 rfl)
    · refine ⟨true, ?_⟩
      rw [List.dropLast_concat]
      have := tokF_bare [] h hn
      rw [List.append_nil] at this
      rw [this, gTok_nil]
  · rcases h2 with rfl | ⟨c, rfl⟩
    · refine ⟨true, ?_⟩
      rw [List.append_nil, show 34 :: (w ++ [34]) = (34 :: w) ++ [34] from rfl, List.dropLast_concat, tokF_quote]
      have := gTok_par (z := qtB) ⟨qtz.1, qtz.2.1⟩ [] w [] h
      rw [List.append_nil] at this
      rw [this, gTok_nil]; rfl
    · refine ⟨false, ?_⟩
      rw [List.dropLast_concat, tokF_quote, gTok_par ⟨qtz.1, qtz.2.1⟩ _ _ _ h]
      exact gTok_qt
  · rcases h2 with rfl | ⟨c, rfl⟩
    · exact absurd rfl (h3 rfl)
    · refine ⟨true, ?_⟩
      rw [List.dropLast_concat]
      have := tokF_guard [] hn
      rw [List.append_nil] at this
      rw [this, gTok_nil]
  · rcases h2 with rfl | ⟨c, rfl⟩
    · refine ⟨true, ?_⟩
      rw [List.append_nil, show 34 :: (guardF w ++ [34]) = (34 :: guardF w) ++ [34] from rfl, List.dropLast_concat, tokF_quote]
      have := gTok_guard (z := qtB) qtz.2.2.1 [] w []
      rw [List.append_nil] at this
      rw [this, gTok_nil]; rfl
    · refine ⟨false, ?_⟩
      rw [List.dropLast_concat, tokF_quote, gTok_guard qtz.2.2.1]
      exact gTok_qt
noncomputable def toksF : Nat → List Nat → List (List Nat) × List Nat
  | 0, cs => ([], cs)
  | n + 1, cs => ((tokF cs).1 :: (toksF n (tokF cs).2.1).1, (toksF n (tokF cs).2.1).2)
private theorem toks_nil : ∀ n, toksF n [] = (List.replicate n [], [])
  | 0 => rfl
  | n + 1 => by
    have e : tokF [] = ([], [], true) := rfl
    simp only [toksF, e, toks_nil n, List.replicate_succ]
private theorem toks_words (n : Nat) : ∀ (ws : List (List Nat × Int)) (w : List Nat) (s : Int) (l : List Nat), (∀ c ∈ l, wsB c = true) → (∀ x ∈ ws, (∀ c ∈ x.1, par c) ∧ x.1 ≠ []) → (∀ c ∈ w, par c) → w ≠ [] →
    toksF (ws.length + 1 + n) (l ++ (((ws.map fun x => writtenF x.1 x.2).flatten ++ (writtenF w s).dropLast))) = (ws.map (·.1) ++ w :: List.replicate n [], [])
  | [], w, s, l, hl, _, hw, hn => by
    obtain ⟨b, hb⟩ := tok_last hw hn s
    simp only [List.map_nil, List.flatten_nil, List.nil_append, List.length_nil]
    rw [show 0 + 1 + n = n + 1 by lia, toksF, tokF_lead _ _ hl, hb]
    simp only [toks_nil]
  | x :: ws, w, s, l, hl, hx, hw, hn => by
    obtain ⟨l', h1, h2⟩ := tok_word (hx x List.mem_cons_self).1 (hx x List.mem_cons_self).2 x.2 ((ws.map fun x => writtenF x.1 x.2).flatten ++ (writtenF w s).dropLast)
    have ih := toks_words n ws w s l' h1 (fun y hy => hx y (List.mem_cons_of_mem _ hy)) hw hn
    simp only [List.map_cons, List.flatten_cons, List.length_cons, List.append_assoc]
    rw [show ws.length + 1 + 1 + n = (ws.length + 1 + n) + 1 by lia, toksF, tokF_lead _ _ hl, h2]
    simp only []
    rw [ih]; rfl
end
section
open PySem
noncomputable def comb (xs ys : List Tr) : List Tr := xs.flatMap fun l => ys.map (Tr.node l)
noncomputable def trs : Nat → List Tr
  | 0 => [.leaf]
  | 1 => [.node .leaf .leaf]
  | 2 => comb (trs 0) (trs 1) ++ comb (trs 1) (trs 0)
  | 3 => comb (trs 0) (trs 2) ++ comb (trs 1) (trs 1) ++ comb (trs 2) (trs 0)
  | 4 => comb (trs 0) (trs 3) ++ comb (trs 1) (trs 2) ++ comb (trs 2) (trs 1) ++ comb (trs 3) (trs 0)
  | _ => []
noncomputable def trs234 : List Tr := trs 2 ++ trs 3 ++ trs 4
noncomputable def rowOk (n c : Nat) : Bool := (trs n).any fun t => decide (t.sz = n) && decide (rowT t = rowL (c : Int) n)
private theorem rows2 : ((List.range 16).all (rowOk 2)) = true := by decide +kernel
private theorem rows3 : ((List.range 64).all (rowOk 3)) = true := by decide +kernel
private theorem rows4 : ((List.range 256).all (rowOk 4)) = true := by decide +kernel
private theorem foldl_same {α β : Type} {f g : α → β → α} : ∀ (l : List β) (a : α), (∀ b ∈ l, ∀ a, f a b = g a b) → l.foldl f a = l.foldl g a
  | [], _, _ => rfl
  | b :: l, a, h => by
    rw [List.foldl_cons, List.foldl_cons, h b List.mem_cons_self a]
    exact foldl_same l _ fun c hc => h c (List.mem_cons_of_mem _ hc)
private theorem bit_nat (x : Nat) : Builtin.bitAnd (x : Int) 1 = ((x % 2 : Nat) : Int) := by
  have : Builtin.bitAnd (x : Int) ((1 : Nat) : Int) = ((x &&& 1 : Nat) : Int) := rfl
  rw [Nat.and_one_is_mod] at this
  exact this
private theorem bit_eq {a b : Nat} (ha : a < 2) (hb : b < 2) (h : a = 1 ↔ b = 1) : a = b := by
  lia
private theorem bit_mod {c k j : Nat} (h : k < j) : c / 2 ^ k % 2 = c % 2 ^ j / 2 ^ k % 2 := by
  have h1 := Nat.testBit_mod_two_pow c j k
  rw [decide_eq_true h, Bool.true_and, Nat.testBit_eq_decide_div_mod_eq, Nat.testBit_eq_decide_div_mod_eq] at h1
  have h2 := decide_eq_decide.mp h1
  exact bit_eq (Nat.mod_lt _ (by decide)) (Nat.mod_lt _ (by decide)) h2.symm
private theorem row_mod (c n : Nat) : rowL (c : Int) n = rowL ((c % 2 ^ (2 * n) : Nat) : Int) n := by
  unfold rowL
  refine foldl_same _ _ fun k hk r => ?_
  rw [List.mem_range] at hk
  have e : ∀ d : Nat, Builtin.bitAnd ((d : Int).fdiv (2 ^ k)) 1 = ((d / 2 ^ k % 2 : Nat) : Int) := fun d => by
    have : (d : Int).fdiv (2 ^ k) = ((d / 2 ^ k : Nat) : Int) := by
      rw [Int.fdiv_eq_ediv_of_nonneg _ (Int.le_of_lt (Int.pow_pos (by decide)))]; push_cast; rfl
    rw [this, bit_nat]
  unfold rowStep
  rw [e, e, bit_mod hk]
private theorem row_tree (c n : Nat) (hn : n = 2 ∨ n = 3 ∨ n = 4) : ∃ t : Tr, t ∈ trs234 ∧ t.sz = n ∧ rowL (c : Int) n = rowT t := by
  have key : rowOk n (c % 2 ^ (2 * n)) = true := by
    rcases hn with rfl | rfl | rfl
    · exact List.all_eq_true.mp rows2 _ (List.mem_range.mpr (Nat.mod_lt _ (by decide)))
    · exact List.all_eq_true.mp rows3 _ (List.mem_range.mpr (Nat.mod_lt _ (by decide)))
    · exact List.all_eq_true.mp rows4 _ (List.mem_range.mpr (Nat.mod_lt _ (by decide)))
  obtain ⟨t, h1, h2⟩ := List.any_eq_true.mp key
  rw [Bool.and_eq_true] at h2
  refine ⟨t, ?_, of_decide_eq_true h2.1, ?_⟩
  · unfold trs234
    rcases hn with rfl | rfl | rfl
    · exact List.mem_append_left _ (List.mem_append_left _ h1)
    · exact List.mem_append_left _ (List.mem_append_right _ h1)
    · exact List.mem_append_right _ h1
  · rw [row_mod]; exact (of_decide_eq_true h2.2).symm
noncomputable def hidOk (t : Tr) : Bool := (List.range 2).all fun p => (List.range 16).all fun s => checkF (writtenF (oddF (rowT t) p) (s : Int)) == decide (s % 4 ≠ 0)
private theorem hid_all : (trs234.all hidOk) = true := by decide +kernel
private theorem written_mod (w : List Nat) (s : Int) : writtenF w s = writtenF w ((s % 16).toNat : Int) := by
  rw [Int.toNat_of_nonneg (Int.emod_nonneg s (by decide))]
  have e1 : s % 16 % 4 = s % 4 := Int.emod_emod_of_dvd s (by decide)
  have e3 : s % 16 % 2 = s % 2 := Int.emod_emod_of_dvd s (by decide)
  have e2 : (s % 16).fdiv 4 % 4 = s.fdiv 4 % 4 := by
    have h : s = s % 16 + 4 * (4 * (s / 16)) := by rw [← Int.mul_assoc]; exact (Int.emod_add_mul_ediv s 16).symm
    rw [Int.fdiv_eq_ediv_of_nonneg _ (by decide), Int.fdiv_eq_ediv_of_nonneg _ (by decide)]
    conv => rhs; rw [h, Int.add_mul_ediv_left _ _ (by decide), Int.add_mul_emod_self_left]
  unfold writtenF endF
  rw [e1, e2, e3]
private theorem hid_at {t : Tr} (h : t ∈ trs234) (p : Nat) (s : Int) : (checkF (writtenF (oddF (rowT t) p) s) == decide (s % 4 ≠ 0)) = true := by
  have h1 := List.all_eq_true.mp hid_all t h
  have h2 := List.all_eq_true.mp (List.all_eq_true.mp h1 (p % 2) (List.mem_range.mpr (by lia))) (s % 16).toNat (List.mem_range.mpr (by lia))
  have e : oddF (rowT t) (p % 2) = oddF (rowT t) p := by unfold oddF; rw [Nat.mod_mod]
  rw [e] at h2
  rw [written_mod]
  have e2 : decide (s % 4 ≠ 0) = decide ((s % 16).toNat % 4 ≠ 0) := by
    rw [← Int.emod_emod_of_dvd s (show (4 : Int) ∣ 16 by decide), ← Int.toNat_of_nonneg (Int.emod_nonneg s (show (16 : Int) ≠ 0 by decide))]
    exact decide_eq_decide.mpr (not_congr Int.natCast_eq_zero)
  rw [e2]; exact h2
private theorem hidden_rows {ts : List Tr} (h : ∀ t ∈ ts, t ∈ trs234) (hl : ts.length = 6) (styles : Int) : hiddenF (ts.map rowT) styles = true := by
  unfold hiddenF
  refine List.all_eq_true.mpr fun p hp => ?_
  rw [List.mem_range] at hp
  have hp' : p < ts.length := by lia
  unfold hiddenAt
  have e : (ts.map rowT).getD p [] = rowT ts[p] := by
    rw [List.getD_eq_getElem?_getD, List.getElem?_map, List.getElem?_eq_getElem hp']; rfl
  rw [e]
  exact hid_at (h _ (List.getElem_mem hp')) p _
end
section
noncomputable def Pr.mv (p : Pr) (b : Nat) (point sign : Int) : Option (List Int) := movedF (stL p.a b) (stL p.b b) point (2 ^ b) sign
noncomputable def Pr.sw (p : Pr) : Pr := ⟨p.b, p.a⟩
private theorem Pr.ok_sw {p : Pr} {n : Nat} (h : p.ok n) : p.sw.ok n := by
  obtain ⟨h1, h2⟩ := h
  have s1 := lv_sz p.a
  have s2 := lv_sz p.b
  exact ⟨h1.symm, by show p.b.sz ≤ n; lia⟩
private theorem Pr.inv {p : Pr} {n : Nat} (h : p.ok n) (x : St) : p.sw.f (p.f x) = x := phi_inv h.1 x
private theorem Pr.moved {p : Pr} {n b : Nat} (h : p.ok n) (hn : n ≤ b) (hb : b ≤ 29) {x : St} (h1 : zb b x) (h2 : zb b (p.f x)) (whole sign : Int) (hs : sign = 1 ∨ sign = -1) (hp : (whole * 2 ^ b + (num b x : Int)).natAbs < 2 ^ 60) :
    ∃ i : Nat, p.mv b (whole * 2 ^ b + (num b x : Int)) sign = some [whole * 2 ^ b + (num b (p.f x) : Int), 0, (i : Int)] ∧ ledF (rowT p.a) (rowT p.b) (whole * 2 ^ b + (num b x : Int)) b = some [whole * 2 ^ b + (num b (p.f x) : Int), 0, (i : Int)] := by
  obtain ⟨ha, hz⟩ := h
  have s1 := lv_sz p.a
  have s2 := lv_sz p.b
  obtain ⟨i, w, v, z, f⟩ := falls ha (show p.a.sz ≤ b by lia) x
  exact ⟨i, moved_tree f ha h1 h2 (by lia) (by lia) hb whole sign hs hp, led_tree f h1 h2 (by lia) (by lia) (dB hb rfl) whole⟩
noncomputable def keyN (p : Pr) (b s : Nat) : Nat := num b (p.f (st16 b s))
section
variable {p : Pr} {b : Nat} {sign : Int}
private theorem small_abs {b n : Nat} (hb : b ≤ 29) (h : n < 2 ^ b) : ((0 : Int) * 2 ^ b + (n : Int)).natAbs < 2 ^ 60 := by
  have : 2 ^ b ≤ 2 ^ 29 := Nat.pow_le_pow_right (by decide) hb
  have e : (0 : Int) * 2 ^ b + (n : Int) = (n : Int) := by rw [Int.zero_mul, Int.zero_add]
  rw [e, Int.natAbs_natCast]; lia
private theorem key_moved (h : p.ok 12) (hb : 20 ≤ b ∧ b ≤ 29) (hz : ∀ x, zb 4 x → zb b (p.f x)) (hs : sign = 1 ∨ sign = -1) {s : Nat} (h16 : s < 16) : ∃ i : Nat, p.mv b ((s : Int) * 2 ^ (b - 4)) sign = some [(keyN p b s : Int), 0, (i : Int)] := by
  have z := zb16 (b := b) (dA hb.1 rfl) h16
  have e := num16 (b := b) (dA hb.1 rfl) h16
  obtain ⟨i, h1, _⟩ := Pr.moved h (b := b) (dA hb.1 rfl) hb.2 (zb_mono z (dA hb.1 rfl)) (hz _ z) 0 sign hs (small_abs hb.2 (num_lt _ _))
  rw [e, Int.zero_mul, Int.zero_add, Int.zero_add] at h1
  refine ⟨i, ?_⟩
  have e2 : ((s * 2 ^ (b - 4) : Nat) : Int) = (s : Int) * 2 ^ (b - 4) := by push_cast; rfl
  rw [e2] at h1
  exact h1
private theorem key_back (h : p.ok 12) (hb : 20 ≤ b ∧ b ≤ 29) (hz : ∀ x, zb 4 x → zb b (p.f x)) (hs : sign = 1 ∨ sign = -1) {s : Nat} (h16 : s < 16) : ∃ i : Nat, p.sw.mv b (keyN p b s : Int) sign = some [(s : Int) * 2 ^ (b - 4), 0, (i : Int)] := by
  have z := zb16 (b := b) (dA hb.1 rfl) h16
  have e := num16 (b := b) (dA hb.1 rfl) h16
  have hinv := Pr.inv h (st16 b s)
  obtain ⟨i, h1, _⟩ := Pr.moved (Pr.ok_sw h) (b := b) (dA hb.1 rfl) hb.2 (hz _ z) (by rw [hinv]; exact zb_mono z (dA hb.1 rfl)) 0 sign hs (small_abs hb.2 (num_lt _ _))
  rw [hinv, e, Int.zero_mul, Int.zero_add, Int.zero_add] at h1
  refine ⟨i, ?_⟩
  unfold keyN
  have e2 : ((s * 2 ^ (b - 4) : Nat) : Int) = (s : Int) * 2 ^ (b - 4) := by push_cast; rfl
  rw [e2] at h1
  exact h1
private theorem key_lt (h : p.ok 12) (hb : 20 ≤ b ∧ b ≤ 29) (hz : ∀ x, zb 4 x → zb b (p.f x)) {s t : Nat} (h1 : s < t) (h2 : t < 16) : keyN p b s < keyN p b t :=
  num_mono b (hz _ (zb16 (dA hb.1 rfl) h2)) (phi_mono h.1 (lt16 (dA hb.1 rfl) h1 h2))
noncomputable def keyL (p : Pr) (b : Nat) : List Int := (List.range 16).map fun s => (keyN p b s : Int)
private theorem keyL_at {s : Nat} (h : s < 16) : (keyL p b).getD s 0 = (keyN p b s : Int) := by
  unfold keyL
  rw [List.getD_eq_getElem?_getD, List.getElem?_map, List.getElem?_range h]; rfl
private theorem keyL_mono (h : p.ok 12) (hb : 20 ≤ b ∧ b ≤ 29) (hz : ∀ x, zb 4 x → zb b (p.f x)) : ∀ i j, i < j → j < 16 → (keyL p b).getD i 0 < (keyL p b).getD j 0 := fun i j hi hj => by
  rw [keyL_at (by lia), keyL_at hj]
  exact_mod_cast key_lt h hb hz hi hj
private theorem keyL_len : (keyL p b).length = 16 := by simp [keyL]
end
end
section
noncomputable def cntF' (c : Nat) : Nat := [2, 3, 2, 3, 3, 4].getD (c % 6) 2
noncomputable def rowsOf (c : Nat) : List (List Nat) := [rowL ((c / 6 : Nat) : Int) (cntF' c), rowL ((c / 1536 : Nat) : Int) (cntF' c)]
private theorem cnt_cases (c : Nat) : cntF' c = 2 ∨ cntF' c = 3 ∨ cntF' c = 4 :=
  (by decide : ∀ k, k < 6 → [2, 3, 2, 3, 3, 4].getD k 2 = 2 ∨ [2, 3, 2, 3, 3, 4].getD k 2 = 3 ∨ [2, 3, 2, 3, 3, 4].getD k 2 = 4) _ (Nat.mod_lt c (by decide))
noncomputable def Pr.good (p : Pr) : Prop := p.ok 4 ∧ 2 ≤ p.a.sz ∧ p.a ∈ trs234 ∧ p.b ∈ trs234
private theorem cell_rows (c : Nat) : ∃ p : Pr, p.good ∧ rowsOf c = p.rows := by
  have hc := cnt_cases c
  obtain ⟨t, h1, h2, h3⟩ := row_tree (c / 6) (cntF' c) hc
  obtain ⟨u, g1, g2, g3⟩ := row_tree (c / 1536) (cntF' c) hc
  refine ⟨⟨t, u⟩, ⟨⟨?_, ?_⟩, ?_, h1, g1⟩, ?_⟩
  · show t.lv = u.lv
    rw [lv_sz, lv_sz, h2, g2]
  · show t.sz ≤ 4
    lia
  · show 2 ≤ t.sz
    lia
  · unfold rowsOf Pr.rows
    rw [h3, g3]
private theorem Pr.ok_mono {p : Pr} {n m : Nat} (h : p.ok n) (hm : n ≤ m) : p.ok m := ⟨h.1, Nat.le_trans h.2 hm⟩
private theorem Pr.szb {p : Pr} {n : Nat} (h : p.ok n) : p.b.sz ≤ n := by
  obtain ⟨h1, h2⟩ := h
  have s1 := lv_sz p.a
  have s2 := lv_sz p.b
  lia
private theorem toks_succ : ∀ (n : Nat) (cs : List Nat), toksF (n + 1) cs = ((toksF n cs).1 ++ [(tokF (toksF n cs).2).1], (tokF (toksF n cs).2).2.1)
  | 0, cs => rfl
  | n + 1, cs => by
    have ih := toks_succ n (tokF cs).2.1
    rw [toksF, ih]; rfl
private theorem rowT_ne {T : Tr} (h : 2 ≤ T.sz) : rowT T ≠ [] := by
  intro e
  have := rowT_len T
  rw [e] at this; simp at this; lia
noncomputable def fileF (R : List (List Nat)) (st : Int) : List Nat := (((List.range 6).map fun k => writtenF (R.getD k []) (styleF st k)).flatten).dropLast
private theorem written_ne (w : List Nat) (s : Int) (h : w ≠ []) : writtenF w s ≠ [] := by
  unfold writtenF
  rcases mod4 s with hk | hk | hk | hk <;> rw [hk] <;> simp only [baseF]
  · intro e; exact h (List.append_eq_nil_iff.mp e).1
  · simp
  · intro e
    match w, h with
    | c :: w, _ => simp [guardF] at e
  · simp
private theorem file_toks {p q r : Pr} (h1 : p.good) (h2 : q.good) (h3 : r.good) (st : Int) : toksF 8 (fileF (p.rows ++ q.rows ++ r.rows) st) = ((p.rows ++ q.rows ++ r.rows) ++ [[], []], []) := by
  have sz : ∀ t : Pr, t.good → 2 ≤ t.b.sz := fun t ⟨⟨a, _⟩, b, _⟩ => by
    have s1 := lv_sz t.a
    have s2 := lv_sz t.b
    lia
  have key := toks_words 2 [(rowT p.a, styleF st 0), (rowT p.b, styleF st 1), (rowT q.a, styleF st 2), (rowT q.b, styleF st 3), (rowT r.a, styleF st 4)] (rowT r.b) (styleF st 5) [] (by simp)
    (fun x hx => by
      simp only [List.mem_cons, List.not_mem_nil, or_false] at hx
      rcases hx with rfl | rfl | rfl | rfl | rfl
      · exact ⟨rowT_par _, rowT_ne h1.2.1⟩
      · exact ⟨rowT_par _, rowT_ne (sz _ h1)⟩
      · exact ⟨rowT_par _, rowT_ne h2.2.1⟩
      · exact ⟨rowT_par _, rowT_ne (sz _ h2)⟩
      · exact ⟨rowT_par _, rowT_ne h3.2.1⟩) (rowT_par _) (rowT_ne (sz _ h3))
  have e : fileF (p.rows ++ q.rows ++ r.rows) st = [] ++ (([(rowT p.a, styleF st 0), (rowT p.b, styleF st 1), (rowT q.a, styleF st 2), (rowT q.b, styleF st 3), (rowT r.a, styleF st 4)].map fun x => writtenF x.1 x.2).flatten ++ (writtenF (rowT r.b) (styleF st 5)).dropLast) := by
    have hr : (List.range 6).map (fun k => writtenF ((p.rows ++ q.rows ++ r.rows).getD k []) (styleF st k)) = [writtenF (rowT p.a) (styleF st 0), writtenF (rowT p.b) (styleF st 1), writtenF (rowT q.a) (styleF st 2), writtenF (rowT q.b) (styleF st 3), writtenF (rowT r.a) (styleF st 4)] ++ [writtenF (rowT r.b) (styleF st 5)] := rfl
    unfold fileF
    rw [hr, List.flatten_append, List.flatten_singleton, List.dropLast_append_of_ne_nil (written_ne _ _ (rowT_ne (sz _ h3)))]
    rfl
  rw [e]
  exact key
structure Pt (b : Nat) (point : Int) (whole : Int) (x : St) : Prop where
  e : point = whole * 2 ^ b + (num b x : Int)
  z : zb (b - 12) x
private theorem pt_of {b : Nat} (hb : 20 ≤ b) (point : Int) (h : (4096 : Int) ∣ point) : ∃ whole x, Pt b point whole x := by
  obtain ⟨k, rfl⟩ := h
  have hp : (0 : Int) < 2 ^ (b - 12) := Int.pow_pos (by decide)
  have h0 := Int.emod_nonneg k (Int.ne_of_gt hp)
  have h1 := Int.emod_lt_of_pos k hp
  obtain ⟨r, hr⟩ := Int.eq_ofNat_of_zero_le h0
  have hr' : r < 2 ^ (b - 12) := by
    rw [hr] at h1
    exact_mod_cast h1
  refine ⟨k / 2 ^ (b - 12), str (b - 12) r, ?_, zb_str _ _⟩
  have e1 := num_zb (b - 12) 12 (zb_str (b - 12) r)
  rw [num_str _ _ hr', show b - 12 + 12 = b by lia] at e1
  rw [e1]
  have e2 : (2 : Int) ^ b = 2 ^ (b - 12) * 2 ^ 12 := by rw [← Int.pow_add]; congr 1; lia
  have e3 := Int.mul_ediv_add_emod k (2 ^ (b - 12))
  rw [hr] at e3
  rw [e2, Int.natCast_mul]
  have e6 : ((2 ^ 12 : Nat) : Int) = 4096 := by decide
  rw [e6]
  generalize (2 : Int) ^ (b - 12) = q at *
  have e4 : k / q * (q * 2 ^ 12) = (q * (k / q)) * 4096 := by
    rw [show (2 : Int) ^ 12 = 4096 from rfl, ← Int.mul_assoc, Int.mul_comm (k / q) q]
  rw [e4]
  lia
private theorem three {p0 p1 p2 : Pr} (h0 : p0.good) (h1 : p1.good) (h2 : p2.good) {m : Nat} {x : St} (hx : zb m x) (hm : 4 ≤ m) : zb (m + 3) (p0.f x) ∧ zb (m + 6) (p1.f (p0.f x)) ∧ zb (m + 9) (p2.f (p1.f (p0.f x))) := by
  have one : ∀ (p : Pr), p.good → ∀ (k : Nat) (y : St), 4 ≤ k → zb k y → zb (k + 3) (p.f y) := fun p ⟨ho, hz, _⟩ k y hk hy =>
    phi_zb ho.1 (by intro e; rw [e] at hz; simp [Tr.sz] at hz) (Pr.szb ho) hy (Nat.le_trans ho.2 hk)
  have a := one p0 h0 m x hm hx
  have c := one p1 h1 _ _ (dE hm rfl) a
  exact ⟨a, c, one p2 h2 _ _ (dE hm rfl) c⟩
end
section
open PySem PySem.W PyProof.Rows PySem.Calls PySem.SeqAt
noncomputable def wsAV (l : List (List Nat)) : AV := .lst (l.map .str)
noncomputable def metM (m : Mem) (q0 q1 : List (List Nat)) (rest : Mem) : Mem := m ++ AObj.lst [sgAV 41] :: .ns (lexNs 1 m.length (m.length + 2)) :: .lst (q0.map .str) :: .lst [sgAV 41] :: .ns (lexNs 1 (m.length + 3) (m.length + 5)) :: .lst (q1.map .str) :: rest
structure Side (M : List (List Nat) → Mem) (j i p : Nat) : Prop where
  at' : ∀ q, q.length ≤ 100000 → LexAt (M q) j 1 i p [41] q
  set : ∀ q q', (M q).set p (.lst (q'.map .str)) = M q'
set_option backward.match.sparseCases false in
noncomputable def inBody (l : List Stmt) (k : Nat) : List Stmt := match l[k]? with
  | some (.For _ _ b _ _) => b
  | some (.While _ b _ _) => b
  | some (.If _ b _ _) => b
  | _ => []
noncomputable abbrev metSc : Names := (fdAt prog1 21).scope.names
noncomputable def metFor : List Stmt := inBody (fdAt prog1 21).body 1
noncomputable def metWhile : List Stmt := inBody (fdAt prog1 21).body 2
noncomputable def metDeep : List Stmt := (inBody metWhile 2).drop 1
noncomputable def metL (a b : List Nat) (l0 l1 g0 g1 : AV) : Lc := bd "first" (.str a) (bd "second" (.str b) (bd "lines" (.lst [l0, l1]) (bd "grafts" (.lst [g0, g1]) [])))
section
variable {X : Amb} {D : Nat} {m rest : Mem} {q0 q1 : List (List Nat)} {M : List (List Nat) → Mem} {j i p : Nat}
private theorem metM_at (k : Nat) : (metM m q0 q1 rest)[m.length + k]? = (AObj.lst [sgAV 41] :: .ns (lexNs 1 m.length (m.length + 2)) :: .lst (q0.map .str) :: .lst [sgAV 41] :: .ns (lexNs 1 (m.length + 3) (m.length + 5)) :: .lst (q1.map .str) :: rest)[k]? := get_app m _ k
private theorem side0 : Side (fun q => metM m q q1 rest) (m.length + 1) m.length (m.length + 2) := ⟨fun q h => ⟨metM_at 1, metM_at 0, metM_at 2, by exact Nat.ne_of_lt (Nat.lt_succ_self _), by lia, by lia, ok41, by decide, h⟩, fun q q' => set_app m _ 2 _⟩
private theorem side1 : Side (fun q => metM m q0 q rest) (m.length + 4) (m.length + 3) (m.length + 5) := ⟨fun q h => ⟨metM_at 4, metM_at 3, metM_at 5, by exact Nat.ne_of_lt (Nat.lt_succ_self _), by lia, by lia, ok41, by decide, h⟩, fun q q' => set_app m _ 5 _⟩
private theorem Side.push (kn : KnL X) (hD : 4 ≤ D) (sd : Side M j i p) {q : List (List Nat)} {t : List Nat} (h : q.length ≤ 100000) : Mt X (D + 1) "push_token" (M q) (M q) (.inst 133 j) [.str t] .none (M (q ++ [t])) := by
  obtain ⟨mN, cl, lx⟩ := kn.cls
  exact sd.set q (q ++ [t]) ▸ .inst cl lx.pt kn.mp lo_pt (sd.at' q h).ns rfl (op_push kn hD (sd.at' q h))
private theorem Side.tok (kn : KnL X) (hD : 4 ≤ D) (sd : Side M j i p) {q : List (List Nat)} {t : List Nat} (h : q.length < 100000) : Mt X (D + 1) "get_token" (M (t :: q)) (M (t :: q)) (.inst 133 j) [] (.str t) (M q) := by
  obtain ⟨mN, cl, lx⟩ := kn.cls
  have A := sd.at' (t :: q) h
  exact sd.set (t :: q) q ▸ .inst cl lx.gt kn.mg lo_gt A.ns rfl (op_gtPush kn hD A)
private theorem met_push (kn : KnL X) (hD : 4 ≤ D) (sd : Side M j i p) {K : Int} (k0 : 0 ≤ K) (k1 : K < 2) {w a b : List Nat} {l0 l1 g0 g1 : AV} (hw : ([.str a, .str b] : List AV)[K.toNat]? = some (.str w)) (hj : [l0, l1][K.toNat]? = some (.inst 133 j)) (hz : w.length ≤ 1000)
    {rest : List Stmt} {P : RP} {J : Lc → Mem → Prop} (hJ : J (bd "place" (.int K) (metL a b l0 l1 g0 g1)) (M (wq (w ++ [41])))) : W X (D + 1) metSc metFor (bd "place" (.int K) (metL a b l0 l1 g0 g1)) (M []) (LoopW ⟨X, D + 1, metSc, [100226]⟩ rest P J) := by
  have hz1 : (w ++ [41]).length ≤ 1001 := by rw [List.length_append]; exact Nat.succ_le_succ hz
  have k2 : K < 2 ^ 62 := by lia
  refine W.forW (G := ⟨X, D + 1, _, [100226]⟩) (σ := Unit) (xs := w ++ [41]) (f := fun c => .str [c]) (av := .str (w ++ [41])) (m1 := M []) (by show 4 ≤ D + 1; exact Nat.le_succ_of_le hD) ⟨.lst k0 k2 hw, .addS (by show w.length + 1 ≤ _; exact dF hz rfl), .mk⟩ .str (fun zz zz => bd "place" (.int K) (metL a b l0 l1 g0 g1)) (fun k zz => M (wq ((w ++ [41]).take k))) (fun zz zz => True) (.mk () trivial rfl (.rf rfl)) (fun k c s hx zz => ?_) (fun s zz => ?_) (fun zz zz => rfl)
  · refine ⟨_, .name rfl, ⟨.lst k0 k2 hj, sd.push kn hD (t := [c]) (by rw [wq_len, List.length_take]; lia), .mk (.mk () trivial (congrArg M ?_) (.rf rfl))⟩⟩
    rw [List.take_add_one, hx, wq_app]; rfl
  · show J _ _
    rw [List.take_length]; exact hJ
structure DeepI (X : List Nat) : Prop where
  ok : okS X
  len : X.length ≤ 201
  no : ∀ k, k < X.length → checkF (40 :: 40 :: X.take k) = false
  yes : checkF (40 :: 40 :: X) = true
private theorem addRep {n : Nat} {g : List (List Nat)} {h : List AV} (e : h = g.map .str) : h ++ (List.replicate n [AV.str [41]]).flatten = (g ++ List.replicate n [41]).map .str := by
  rw [e, List.map_append, List.map_replicate, List.flatten_replicate_singleton]
private theorem met_deep (kn : KnM X) (hD : 13 ≤ D ∧ D ≤ 500) (sd : Side M j i p) {K : Int} (k0 : 0 ≤ K) (k1 : K < 2) {a b : List Nat} {l0 l1 sg : AV} {u0 u1 u v : Nat} (hj : [l0, l1][K.toNat]? = some (.inst 133 j)) (hu : ([.mref u0, .mref u1] : List AV)[(1 - K).toNat]? = some (.mref u)) (hv : ([.mref u0, .mref u1] : List AV)[K.toNat]? = some (.mref v))
    (huv : u ≠ v) {g h : List (List Nat)} (mu : ∀ q, (M q)[u]? = some (.lst (g.map .str))) (mv : ∀ q, (M q)[v]? = some (.lst (h.map .str))) (zg : g.length ≤ 1000) (zh : h.length ≤ 1000) {Y : List Nat} (I : DeepI Y) {q : List Nat} (zq : q.length ≤ 90000)
    {P : RP} (hJ : P .next (bd "word" (.str (40 :: Y)) (bd "deep" (.int K) (bd "signs" sg (metL a b l0 l1 (.mref u0) (.mref u1))))) (((M (wq q)).set u (.lst ((g ++ [40 :: Y]).map .str))).set v (.lst ((h ++ List.replicate (Y.count 41) [41]).map .str)))) :
    W X (D + 1) metSc metDeep (bd "deep" (.int K) (bd "word" (.str [40]) (bd "signs" sg (metL a b l0 l1 (.mref u0) (.mref u1))))) (M (wq (Y ++ q))) P := by
  have hD4 : 4 ≤ D + 1 := by exact dE hD.1 rfl
  have k2 : K < 2 ^ 62 := by lia
  have n0 : 0 ≤ 1 - K := by lia
  have n2 : 1 - K < 2 ^ 62 := by lia
  have lW := I.len
  refine W.whileW (G := ⟨X, D + 1, _, [100226]⟩) (σ := Nat) hD4 (fun k => bd "word" (.str (40 :: Y.take k)) (bd "deep" (.int K) (bd "signs" sg (metL a b l0 l1 (.mref u0) (.mref u1))))) (fun k => M (wq (Y.drop k ++ q))) (fun n k => n + k = Y.length) Y.length (.mk 0 (Nat.add_zero _) rfl (.rf rfl)) (fun n k hk => ?_)
  have okw : okS ([40] ++ 40 :: Y.take k) := okS_app ok40 (okS_app ok40 fun c hc => I.ok c (List.mem_of_mem_take hc))
  have lt : (Y.take k).length ≤ 201 := by rw [List.length_take]; (clear hk; lia)
  have lw : ([40] ++ 40 :: Y.take k).length ≤ 1000 := by show (Y.take k).length + 1 + 1 ≤ 1000; lia
  have la : ([40] : List Nat).length + (40 :: Y.take k).length ≤ 2 ^ 24 := by show 1 + ((Y.take k).length + 1) ≤ _; lia
  cases n with
  | succ n =>
    have hlt : k < Y.length := by lia
    obtain ⟨c, hc⟩ : ∃ c, Y[k]? = some c := ⟨_, List.getElem?_eq_getElem hlt⟩
    have hdr : Y.drop k = c :: Y.drop (k + 1) := by
      obtain ⟨_, he⟩ := List.getElem?_eq_some_iff.mp hc
      rw [← he]; exact List.drop_eq_getElem_cons hlt
    rw [hdr]
    have e : 40 :: Y.take (k + 1) = (40 :: Y.take k) ++ [c] := by rw [List.take_add_one, hc]; rfl
    refine .go ⟨.addS la, op_check kn.toKn (by omega) lw okw, .isNotB, (by rw [show ([40] : List Nat) ++ 40 :: Y.take k = 40 :: 40 :: Y.take k from rfl, I.no k hlt]; rfl), ⟨.lst k0 k2 hj, sd.tok kn.toKnL (dA hD.1 rfl) (q := wq (Y.drop (k + 1) ++ q)) (t := [c]) (by rw [wq_len, List.length_append, List.length_drop]; (clear hlt hk; omega)), .iaddS (by show _ + 1 + 1 ≤ _; exact dB lw rfl), ⟨n, Nat.lt_succ_self _, .mk (k + 1) (by lia) rfl (.cons (congrArg (fun z => some (AV.str z)) e.symm) (.cons rfl (.cons rfl (.cons rfl (.cons rfl (.cons rfl (.cons rfl .nil)))))))⟩⟩⟩
  | zero =>
    have hk : k = Y.length := by lia
    subst hk
    rw [List.take_length, List.drop_length]
    rw [List.take_length] at okw lw la
    have hn : (40 :: Y).count 41 = Y.count 41 := List.count_cons_of_ne (by decide)
    have hc : Y.count 41 ≤ 201 := Nat.le_trans List.count_le_length lW
    have hm : ((M (wq q)).set u (.lst ((g ++ [40 :: Y]).map .str)))[v]? = some (.lst (h.map .str)) := (List.getElem?_set_ne huv).trans (mv _)
    refine .no ⟨.addS la, op_check kn.toKn (⟨hD.1, hD.2⟩) lw okw, .isNotB, (by rw [show ([40] : List Nat) ++ 40 :: Y = 40 :: 40 :: Y from rfl, I.yes]; rfl), ⟨.lst n0 n2 hu, .append (m3 := (M (wq q)).set u (.lst ((g ++ [40 :: Y]).map .str))) (mu _) (mu _) (by rw [List.length_map]; exact dB zg rfl) (by rw [List.map_append]; rfl), .mk ⟨.lst k0 k2 hv, .count, .mulL (by simp) (by lia) (by lia) (by show 1 * _ ≤ _; lia), .extend hm hm ?_ (congrArg (fun z => List.set _ v (AObj.lst z)) ?_), .mk (hn ▸ hJ)⟩⟩⟩
    · rw [Int.toNat_natCast, List.flatten_replicate_singleton, List.length_map, List.length_replicate]; lia
    · rw [Int.toNat_natCast]; exact addRep rfl
private theorem metM_rest (a : Nat) : (metM m q0 q1 rest)[m.length + 6 + a]? = rest[a]? := by
  rw [show m.length + 6 + a = m.length + (a + 6) by lia]
  exact metM_at _
private theorem metM_setR (a : Nat) (x : AObj) : (metM m q0 q1 rest).set (m.length + 6 + a) x = metM m q0 q1 (rest.set a x) := by
  rw [show m.length + 6 + a = m.length + (a + 6) by lia]
  exact set_app m _ _ x
private theorem metM_len : (metM m q0 q1 rest).length = m.length + 6 + rest.length := by
  unfold metM; rw [List.length_append]; simp only [List.length_cons]; lia
private theorem met_start : sn (sn (lexMem (lexMem m [41]) [41]) (.lst [])) (.lst []) = metM m [] [] [.lst [], .lst []] := by
  unfold lexMem sn metM; simp only [List.append_assoc, List.cons_append, List.nil_append, List.length_append, List.length_cons, List.length_nil]; rfl
private theorem lexMem_len (t : List Nat) : (lexMem m t).length = m.length + 3 := by unfold lexMem; rw [sn_len, sn_len, sn_len]
end
end
section
open PySem PySem.W PyProof.Rows PySem.Calls PySem.SeqAt
noncomputable abbrev MetS := TP × List (List Nat) × List (List Nat) × Nat × Nat × Mem
structure MetI (T S : Tr) (n : Nat) (s : MetS) : Prop where
  a : s.2.2.2.2.2[s.2.2.2.1]? = some (.lst (s.2.1.map .str))
  b : s.2.2.2.2.2[s.2.2.2.2.1]? = some (.lst (s.2.2.1.map .str))
  ab : s.2.2.2.1 ≠ s.2.2.2.2.1
  e0 : s.2.1 ++ met0 s.1 = (metT T S).1
  e1 : s.2.2.1 ++ met1 s.1 = (metT T S).2
  c : (cd0 s.1).length = n
  z0 : n ≤ 2 * T.sz + 1
  z1 : (cd1 s.1).length ≤ 2 * S.sz + 1
noncomputable def metLx (T S : Tr) (n a b : Nat) : Lc := metL (rowT T) (rowT S) (.inst 133 (n + 1)) (.inst 133 (n + 4)) (.mref (n + 6 + a)) (.mref (n + 6 + b))
noncomputable def metLf (T S : Tr) (n : Nat) (s : MetS) : Lc := metLx T S n s.2.2.2.1 s.2.2.2.2.1
set_option backward.match.sparseCases false in
noncomputable def metTest : PySem.Expr := match (fdAt prog1 21).body[2]? with
  | some (Stmt.While t _ _ _) => t
  | _ => .Constant .none 0 default
noncomputable def metMf (m : Mem) (s : MetS) : Mem := metM m (wq (cd0 s.1)) (wq (cd1 s.1)) s.2.2.2.2.2
section
variable {X : Amb} {D : Nat} {m : Mem} {T S : Tr}
private theorem half_row : ((rowT T).length : Int).fdiv 2 = (T.sz : Int) := by
  rw [rowT_len, Int.fdiv_eq_ediv_of_nonneg _ (by decide)]; lia
private theorem met_le {g0 : List (List Nat)} : decide ((g0.length : Int) ≤ ((rowT T).length : Int).fdiv 2) = decide (g0.length ≤ T.sz) := by
  rw [half_row]; simp only [Int.ofNat_le]
private theorem okP {c : Nat} (h : par c) : okS [c] := okS_1 (by rcases h with rfl | rfl <;> decide)
private theorem sgEq {c d : Nat} (hD : 4 ≤ D) (hc : par c) (hd : par d) : Bin X D (compareOp .Eq) m (.lst [.str [c], .str [d]]) (.lst [.str [41], .str [41]]) (.bool (decide ([[c], [d]] = [[41], [41]]))) :=
  .eq (.lst (RdsAll.strs [[c], [d]])) (.lst (RdsAll.strs [[41], [41]])) (shaped_strs fun l hl => (List.mem_cons.mp hl).elim (fun h => h ▸ okP hc) fun hl => List.mem_singleton.mp hl ▸ okP hd) (shaped_strs fun l hl => (List.mem_cons.mp hl).elim (fun h => h ▸ ok41) fun hl => List.mem_singleton.mp hl ▸ ok41) eqv_ss hD
private theorem deepI {A B : Tr} (h : (enc (.node A B)).length ≤ 201) : DeepI (enc A ++ enc B) where
  ok := fun c hc => by rcases enc_par (.node A B) c (List.mem_cons_of_mem _ hc) with rfl | rfl <;> decide
  len := by have : (enc A ++ enc B).length + 1 ≤ 201 := h; exact Nat.le_of_lt h
  no := fun k hk => check_pre (.node A B) (k + 1) (Nat.succ_lt_succ hk)
  yes := check_enc (.node A B)
private theorem set2 {rest : Mem} {a b : Nat} {x y x0 y0 : AObj} (ha : rest[a]? = some x0) (hb : rest[b]? = some y0) (ab : a ≠ b) : ((rest.set a x).set b y)[a]? = some x ∧ ((rest.set a x).set b y)[b]? = some y :=
  ⟨(List.getElem?_set_ne ab.symm).trans (List.getElem?_set_self (List.getElem?_eq_some_iff.mp ha).1), List.getElem?_set_self (by rw [List.length_set]; exact (List.getElem?_eq_some_iff.mp hb).1)⟩
private theorem enc_two (A B : Tr) : (enc A ++ enc B).count 41 = A.sz + B.sz + 2 := by rw [List.count_append, enc_41, enc_41]; lia
private theorem p40 : par 40 := .inl rfl
private theorem p41 : par 41 := .inr rfl
private theorem met_turn (kn : KnM X) (hD : 4 ≤ D) {a b c d : Nat} {g0 : List (List Nat)} {rest : Mem} {q0 q1 : List Nat} (ha : rest[a]? = some (.lst (g0.map .str))) (hle : g0.length ≤ T.sz) (hT : T.sz ≤ 100) (z0 : q0.length < 99000) (z1 : q1.length < 99000) {rs : List Stmt} {P : RP} {J : Lc → Mem → Prop}
    (h : wpS ⟨X, D + 1, metSc, [100226]⟩ 40 39 (metWhile.drop 1) (bd "signs" (.lst [.str [c], .str [d]]) (metLx T S m.length a b)) (metM m (wq q0) (wq q1) rest) (LoopW ⟨X, D + 1, metSc, [100226]⟩ rs P J)) :
    WhlW ⟨X, D + 1, metSc, [100226]⟩ metTest metWhile rs J P (metLx T S m.length a b) (metM m ([c] :: wq q0) ([d] :: wq q1) rest) := by
  have hc : decide (((g0.map AV.str).length : Int) ≤ ((rowT T).length : Int).fdiv 2) = true := by
    rw [List.length_map, met_le]; exact decide_eq_true hle
  exact .go ⟨.lst (by decide) (by decide) rfl, .b (kn.bu "len" _ rfl) (.lenM ((metM_rest a).trans ha) (by rw [List.length_map]; exact Nat.le_trans hle (dB hT rfl))), .b (kn.bu "len" _ rfl) (.lenS (by rw [rowT_len]; lia)), .div (by decide) (by decide), hc, ⟨.lst (by decide) (by decide) rfl, (side0 (q1 := [d] :: wq q1)).tok kn.toKnL hD (t := [c]) (q := wq q0) (by rw [wq_len]; lia), .lst (by decide) (by decide) rfl, (side1 (q0 := wq q0)).tok kn.toKnL hD (t := [d]) (q := wq q1) (by rw [wq_len]; lia), h⟩⟩
private theorem op_met (kn : KnM X) (hD : 22 ≤ D ∧ D ≤ 500) (hT : T.sz ≤ 100) (hS : S.sz ≤ 100) : Fn X (D + 1) "_law_met" m [.str (rowT T), .str (rowT S)] (.lst [wsAV (metT T S).1, wsAV (metT T S).2]) m := by
  obtain ⟨D, rfl⟩ : ∃ d, D = d + 1 := ⟨D - 1, by lia⟩
  have hD4 : 4 ≤ D + 1 := by exact dA hD.1 rfl
  have lT : (rowT T).length ≤ 200 := by rw [rowT_len]; lia
  have lS : (rowT S).length ≤ 200 := by rw [rowT_len]; lia
  have l1 : (lexMem (lexMem m [41]) [41]).length = m.length + 6 := by rw [lexMem_len, lexMem_len]
  have l2 : AV.lst [.mref (lexMem (lexMem m [41]) [41]).length, .mref (sn (lexMem (lexMem m [41]) [41]) (.lst [])).length] = .lst [.mref (m.length + 6 + 0), .mref (m.length + 6 + 1)] := by rw [sn_len, l1]
  refine (kn.fn 21 161 rfl).mk' kn.lim hD4 (ps := ["first", "second"]) [100226] (by rfl) (fun zz zz zz zz zz zz => rfl) rfl (W.tupR (G := ⟨X, D + 1, _, _⟩) (xs := ["lines", "grafts"]) hD4 rfl rfl rfl ⟨op_lexer kn (dC hD.1 rfl) (t := [41]) (by decide), op_lexer kn (by lia) (t := [41]) (by decide), .mk rfl ?_⟩)
  refine W.forW (G := ⟨X, D + 1, _, _⟩) (σ := Unit) (xs := [0, 1]) (f := .int) (av := .tup [.int 0, .int 1]) hD4 .mk .tup (fun zz zz => metLf T S m.length ([], [], [], 0, 1, [])) (fun k zz => metM m (cond (k == 0) [] (wq (rowT T ++ [41]))) (cond (k == 2) (wq (rowT S ++ [41])) []) [.lst [], .lst []]) (fun zz zz => True) (.mk () trivial met_start (.cons rfl (.cons rfl (.cons (congrArg (fun z => some (AV.lst [.inst 133 (m.length + 1), .inst 133 (z + 1)])) (lexMem_len [41])) (.cons (congrArg some l2) .nil))))) (fun k x s hx zz => ?_) (fun s zz => ?_) (fun zz zz => rfl)
  · match k, hx with
    | 0, hx =>
      cases hx
      exact ⟨_, .name rfl, met_push kn.toKnL (dC hD.1 rfl) (side0 (q1 := [])) (by decide) (by decide) rfl rfl (dB lT rfl) (.mk () trivial rfl (.rf rfl))⟩
    | 1, hx =>
      cases hx
      exact ⟨_, .name rfl, met_push kn.toKnL (by lia) (side1 (q0 := wq (rowT T ++ [41]))) (by decide) (by decide) rfl rfl (dB lS rfl) (.mk () trivial rfl (.rf rfl))⟩
  have e2 : metM m (wq (rowT T ++ [41])) (wq (rowT S ++ [41])) [.lst [], .lst []] = metMf m ([(T, S)], [], [], 0, 1, [.lst [], .lst []]) := by
    show _ = metM m (wq (enc T ++ [])) (wq (enc S ++ [])) _
    rw [rowT_snoc, rowT_snoc, List.append_nil, List.append_nil]
  refine W.whileW (G := ⟨X, D + 1, _, _⟩) (σ := MetS) hD4 (metLf T S m.length) (metMf m) (MetI T S) (2 * T.sz + 1) (.mk ([(T, S)], [], [], 0, 1, [.lst [], .lst []]) ⟨rfl, rfl, Nat.zero_ne_one, List.append_nil _, List.append_nil _, (congrArg List.length (List.append_nil _)).trans (enc_len T), Nat.le_refl _, Nat.le_of_eq ((congrArg List.length (List.append_nil _)).trans (enc_len S))⟩ e2 (.cons rfl (.cons rfl (.cons rfl (.cons rfl .nil))))) (fun n s I => ?_)
  obtain ⟨fs, g0, g1, a, b, rest⟩ := s
  have ha : rest[a]? = some (.lst (g0.map .str)) := I.a
  have hb : rest[b]? = some (.lst (g1.map .str)) := I.b
  have lg0 : g0.length + (met0 fs).length = T.sz + 1 := by rw [← metT_len1 T S, ← I.e0, List.length_append]
  have lg1 : g1.length + (met1 fs).length = S.sz + 1 := by rw [← metT_len2 T S, ← I.e1, List.length_append]
  have ga : (metM m (wq (cd0 fs)) (wq (cd1 fs)) rest)[m.length + 6 + a]? = some (.lst (g0.map .str)) := (metM_rest a).trans ha
  have gb : (metM m (wq (cd0 fs)) (wq (cd1 fs)) rest)[m.length + 6 + b]? = some (.lst (g1.map .str)) := (metM_rest b).trans hb
  have zg : (g0.map AV.str).length ≤ 2 ^ 40 := by rw [List.length_map]; lia
  have zr : (rowT T).length ≤ 2 ^ 40 := by exact dB lT rfl
  cases fs with
  | nil =>
    have h0 : g0 = (metT T S).1 := (List.append_nil _).symm.trans I.e0
    have h1 : g1 = (metT T S).2 := (List.append_nil _).symm.trans I.e1
    have hc : decide (((g0.map AV.str).length : Int) ≤ ((rowT T).length : Int).fdiv 2) = false := by
      rw [List.length_map, met_le]; exact decide_eq_false (by rw [h0, metT_len1]; lia)
    exact .no ⟨.lst (by decide) (by decide) rfl, .b (kn.bu "len" _ rfl) (.lenM ga zg), .b (kn.bu "len" _ rfl) (.lenS zr), .div (by decide) (by decide), hc, KeptA.eq rfl fun M => .lstL (.cons (.mrefL (by lia) ga (h0 ▸ Frz.strs)) (.cons (.mrefL (by lia) gb (h1 ▸ Frz.strs)) .nil))⟩
  | cons f fs =>
    obtain ⟨T1, S1⟩ := f
    have c0 : (enc T1).length + (cd0 fs).length = n := (List.length_append).symm.trans I.c
    have c1 : (enc S1).length + (cd1 fs).length ≤ 2 * S.sz + 1 := Nat.le_trans (Nat.le_of_eq (List.length_append).symm) I.z1
    have z0 := I.z0
    have hm : 1 ≤ (met0 ((T1, S1) :: fs)).length := by
      show 1 ≤ ((metT T1 S1).1 ++ met0 fs).length
      rw [List.length_append, metT_len1]; lia
    have hle : g0.length ≤ T.sz := by lia
    cases T1 with
    | leaf =>
      cases S1 with
      | leaf =>
        have c0 : 1 + (cd0 fs).length = n := c0
        have c1 : 1 + (cd1 fs).length ≤ 2 * S.sz + 1 := c1
        refine met_turn kn (by lia) (c := 41) (d := 41) (q0 := cd0 fs) (q1 := cd1 fs) ha hle hT (by lia) (by lia) ⟨sgEq hD4 p41 p41, .t rfl ?_⟩
        have ga' : (metM m (wq (cd0 fs)) (wq (cd1 fs)) rest)[m.length + 6 + a]? = some (.lst (g0.map .str)) := (metM_rest a).trans ha
        have gb' : (metM m (wq (cd0 fs)) (wq (cd1 fs)) rest)[m.length + 6 + b]? = some (.lst (g1.map .str)) := (metM_rest b).trans hb
        have lM : (metM m (wq (cd0 fs)) (wq (cd1 fs)) rest).length = m.length + 6 + rest.length := metM_len
        generalize hM : metM m (wq (cd0 fs)) (wq (cd1 fs)) rest = M0 at ga' gb' lM
        refine W.lcA (G := ⟨X, D + 1, _, [100226]⟩) (xs := [m.length + 6 + a, m.length + 6 + b]) (f := .mref) (av := .lst [.mref (m.length + 6 + a), .mref (m.length + 6 + b)]) (m1 := M0) hD4 (by rfl) (fun zz zz => rfl) (hM ▸ .mk) .lst (fun k ys m' => ys = ([.mref M0.length, .mref (M0.length + 1)] : List AV).take k ∧ m' = M0 ++ ([.lst ((g0 ++ [[41]]).map .str), .lst ((g1 ++ [[41]]).map .str)] : Mem).take k) (by show 2 ≤ _; decide) ⟨rfl, (List.append_nil _).symm⟩ (fun k x ys m' hx hI => ?_) (b := true) (by rfl) rfl (fun ys m' hI => ?_)
        · obtain ⟨rfl, rfl⟩ := hI
          match k, hx with
          | 0, hx =>
            cases hx
            exact ⟨_, .name rfl, .t rfl ⟨.add (xs := g0.map .str) ((List.getElem?_append_left (List.getElem?_eq_some_iff.mp ga').1).trans ga') (by rw [List.length_map]; show _ + 1 ≤ _; lia), congrArg (fun z : Mem => [AV.mref z.length]) (List.append_nil M0), (congrArg (fun z => sn z _) (List.append_nil M0)).trans (by rw [List.map_append]; rfl)⟩⟩
          | 1, hx =>
            cases hx
            exact ⟨_, .name rfl, .t rfl ⟨.add (xs := g1.map .str) ((List.getElem?_append_left (List.getElem?_eq_some_iff.mp gb').1).trans gb') (by rw [List.length_map]; show _ + 1 ≤ _; lia), congrArg (fun z => [AV.mref M0.length, AV.mref z]) (List.length_append), (List.append_assoc ..).trans (by simp only [List.map_append]; rfl)⟩⟩
        · obtain ⟨rfl, rfl⟩ := hI
          refine ⟨.lst (by decide) (by decide) rfl, .lst (by decide) (by decide) rfl, .neS ok41 ok41 hD4, .f rfl ⟨(cd0 fs).length, by lia, .mk (fs, g0 ++ [[41]], g1 ++ [[41]], rest.length, rest.length + 1, rest ++ [.lst ((g0 ++ [[41]]).map .str), .lst ((g1 ++ [[41]]).map .str)]) ⟨get_app0 rest _, get_app rest _ 1, Nat.ne_of_lt (Nat.lt_succ_self _), (List.append_assoc ..).trans I.e0, (List.append_assoc ..).trans I.e1, rfl, by lia, by show (cd1 fs).length ≤ _; lia⟩ ?_ (.cons rfl (.cons rfl (.cons rfl (.cons (congrArg some ?_) .nil))))⟩⟩
          · rw [← hM]; exact (List.append_assoc m _ _)
          · show AV.lst [_, _] = .lst [_, _]
            rw [lM]; rfl
      | node C1 D1 =>
        have c0 : 1 + (cd0 fs).length = n := c0
        have lY : (enc (.node C1 D1)).length ≤ 201 := by lia
        have lY1 : (enc C1 ++ enc D1).length ≤ 201 := (deepI lY).len
        refine met_turn kn (by lia) (c := 41) (d := 40) (q0 := cd0 fs) (q1 := (enc C1 ++ enc D1) ++ cd1 fs) ha hle hT (by lia) (by rw [List.length_append]; lia) ⟨sgEq hD4 p41 p40, .f rfl ⟨.lst (by decide) (by decide) rfl, .lst (by decide) (by decide) rfl, .neS ok41 ok40 hD4, .t rfl (W.tupR (G := ⟨X, D + 1, _, _⟩) (xs := ["deep", "word"]) hD4 rfl rfl rfl ⟨.index (zs := [[41], [40]]) (y := [40]) (j := 1) (by decide) rfl (fun i z hi hz => ?_), .mk rfl ?_⟩)⟩⟩
        · cases i with
          | zero => cases hz; decide
          | succ i => exact absurd hi (by lia)
        · refine met_deep kn (by lia) (side1 (m := m) (q0 := wq (cd0 fs)) (rest := rest)) (K := 1) (by decide) (by decide) rfl rfl rfl (by have := I.ab; simp only [] at this; lia) (fun q => (metM_rest a).trans ha) (fun q => (metM_rest b).trans hb) (by lia) (by lia) (deepI lY) (q := cd1 fs) (by lia) ⟨(cd0 fs).length, by lia, .mk (fs, g0 ++ [enc (.node C1 D1)], g1 ++ List.replicate ((enc C1 ++ enc D1).count 41) [41], a, b, (rest.set a (.lst ((g0 ++ [enc (.node C1 D1)]).map .str))).set b (.lst ((g1 ++ List.replicate ((enc C1 ++ enc D1).count 41) [41]).map .str))) ⟨(set2 ha hb I.ab).1, (set2 ha hb I.ab).2, I.ab, (List.append_assoc ..).trans I.e0, ?_, rfl, by lia, by show (cd1 fs).length ≤ _; lia⟩ ((congrArg (fun z : Mem => z.set _ _) (metM_setR a _)).trans (metM_setR b _)) (.cons rfl (.cons rfl (.cons rfl (.cons rfl .nil))))⟩
          show (g1 ++ List.replicate ((enc C1 ++ enc D1).count 41) [41]) ++ met1 fs = _
          rw [enc_two]; exact (List.append_assoc ..).trans I.e1
    | node A1 B1 =>
      cases S1 with
      | leaf =>
        have lY : (enc (.node A1 B1)).length ≤ 201 := by lia
        have lY1 : (enc A1 ++ enc B1).length ≤ 201 := (deepI lY).len
        have c1 : 1 + (cd1 fs).length ≤ 2 * S.sz + 1 := c1
        have c2 : (enc A1 ++ enc B1).length + 1 + (cd0 fs).length = n := c0
        refine met_turn kn (by lia) (c := 40) (d := 41) (q0 := (enc A1 ++ enc B1) ++ cd0 fs) (q1 := cd1 fs) ha hle hT (by rw [List.length_append]; lia) (by lia) ⟨sgEq hD4 p40 p41, .f rfl ⟨.lst (by decide) (by decide) rfl, .lst (by decide) (by decide) rfl, .neS ok40 ok41 hD4, .t rfl (W.tupR (G := ⟨X, D + 1, _, _⟩) (xs := ["deep", "word"]) hD4 rfl rfl rfl ⟨.index (zs := [[40], [41]]) (y := [40]) (j := 0) (by decide) rfl (fun i z hi hz => absurd hi (Nat.not_lt_zero _)), .mk rfl ?_⟩)⟩⟩
        refine met_deep kn (by lia) (side0 (m := m) (q1 := wq (cd1 fs)) (rest := rest)) (K := 0) (by decide) (by decide) rfl rfl rfl (by have := I.ab; simp only [] at this; lia) (fun q => (metM_rest b).trans hb) (fun q => (metM_rest a).trans ha) (by lia) (by lia) (deepI lY) (q := cd0 fs) (by lia) ⟨(cd0 fs).length, by lia, .mk (fs, g0 ++ List.replicate ((enc A1 ++ enc B1).count 41) [41], g1 ++ [enc (.node A1 B1)], a, b, (rest.set b (.lst ((g1 ++ [enc (.node A1 B1)]).map .str))).set a (.lst ((g0 ++ List.replicate ((enc A1 ++ enc B1).count 41) [41]).map .str))) ⟨(set2 hb ha (Ne.symm I.ab)).2, (set2 hb ha (Ne.symm I.ab)).1, I.ab, ?_, (List.append_assoc ..).trans I.e1, rfl, by lia, by show (cd1 fs).length ≤ _; lia⟩ ((congrArg (fun z : Mem => z.set _ _) (metM_setR b _)).trans (metM_setR a _)) (.cons rfl (.cons rfl (.cons rfl (.cons rfl .nil))))⟩
        show (g0 ++ List.replicate ((enc A1 ++ enc B1).count 41) [41]) ++ met0 fs = _
        rw [enc_two]; exact (List.append_assoc ..).trans I.e0
      | node C1 D1 =>
        have c0 : (enc A1 ++ enc B1).length + 1 + (cd0 fs).length = n := c0
        have c1 : (enc C1 ++ enc D1).length + 1 + (cd1 fs).length ≤ 2 * S.sz + 1 := c1
        rw [List.length_append] at c0 c1
        refine met_turn kn (by lia) (c := 40) (d := 40) (q0 := (enc A1 ++ enc B1) ++ cd0 fs) (q1 := (enc C1 ++ enc D1) ++ cd1 fs) ha hle hT (by rw [List.length_append, List.length_append]; lia) (by rw [List.length_append, List.length_append]; lia) ⟨sgEq hD4 p40 p40, .f rfl ⟨.lst (by decide) (by decide) rfl, .lst (by decide) (by decide) rfl, .neS ok40 ok40 hD4, .f rfl ⟨(cd0 ((A1, C1) :: (B1, D1) :: fs)).length, ?_, .mk ((A1, C1) :: (B1, D1) :: fs, g0, g1, a, b, rest) ⟨ha, hb, I.ab, ?_, ?_, rfl, ?_, ?_⟩ ?_ (.cons rfl (.cons rfl (.cons rfl (.cons rfl .nil))))⟩⟩⟩
        · show (enc A1 ++ (enc B1 ++ cd0 fs)).length < n
          rw [List.length_append, List.length_append]; lia
        · exact (congrArg (g0 ++ ·) (List.append_assoc ..).symm).trans I.e0
        · exact (congrArg (g1 ++ ·) (List.append_assoc ..).symm).trans I.e1
        · show (enc A1 ++ (enc B1 ++ cd0 fs)).length ≤ _
          rw [List.length_append, List.length_append]; lia
        · show (enc C1 ++ (enc D1 ++ cd1 fs)).length ≤ _
          rw [List.length_append, List.length_append]; lia
        · show metM m (wq _) (wq _) rest = metM m (wq (enc A1 ++ (enc B1 ++ cd0 fs))) (wq (enc C1 ++ (enc D1 ++ cd1 fs))) rest
          rw [List.append_assoc, List.append_assoc]
end
end
section
open PySem PySem.W PyProof.Rows PySem.Calls PySem.SeqAt
noncomputable def Pr.av (p : Pr) : AV := .lst [.str (rowT p.a), .str (rowT p.b)]
private theorem okS_row (T : Tr) : okS (rowT T) := fun c hc => by rcases rowT_par T c hc with rfl | rfl <;> decide
private theorem sum_enc : ∀ (ts : List Tr), (ts.map fun t => (enc t).length).sum = ts.length + 2 * (ts.map Tr.sz).sum
  | [] => rfl
  | t :: ts => by
    have ih := sum_enc ts
    simp only [List.map_cons, List.sum_cons, List.length_cons]
    rw [ih, enc_len]; lia
private theorem sub_sum : ∀ (A : Tr) (ts : List Tr), ts.length = A.lv → (sub A ts).sz = A.sz + (ts.map Tr.sz).sum
  | .leaf, [t], _ => by simp [sub, Tr.sz]
  | .leaf, [], h => by simp [Tr.lv] at h
  | .leaf, _ :: _ :: _, h => by simp [Tr.lv] at h
  | .node l r, ts, h => by
    simp only [Tr.lv] at h
    have e : (ts.map Tr.sz).sum = ((ts.take l.lv).map Tr.sz).sum + ((ts.drop l.lv).map Tr.sz).sum := by
      rw [← List.sum_append_nat, ← List.map_append, List.take_append_drop]
    rw [sub, Tr.sz, Tr.sz, sub_sum l _ (by rw [List.length_take]; lia), sub_sum r _ (by rw [List.length_drop]; lia), e]; lia
section
variable {X : Amb} {D : Nat} {m : Mem}
private theorem op_putT (kn : Kn X) (hD : 4 ≤ D) {A : Tr} {ts : List Tr} (h : ts.length = A.lv) (hz : (sub A ts).sz ≤ 400) : Fn X (D + 1) "_law_put" m [.str (rowT A), wsAV (ts.map enc)] (.str (rowT (sub A ts))) m := by
  have h1 := sub_sum A ts h
  have h2 := sum_enc ts
  have h3 := lv_sz A
  exact op_put kn hD (by rw [rowT_len]; lia) (okS_row A) (by rw [List.length_map]; lia) (by rw [List.map_map]; show (ts.map fun t => (enc t).length).sum ≤ _; lia) (put_tree h)
private theorem op_metT (kn : KnM X) (hD : 22 ≤ D ∧ D ≤ 500) {T S : Tr} (hT : T.sz ≤ 100) (hS : S.sz ≤ 100) : Fn X (D + 1) "_law_met" m [.str (rowT T), .str (rowT S)] (.lst [wsAV ((mt T S).1.map enc), wsAV ((mt T S).2.map enc)]) m := by
  have := op_met (m := m) kn hD hT hS
  rw [mt_met] at this; exact this
private theorem op_times (kn : KnM X) (hD : 26 ≤ D ∧ D ≤ 500) {one two : Pr} (h1 : one.ok 30) (h2 : two.ok 30) : Fn X (D + 1) "_law_times" m [one.av, two.av] (.lst [.str (timesF one two).1, .str (timesF one two).2]) m := by
  obtain ⟨D, rfl⟩ : ∃ d, D = d + 1 := ⟨D - 1, by lia⟩
  obtain ⟨z1, z2, -⟩ := times_tree h1 h2
  obtain ⟨o1, o2⟩ := h1
  obtain ⟨t1, t2⟩ := h2
  have s1 := lv_sz one.a
  have s2 := lv_sz one.b
  have s3 := lv_sz two.a
  have s4 := lv_sz two.b
  have l1 := mt_len1 one.b two.a
  have l2 := mt_len2 one.b two.a
  refine (kn.fn 24 178 rfl).mk' kn.lim (dA hD.1 rfl) (ps := ["one", "two"]) [] (by rfl) (fun zz zz zz zz zz zz => rfl) rfl ⟨.lst (by decide) (by decide) rfl, .lst (by decide) (by decide) rfl, op_metT kn (⟨dC hD.1 rfl, Nat.le_of_lt hD.2⟩) (by lia) (dB t2 rfl), .lst (by decide) (by decide) rfl, .lst (by decide) (by decide) rfl, op_putT kn.toKn (dC hD.1 rfl) (by lia) (dB z1 rfl), .lst (by decide) (by decide) rfl, .lst (by decide) (by decide) rfl, op_putT kn.toKn (by lia) (by lia) (dB z2 rfl), op_bare kn.toKn (by lia) (by rw [rowT_len]; lia) (okS_row _) (by rw [rowT_len]; lia) (okS_row _), .same fun zz => .lstL (.cons (.str _) (.cons (.str _) .nil))⟩
end
end
section
private theorem gTok_suf (z : Nat → Bool) : ∀ (n : Nat) (cs tok : List Nat), cs.length ≤ n → ∃ pre, cs = pre ++ (gTok z tok cs).2.1
  | _, [], tok, _ => ⟨[], by rw [gTok_nil]; rfl⟩
  | 0, c :: r, tok, h => by simp at h
  | n + 1, c :: r, tok, h => by
    simp only [List.length_cons] at h
    rw [gTok_cons]
    split
    · exact ⟨[c], rfl⟩
    · split
      · obtain ⟨pre, e⟩ := gTok_suf z n (r.drop 1) (tok ++ r.take 1) (by rw [List.length_drop]; omega)
        refine ⟨c :: (r.take 1 ++ pre), ?_⟩
        conv => lhs; rw [← List.take_append_drop 1 r, e]
        simp
      · obtain ⟨pre, e⟩ := gTok_suf z n r (tok ++ [c]) (by lia)
        exact ⟨c :: pre, by rw [List.cons_append, ← e]⟩
private theorem tokF_suf : ∀ cs : List Nat, ∃ pre, cs = pre ++ (tokF cs).2.1
  | [] => ⟨[], rfl⟩
  | c :: r => by
    by_cases hw : wsB c = true
    · rw [tokF_ws hw]
      obtain ⟨pre, e⟩ := tokF_suf r
      exact ⟨c :: pre, by rw [List.cons_append, ← e]⟩
    · by_cases h34 : c = 34
      · rw [tokF_qt hw h34]
        obtain ⟨pre, e⟩ := gTok_suf qtB _ r [] (Nat.le_refl _)
        exact ⟨c :: pre, by rw [List.cons_append, ← e]⟩
      · rw [tokF_pl hw h34]
        split
        · obtain ⟨pre, e⟩ := gTok_suf wsB _ (r.drop 1) (r.take 1) (Nat.le_refl _)
          refine ⟨c :: (r.take 1 ++ pre), ?_⟩
          conv => lhs; rw [← List.take_append_drop 1 r, e]
          simp
        · obtain ⟨pre, e⟩ := gTok_suf wsB _ r [c] (Nat.le_refl _)
          exact ⟨c :: pre, by rw [List.cons_append, ← e]⟩
private theorem toks_at {file : List Nat} (h1 : okS file) (h2 : file.length ≤ 100000) : ∀ k, okS (toksF k file).2 ∧ (toksF k file).2.length ≤ 100000
  | 0 => ⟨h1, h2⟩
  | k + 1 => by
    obtain ⟨a, b⟩ := toks_at h1 h2 k
    rw [toks_succ]
    obtain ⟨pre, e⟩ := tokF_suf (toksF k file).2
    have h3 : (toksF k file).2.length = pre.length + (tokF (toksF k file).2).2.1.length := by
      conv => lhs; rw [e]
      rw [List.length_append]
    exact ⟨fun c hc => a c (by rw [e]; exact List.mem_append_right _ hc), by dsimp only; lia⟩
private theorem file_small (R : List (List Nat)) (st : Int) (hl : ∀ r ∈ R, okS r ∧ r.length ≤ 8) : okS (fileF R st) ∧ ∀ k, (writtenF (R.getD k []) (styleF st k)).length ≤ 19 := by
  have hg : ∀ k, okS (R.getD k []) ∧ (R.getD k []).length ≤ 8 := fun k => by
    rw [List.getD_eq_getElem?_getD]
    cases h : R[k]? with
    | none => exact ⟨fun c hc => (nomatch hc), Nat.zero_le _⟩
    | some r => exact hl r (List.mem_of_getElem? h)
  constructor
  · intro c hc
    unfold fileF at hc
    obtain ⟨l, h1, h2⟩ := List.mem_flatten.mp (List.dropLast_subset _ hc)
    obtain ⟨k, _, rfl⟩ := List.mem_map.mp h1
    exact okS_written (hg k).1 _ c h2
  · intro k
    have he : ∀ s : Int, (endF s).length ≤ 1 := fun s => by unfold endF; split <;> (try split) <;> decide
    have hb : ∀ (w : List Nat) (j : Nat), (baseF w j).length ≤ 2 * w.length + 2 := fun w j => by
      unfold baseF
      split <;> (try simp only [List.length_cons, List.length_append, guardF_len, List.length_nil]) <;> lia
    have h1 := he (styleF st k)
    have h2 := hb (R.getD k []) (styleF st k % 4).toNat
    have h3 := (hg k).2
    unfold writtenF
    rw [List.length_append]; lia
noncomputable def rowA (c : Nat) : List Nat := rowL ((c / 6 : Nat) : Int) (cntF' c)
noncomputable def rowB (c : Nat) : List Nat := rowL ((c / 1536 : Nat) : Int) (cntF' c)
noncomputable def rowsK (l : List Nat) (k : Nat) : List (List Nat) := (l.take k).flatMap rowsOf
private theorem rowsK_succ {l : List Nat} {k c : Nat} (h : l[k]? = some c) : rowsK l (k + 1) = rowsK l k ++ [rowA c, rowB c] := by
  unfold rowsK
  rw [List.take_add_one, h, List.flatMap_append]; rfl
private theorem rowsK_len (l : List Nat) (k : Nat) : (rowsK l k).length ≤ 2 * k := by
  unfold rowsK
  rw [List.length_flatMap, show (fun a => (rowsOf a).length) = fun zz => 2 from rfl]
  simp [List.map_const']; lia
private theorem good_row {p : Pr} (h : p.good) : ∀ x ∈ p.rows, okS x ∧ x.length ≤ 8 := by
  obtain ⟨ho, _⟩ := h
  have hb := Pr.szb ho
  have key : ∀ T : Tr, T.sz ≤ 4 → okS (rowT T) ∧ (rowT T).length ≤ 8 := fun T hT => ⟨fun c hc => by rcases rowT_par T c hc with rfl | rfl <;> decide, by rw [rowT_len]; lia⟩
  intro x hx
  simp only [Pr.rows, List.mem_cons, List.not_mem_nil, or_false] at hx
  rcases hx with rfl | rfl
  · exact key _ ho.2
  · exact key _ hb
private theorem sum_le {α : Type} (f : α → Nat) (c : Nat) : ∀ l : List α, (∀ a ∈ l, f a ≤ c) → (l.map f).sum ≤ c * l.length
  | [], _ => by simp
  | a :: l, h => by
    have h1 := h a List.mem_cons_self
    have h2 := sum_le f c l fun b hb => h b (List.mem_cons_of_mem _ hb)
    simp only [List.map_cons, List.sum_cons, List.length_cons, Nat.mul_add]; lia
noncomputable def bitsN (c4 : Nat) : Nat := 20 + c4 % 5
noncomputable def signI (c4 : Nat) : Int := 1 - 2 * ((c4 / 5 % 2 : Nat) : Int)
private theorem signI_or (c4 : Nat) : signI c4 = 1 ∨ signI c4 = -1 := by unfold signI; lia
private theorem op_prod {p q : Pr} {n m : Nat} (h1 : p.ok n) (h2 : q.ok m) : ∃ e : Pr, timesF p q = (rowT e.a, rowT e.b) ∧ e.ok (n + m) ∧ red e.a e.b ∧ ∀ x, e.f x = q.f (p.f x) := by
  obtain ⟨-, -, e⟩ := times_tree h1 h2
  exact e
structure Prods (p q r e g : Pr) : Prop where
  t1 : timesF p q = (rowT e.a, rowT e.b)
  t2 : timesF e r = (rowT g.a, rowT g.b)
  t3 : ∃ h : Pr, h.ok 8 ∧ timesF q r = (rowT h.a, rowT h.b) ∧ timesF p h = (rowT g.a, rowT g.b)
  t4 : timesF g r.sw = (rowT e.a, rowT e.b)
  ok : g.ok 12
  oe : e.ok 8
  f : ∀ x, g.f x = r.f (q.f (p.f x))
private theorem prods {p q r : Pr} (h1 : p.ok 4) (h2 : q.ok 4) (h3 : r.ok 4) : ∃ e g : Pr, Prods p q r e g := by
  obtain ⟨e, a1, a2, a3, a4⟩ := op_prod h1 h2
  obtain ⟨g, b1, b2, b3, b4⟩ := op_prod a2 h3
  obtain ⟨h, c1, c2, c3, c4⟩ := op_prod h2 h3
  obtain ⟨g', d1, d2, d3, d4⟩ := op_prod h1 c2
  obtain ⟨e', f1, f2, f3, f4⟩ := op_prod b2 (Pr.ok_sw h3)
  have x1 : g' = g := pr_uniq d2 b2 d3 b3 fun x => by rw [d4, c4, b4, a4]
  have x2 : e' = e := pr_uniq f2 a2 f3 a3 fun x => by rw [f4, b4, Pr.inv h3]
  subst x1; subst x2
  exact ⟨e', g', a1, b1, ⟨h, c2, c1, d1⟩, f1, b2, a2, fun x => by rw [b4, a4]⟩
structure Chain (p q r g : Pr) (b : Nat) (sign : Int) (vs : Nat → Int) : Prop where
  led : ∀ k x, [p, q, r][k]? = some x → x.ok 12 ∧ ∃ i : Int, ledF (rowT x.a) (rowT x.b) (vs k) b = some [vs (k + 1), 0, i] ∧ x.mv b (vs k) sign = some [vs (k + 1), 0, i]
  whole : ∃ i : Int, g.mv b (vs 0) sign = some [vs 3, 0, i]
private theorem good_ok {p : Pr} (h : p.good) : p.ok 12 := Pr.ok_mono h.1 (by decide)
private theorem absSub {a b n : Nat} (ha : a < n) (hb : b < n) : ((a : Int) - b).natAbs < n := by omega
private theorem sub12 {b k : Nat} (h : 20 ≤ b) (hk : k ≤ 12) : b - 12 + k ≤ b := Nat.le_trans (Nat.add_le_add_left hk _) (Nat.le_of_eq (Nat.sub_add_cancel (dA h rfl)))
private theorem chain_of {p q r e g : Pr} (gp : p.good) (gq : q.good) (gr : r.good) (hP : Prods p q r e g) {b : Nat} (h1 : 20 ≤ b) (h2 : b ≤ 29) {sign : Int} (hs : sign = 1 ∨ sign = -1) {point whole : Int} {x : St} (pt : Pt b point whole x) (hz : point.natAbs < 2 ^ 58) :
    ∃ vs : Nat → Int, vs 0 = point ∧ Chain p q r g b sign vs := by
  obtain ⟨z1, z2, z3⟩ := three gp gq gr pt.z (by lia)
  have z0 : zb b x := zb_mono pt.z (Nat.sub_le ..)
  have z1 : zb b (p.f x) := zb_mono z1 (sub12 h1 (by decide))
  have z2 : zb b (q.f (p.f x)) := zb_mono z2 (sub12 h1 (by decide))
  have z3 : zb b (r.f (q.f (p.f x))) := zb_mono z3 (sub12 h1 (by decide))
  have hpb : (2 : Nat) ^ b ≤ 2 ^ 29 := Nat.pow_le_pow_right (by decide) h2
  have hw : ∀ y : St, (whole * 2 ^ b + (num b y : Int)).natAbs < 2 ^ 60 := fun y => by
    have a1 := num_lt b x
    have a2 := num_lt b y
    have e : whole * 2 ^ b + (num b y : Int) = point + ((num b y : Int) - num b x) := by
      rw [pt.e, Int.add_assoc, Int.add_comm (num b x : Int), Int.sub_add_cancel]
    rw [e]
    exact Nat.lt_of_le_of_lt (Int.natAbs_add_le _ _) (Nat.lt_of_lt_of_le (Nat.add_lt_add hz (absSub a2 a1)) (Nat.le_trans (Nat.add_le_add_left hpb _) (by decide)))
  obtain ⟨i0, m0, l0⟩ := Pr.moved (good_ok gp) (b := b) (dA h1 rfl) h2 z0 z1 whole sign hs (hw _)
  obtain ⟨i1, m1, l1⟩ := Pr.moved (good_ok gq) (b := b) (dA h1 rfl) h2 z1 z2 whole sign hs (hw _)
  obtain ⟨i2, m2, l2⟩ := Pr.moved (good_ok gr) (b := b) (dA h1 rfl) h2 z2 z3 whole sign hs (hw _)
  obtain ⟨i3, m3, -⟩ := Pr.moved hP.ok (b := b) (dA h1 rfl) h2 z0 (by rw [hP.f]; exact z3) whole sign hs (hw _)
  rw [hP.f] at m3
  refine ⟨fun k => whole * 2 ^ b + (num b ((match k with
    | 0 => x
    | 1 => p.f x
    | 2 => q.f (p.f x)
    | _ => r.f (q.f (p.f x))) : St) : Int), pt.e.symm, ⟨fun k y hy => ?_, ⟨i3, m3⟩⟩⟩
  match k, hy with
  | 0, hy => cases hy; exact ⟨good_ok gp, i0, l0, m0⟩
  | 1, hy => cases hy; exact ⟨good_ok gq, i1, l1, m1⟩
  | 2, hy => cases hy; exact ⟨good_ok gr, i2, l2, m2⟩
noncomputable def point0 (c5 : Nat) : Int := ((c5 : Int) - 1000000) * 4096
noncomputable def point1 (p : Pr) (b c6 : Nat) : Int := (stL p.a b).getD (c6 % 3) 0 + (((c6 / 3 : Nat) : Int) - 300) * 2 ^ b
private theorem pt0 {b c5 : Nat} (hb : 20 ≤ b) (h : c5 < 10000000) : (∃ whole x, Pt b (point0 c5) whole x) ∧ (point0 c5).natAbs < 2 ^ 58 := by
  constructor
  · exact pt_of hb _ ⟨(c5 : Int) - 1000000, Int.mul_comm _ _⟩
  · unfold point0
    rw [Int.natAbs_mul]
    exact Nat.lt_of_lt_of_le (Nat.mul_lt_mul_of_pos_right (absSub (b := 1000000) h (by decide)) (by decide)) (by decide)
private theorem pt1 {p : Pr} {b c6 : Nat} (gp : p.good) (hb : 20 ≤ b) (hb2 : b ≤ 24) (h : c6 < 10000000) : (∃ whole x, Pt b (point1 p b c6) whole x) ∧ (point1 p b c6).natAbs < 2 ^ 58 := by
  obtain ⟨⟨ho, h4⟩, h2, -⟩ := gp
  have hl := lv_sz p.a
  have hi : c6 % 3 < (words p.a).length := by rw [words_len]; lia
  have hw := List.getElem?_eq_getElem hi
  have hlen := word_len p.a (List.mem_of_getElem? hw)
  obtain ⟨e1, -⟩ := stL_at (show p.a.sz ≤ b by lia) hw
  have lt : nw b (words p.a)[c6 % 3] < 2 ^ b := by
    have a := num_pre (words p.a)[c6 % 3] b (fun zz => false) (by lia)
    have c := num_lt b (pre (words p.a)[c6 % 3] (fun zz => false))
    lia
  have hpb : (2 : Nat) ^ b ≤ 2 ^ 24 := Nat.pow_le_pow_right (by decide) hb2
  unfold point1
  rw [e1]
  constructor
  · refine pt_of hb _ ?_
    have d1 : (4096 : Int) ∣ (nw b (words p.a)[c6 % 3] : Int) := by
      have : (4096 : Nat) ∣ nw b (words p.a)[c6 % 3] := by
        unfold nw
        refine Nat.dvd_trans ?_ (Nat.dvd_mul_left _ _)
        exact Nat.pow_dvd_pow 2 (show 12 ≤ b - (words p.a)[c6 % 3].length by lia)
      exact_mod_cast this
    have d2 : (4096 : Int) ∣ 2 ^ b := by
      have : (4096 : Nat) ∣ 2 ^ b := Nat.pow_dvd_pow 2 (show 12 ≤ b by exact dA hb rfl)
      exact_mod_cast this
    exact Int.dvd_add d1 (Int.dvd_trans d2 (Int.dvd_mul_left _ _))
  · have pc : (2 : Int) ^ b = ((2 ^ b : Nat) : Int) := by push_cast; rfl
    have hc : c6 / 3 < 3333334 := by lia
    rw [pc]
    generalize 2 ^ b = B at *
    generalize nw b (words p.a)[c6 % 3] = N at *
    have k1 : (((c6 / 3 : Nat) : Int) - 300) * (B : Int) ≤ 3333334 * 2 ^ 24 := by
      have : (((c6 / 3 : Nat) : Int) - 300) * (B : Int) ≤ 3333334 * (B : Int) := Int.mul_le_mul_of_nonneg_right (by lia) (by lia)
      lia
    have k2 : -(300 * 2 ^ 24) ≤ (((c6 / 3 : Nat) : Int) - 300) * (B : Int) := by
      have : -300 * (B : Int) ≤ (((c6 / 3 : Nat) : Int) - 300) * (B : Int) := Int.mul_le_mul_of_nonneg_right (by lia) (by lia)
      lia
    generalize (((c6 / 3 : Nat) : Int) - 300) * (B : Int) = W at *
    lia
end
section
open PySem PySem.W PyProof.Rows PySem.Calls PySem.SeqAt
noncomputable def lxS (M : Mem) (cs : List Nat) (ln : Int) (cits : Mem) : Mem := M ++ AObj.lst (cs.map sgAV) :: .ns (lexNs ln M.length (M.length + 2)) :: .lst [] :: cits
noncomputable abbrev hoSc : Names := (fdAt prog1 30).scope.names
noncomputable def cellsL (c0 c1 c2 c3 c4 c5 c6 c7 : Nat) : List AV := [.int c0, .int c1, .int c2, .int c3, .int c4, .int c5, .int c6, .int c7]
private theorem cnt_at (c : Nat) : 0 ≤ (c : Int).fmod 6 ∧ (c : Int).fmod 6 < 2 ^ 62 ∧ ([.int 2, .int 3, .int 2, .int 3, .int 3, .int 4] : List AV)[((c : Int).fmod 6).toNat]? = some (.int (cntF' c : Nat)) := by
  have h : c % 6 < 6 := Nat.mod_lt _ (by decide)
  have e : (c : Int).fmod 6 = ((c % 6 : Nat) : Int) := by rw [Int.fmod_eq_emod_of_nonneg _ (by decide)]; rfl
  rw [e, Int.toNat_natCast]
  refine ⟨by exact Int.natCast_nonneg _, by lia, ?_⟩
  unfold cntF'
  generalize c % 6 = k at h
  rcases k with _ | _ | _ | _ | _ | _ | k
  iterate 6 rfl
  exact absurd h (Nat.not_lt.mpr (Nat.le_add_left 6 k))
private theorem fdivN (c d : Nat) : (c : Int).fdiv (d : Int) = ((c / d : Nat) : Int) := by
  rw [Int.fdiv_eq_ediv_of_nonneg _ (Int.natCast_nonneg _)]; rfl
private theorem fmodN (c d : Nat) : (c : Int).fmod (d : Int) = ((c % d : Nat) : Int) := by
  rw [Int.fmod_eq_emod_of_nonneg _ (Int.natCast_nonneg _)]; rfl
section
variable {X : Amb} {D : Nat} {m M cits : Mem} {cs : List Nat} {ln : Int}
private theorem lxS_get (k : Nat) : (lxS M cs ln cits)[M.length + k]? = (AObj.lst (cs.map sgAV) :: .ns (lexNs ln M.length (M.length + 2)) :: .lst [] :: cits)[k]? := get_app M _ k
private theorem lxS_at (h1 : okS cs) (h2 : cs.length ≤ 100000) : LexAt (lxS M cs ln cits) (M.length + 1) ln M.length (M.length + 2) cs [] :=
  ⟨lxS_get 1, lxS_get 0, lxS_get 2, by exact Nat.ne_of_lt (Nat.lt_succ_self _), by lia, by lia, h1, h2, by decide⟩
private theorem lxS_tok (kn : KnL X) (hD : 7 ≤ D) (h1 : okS cs) (h2 : cs.length ≤ 100000) : ∃ c, Mt X (D + 1) "get_token" (lxS M cs ln cits) (lxS M cs ln cits) (.inst 133 (M.length + 1)) [] (.str (tokF cs).1) (lxS M (tokF cs).2.1 (ln + (cs.count 10 : Nat) - ((tokF cs).2.1.count 10 : Nat)) (cits ++ [c])) := by
  obtain ⟨mN, cl, lx⟩ := kn.cls
  have A := lxS_at (M := M) (cits := cits) (ln := ln) h1 h2
  refine ⟨.cit (if (tokF cs).2.2 then none else some (116, 133, M.length + 1)), ?_⟩
  have e : lxM (lxS M cs ln cits) (M.length + 1) (ln + (cs.count 10 : Nat)) M.length (M.length + 2) (tokF cs).2.2 (tokF cs).2.1 = lxS M (tokF cs).2.1 (ln + (cs.count 10 : Nat) - ((tokF cs).2.1.count 10 : Nat)) (cits ++ [.cit (if (tokF cs).2.2 then none else some (116, 133, M.length + 1))]) := by
    unfold lxM lxS
    rw [set_app0, set_app M _ 1, List.append_assoc]; rfl
  exact e ▸ .inst cl lx.gt kn.mg lo_gt A.ns rfl (op_gt kn hD A)
private theorem lexMem_lxS (t : List Nat) : lexMem M t = lxS M t 1 [] := by
  unfold lexMem sn lxS; rw [List.append_assoc, List.append_assoc]; rfl
end
end
section
open PySem PySem.W PyProof.Rows PySem.Calls PySem.SeqAt
private theorem row_c (c : Nat) : rowL ((c : Int).fdiv 6) (cntF' c) = rowA c ∧ rowL ((c : Int).fdiv 1536) (cntF' c) = rowB c := ⟨congrArg (fun z => rowL z (cntF' c)) (fdivN c 6), congrArg (fun z => rowL z (cntF' c)) (fdivN c 1536)⟩
private theorem sign_is (c4 : Nat) : (1 : Int) - 2 * ((c4 : Int).fdiv 5).fmod 2 = signI c4 := by
  have e : ((c4 : Int).fdiv 5).fmod 2 = ((c4 / 5 % 2 : Nat) : Int) := (congrArg (fun z => Int.fmod z 2) (fdivN c4 5)).trans (fmodN (c4 / 5) 2)
  rw [e]; rfl
private theorem bits_is (c4 : Nat) : (20 : Int) + (c4 : Int).fmod 5 = (bitsN c4 : Nat) := by
  have e : (c4 : Int).fmod 5 = ((c4 % 5 : Nat) : Int) := fmodN c4 5
  rw [e]; rfl
private theorem cnt_le4 (c : Nat) : cntF' c ≤ 1000 := by rcases cnt_cases c with h | h | h <;> lia
section
variable {X : Amb} {D : Nat} {m : Mem} {c0 c1 c2 c3 c4 c5 c6 c7 : Nat} {R : List (List Nat)} {P : RP}
noncomputable abbrev hoL (c0 c1 c2 c3 c4 c5 c6 c7 : Nat) (m : Mem) : Lc := bd "rows" (.mref m.length) (bd "cells" (.lst (cellsL c0 c1 c2 c3 c4 c5 c6 c7)) [])
private theorem ho_rows (kn : KnM X) (hD : 5 ≤ D) (hR : rowsK [c0, c1, c2] 3 = R) (h : wpS ⟨X, D + 1, hoSc, []⟩ 40 40 (((fdAt prog1 30).body.take 6).drop 2) (hoL c0 c1 c2 c3 c4 c5 c6 c7 m) (sn m (.lst (R.map .str))) P) : W X (D + 1) hoSc ((fdAt prog1 30).body.take 6) (bd "cells" (.lst (cellsL c0 c1 c2 c3 c4 c5 c6 c7)) []) m P := by
  have hD4 : 4 ≤ D + 1 := by exact dE hD rfl
  refine wpS_ok (G := ⟨X, D + 1, hoSc, []⟩) (n := 40) (k := 40) hD4 (W.forW (G := ⟨X, D + 1, hoSc, []⟩) (σ := Unit) (xs := [c0, c1, c2]) (f := fun (c : Nat) => .int c) (av := .lst (sl none (some 3) (cellsL c0 c1 c2 c3 c4 c5 c6 c7))) (m1 := sn m (.lst [])) hD4 ⟨.lst (by show 8 ≤ 2 ^ 24; decide), .mk⟩ (.lst' rfl) (fun zz zz => hoL c0 c1 c2 c3 c4 c5 c6 c7 m) (fun k zz => sn m (.lst ((rowsK [c0, c1, c2] k).map .str))) (fun zz zz => True) (.mk () trivial rfl (.rf rfl)) (fun k c s hx zz => ?_) (fun s zz => ?_) (fun zz zz => rfl))
  · have hk : k < 3 := (List.getElem?_eq_some_iff.mp hx).1
    have hz := rowsK_len [c0, c1, c2] k
    obtain ⟨i0, i1, i2⟩ := cnt_at c
    have hc := cnt_le4 c
    have e : rowsK [c0, c1, c2] (k + 1) = rowsK [c0, c1, c2] k ++ [rowL ((c : Int).fdiv 6) (cntF' c), rowL ((c : Int).fdiv 1536) (cntF' c)] := by
      rw [rowsK_succ hx, (row_c c).1, (row_c c).2]
    exact ⟨_, .name rfl, ⟨.mod (by decide), .lst i0 i1 i2, .div (by decide) (by decide), op_row kn.toKn (Nat.le_of_lt hD) hc, .div (by decide) (by decide), op_row kn.toKn (Nat.le_of_lt hD) hc, .extend (m3 := sn m (.lst ((rowsK [c0, c1, c2] (k + 1)).map .str))) (sn_get _ _) (sn_get _ _) (by rw [List.length_map]; show _ + 2 ≤ _; lia) ((sn_set ..).trans (congrArg (fun z => sn m (.lst z)) (by rw [e, List.map_append]; rfl))), .mk (.mk () trivial rfl (.rf rfl))⟩⟩
  · exact hR ▸ h
private theorem file_len {st : Int} (hRb : ∀ x ∈ R, okS x ∧ x.length ≤ 8) : (((List.range 6).map fun k => writtenF (R.getD k []) (styleF st k)).map List.length).sum ≤ 114 := by
  rw [List.map_map]
  exact sum_le _ 19 (List.range 6) fun k zz => (file_small R st hRb).2 k
private theorem ho_file (kn : KnM X) (hD : 5 ≤ D) (hRl : R.length = 6) (hRb : ∀ x ∈ R, okS x ∧ x.length ≤ 8) (h : wpS ⟨X, D + 1, hoSc, []⟩ 40 40 (((fdAt prog1 30).body.take 6).drop 3) (bd "file" (.str (fileF R c3)) (hoL c0 c1 c2 c3 c4 c5 c6 c7 m)) (sn m (.lst (R.map .str))) P) :
    wpS ⟨X, D + 1, hoSc, []⟩ 40 40 (((fdAt prog1 30).body.take 6).drop 2) (hoL c0 c1 c2 c3 c4 c5 c6 c7 m) (sn m (.lst (R.map .str))) P := by
  have hD4 : 4 ≤ D + 1 := by exact dE hD rfl
  have hl := file_len (st := c3) hRb
  refine OkE.map (G := ⟨X, D + 1, hoSc, []⟩) (xs := List.range 6) (f := fun (i : Nat) => .int i) (av := .rng 0 ((6 : Nat) : Int)) (m1 := sn m (.lst (R.map .str))) hD4 (by rfl) (fun zz zz => rfl) ⟨.t (kn.bu "range" _ rfl) .range, .mk⟩ (.rng' (by decide)) (by decide) (fun k => .str (writtenF (R.getD k []) (styleF c3 k))) (fun k hk => ?_) ⟨.join' (zs := (List.range 6).map fun k => writtenF (R.getD k []) (styleF c3 k)) (by rw [List.map_map]; rfl) (by lia), .neg, .str (by rw [List.length_flatten]; lia), ?_⟩
  · have hk : k < 6 := List.mem_range.mp hk
    have hkr : k < R.length := by lia
    obtain ⟨row, hrow⟩ : ∃ r, R[k]? = some r := ⟨_, List.getElem?_eq_getElem hkr⟩
    have er : R.getD k [] = row := by rw [List.getD_eq_getElem?_getD, hrow]; rfl
    have rz : (R.getD k []).length ≤ 8 := er.symm ▸ (hRb row (List.mem_of_getElem? hrow)).2
    exact ⟨_, .name rfl, .mut (sn_get _ _) (Int.natCast_nonneg _) (by lia) (by show (R.map AV.str)[k]? = _; rw [List.getElem?_map, hrow, er]; rfl), .lst (by decide) (by decide) rfl, .mul (.inl (by decide)), .shr (by lia), op_written kn.toKn (by lia) (s := styleF c3 k) (by lia), .mk⟩
  · exact sl_dropLast _ ▸ h
noncomputable abbrev hoA (R : List (List Nat)) (b : Nat) (sign : Int) (cells : List AV) : Lc := bd "heard" (.lst ((R ++ [[], []]).map .str)) (bd "bits" (.int b) (bd "sign" (.int sign) (bd "cells" (.lst cells) [])))
private theorem ho_heard (kn : KnM X) (hD : 30 ≤ D ∧ D ≤ 480) (hRl : R.length = 6) (hRb : ∀ x ∈ R, okS x ∧ x.length ≤ 8) (hRt : toksF 8 (fileF R c3) = (R ++ [[], []], [])) (hh : hiddenF R c3 = true) (h : ∀ L ms, Sub0 (hoA R (bitsN c4) (signI c4) (cellsL c0 c1 c2 c3 c4 c5 c6 c7)) L → P .next L (m ++ ms)) :
    wpS ⟨X, D + 1, hoSc, []⟩ 40 40 (((fdAt prog1 30).body.take 6).drop 3) (bd "file" (.str (fileF R c3)) (hoL c0 c1 c2 c3 c4 c5 c6 c7 m)) (sn m (.lst (R.map .str))) P := by
  have hD4 : 4 ≤ D + 1 := by exact dE hD.1 rfl
  obtain ⟨mN, cl, lx⟩ := kn.cls
  have hfl : (fileF R c3).length ≤ 114 := by
    have := file_len (st := c3) hRb
    unfold fileF
    rw [List.length_dropLast, List.length_flatten]; lia
  have hfo := (file_small R c3 hRb).1
  generalize fileF R c3 = file at hfl hfo hRt ⊢
  have hM : (sn m (.lst (R.map .str))).length = m.length + 1 := sn_len _ _
  refine W.tup (G := ⟨X, D + 1, hoSc, []⟩) (xs := ["lexer", "bits", "sign"]) hD4 rfl rfl (.cons rfl (.cons rfl (.cons rfl .nil))) ⟨op_lexer kn (by lia) (t := file) (by lia), .lst (by decide) (by decide) rfl, .mod (by decide), .lst (by decide) (by decide) rfl, .div (by decide) (by decide), .mod (by decide), .mul (.inl (by decide)), .mk rfl ?_⟩
  rw [lexMem_lxS]
  refine W.lcA (G := ⟨X, D + 1, hoSc, []⟩) (xs := List.range 8) (f := fun (i : Nat) => .int i) (av := .rng 0 ((8 : Nat) : Int)) (m1 := lxS (sn m (.lst (R.map .str))) file 1 []) hD4 (by rfl) (fun zz zz => rfl) ⟨.t (kn.bu "range" _ rfl) .range, .mk⟩ (.rng' (by decide)) (fun k ys m' => ys = (toksF k file).1.map .str ∧ ∃ cits, m' = lxS (sn m (.lst (R.map .str))) (toksF k file).2 (1 + (file.count 10 : Nat) - ((toksF k file).2.count 10 : Nat)) cits) (by decide) ⟨rfl, [], congrArg (fun z => lxS (sn m (.lst (R.map .str))) file z []) (show (1 : Int) = 1 + (file.count 10 : Nat) - (file.count 10 : Nat) by lia)⟩ (fun k x ys m' hx hI => ?_) (b := true) (by rfl) rfl (fun ys m' hI => ?_)
  · obtain ⟨rfl, cits, rfl⟩ := hI
    obtain ⟨o1, o2⟩ := toks_at hfo (Nat.le_trans hfl (by decide)) k
    obtain ⟨c, hc⟩ := lxS_tok (X := X) (D := D) (M := sn m (.lst (R.map .str))) (cits := cits) (ln := 1 + (file.count 10 : Nat) - ((toksF k file).2.count 10 : Nat)) kn.toKnL (by lia) o1 o2
    refine ⟨_, .name rfl, .t rfl ⟨hc, ?_, cits ++ [c], ?_⟩⟩
    · rw [toks_succ, List.map_append]; rfl
    · rw [toks_succ]; exact congrArg (fun z => lxS _ _ z _) (by lia)
  · obtain ⟨e1, cits, e2⟩ := hI
    have e8 : toksF (List.range 8).length file = (R ++ [[], []], []) := hRt
    rw [e8] at e1 e2
    have hln : (1 : Int) + (file.count 10 : Nat) - ((([] : List Nat).count 10 : Nat) : Int) = 1 + (file.count 10 : Nat) := Int.sub_zero _
    have hm : lxS (sn m (.lst (R.map .str))) [] (1 + (file.count 10 : Nat) - ((([] : List Nat).count 10 : Nat) : Int)) cits = m ++ ([.lst (R.map .str)] ++ _) := List.append_assoc ..
    have hrow : m'[m.length]? = some (.lst (R.map .str)) := by rw [e2, hm]; exact get_app0 m _
    have hns := lxS_get (M := sn m (.lst (R.map .str))) (cs := []) (ln := 1 + (file.count 10 : Nat) - ((([] : List Nat).count 10 : Nat) : Int)) (cits := cits) 1
    rw [← e2] at hns
    have ok : ∀ l ∈ R ++ [[], []], okS l := fun l hl => (List.mem_append.mp hl).elim (fun h => (hRb l h).1) fun h => by
      rcases List.mem_cons.mp h with h | h
      · exact h ▸ okS_nil
      · exact List.mem_singleton.mp h ▸ okS_nil
    have e3 : R.map AV.str ++ [.str [], .str []] = (R ++ [[], []]).map .str := by rw [List.map_append]; rfl
    have hh2 : hiddenF R c3 = true := hh
    have oh := op_hidden (D := D) (m := m') kn.toKn (by lia) (styles := c3) hrow hRl fun r hr => ⟨Nat.le_trans (hRb r hr).2 (by decide), (hRb r hr).1⟩
    rw [hh2] at oh
    subst e1
    refine ⟨.addML hrow (by rw [List.length_map]; show _ + 2 ≤ _; lia), .ne (b := true) (.lst (RdsAll.strs _)) (.lst (e3 ▸ RdsAll.strs _)) (shaped_strs ok) (shaped_strs ok) (eqv_ss.trans (decide_eq_true rfl)) hD4, fun zz => .mk (.attr cl lx.lineno lo_lineno (.var rfl) hns rfl trivial fun zz => rfl) ⟨.count, fun zz => ⟨.lst (by decide) (by decide) rfl, oh, .mk⟩, .mk⟩, .f (congrArg (fun z => (!true || (!z || !true))) (decide_eq_true hln)) ?_⟩
    exact e2 ▸ hm ▸ h _ _ (.cons rfl (.cons (congrArg (fun z => some (AV.int z)) (bits_is c4)) (.cons (congrArg (fun z => some (AV.int z)) (sign_is c4)) (.cons rfl .nil))))
end
end
section
open PySem PySem.W PyProof.Rows PySem.Calls PySem.SeqAt
private theorem ItV.tup' {X : Amb} {D : Nat} {tgt : Expr} {m : Mem} {xs ys : List AV} (e : xs = ys) : ItV X D tgt m (.tup xs) ys := e ▸ .tup
noncomputable def pAV (p : Pr) (b : Nat) : AV := .lst [.lst ((stL p.a b).map .int), .lst ((stL p.b b).map .int)]
noncomputable def svAV (q0 q1 q2 p : Pr) (b : Nat) : AV := .lst [pAV q0 b, pAV q1 b, pAV q2 b, pAV p b]
section
variable {X : Amb} {D : Nat} {m : Mem} {c0 c1 c2 c3 c4 c5 c6 c7 : Nat} {p q r e g : Pr} {b : Nat} {sign : Int} {P : RP}
private theorem op_timesP (kn : KnM X) (hD : 26 ≤ D ∧ D ≤ 500) {one two e : Pr} (h1 : one.ok 12) (h2 : two.ok 12) (h : timesF one two = (rowT e.a, rowT e.b)) : Fn X (D + 1) "_law_times" m [one.av, two.av] e.av m := by
  have := op_times (m := m) kn hD (Pr.ok_mono h1 (by decide)) (Pr.ok_mono h2 (by decide))
  rw [h] at this; exact this
private theorem op_movedP (kn : KnB X) (hD : 20 ≤ D) {point : Int} {l : List Int} (h : p.mv b point sign = some l) : Fn X (D + 1) "_law_moved" m [pAV p b, .int point, .int (2 ^ b), .int sign] (.lst (l.map .int)) m := op_moved kn hD h
private theorem op_ledP (kn : Kn X) (hD : 5 ≤ D) (ok : p.ok 12) (hb : b ≤ 100) {point : Int} {l : List Int} (h : ledF (rowT p.a) (rowT p.b) point b = some l) : Fn X (D + 1) "_law_led" m [p.av, .int point, .int b] (.lst (l.map .int)) m := by
  have hz := Pr.szb ok
  have ha := ok.2
  exact op_led kn hD (by rw [rowT_len]; lia) (okS_row _) (by rw [rowT_len]; lia) (okS_row _) hb h
private theorem op_startsT (kn : Kn X) (hD : 50 ≤ D ∧ D ≤ 500) {T : Tr} (h1 : T.sz ≤ 12) (h2 : 20 ≤ b) : ∃ xs : List Int, Fn X (D + 1) "_law_starts" m [.str (rowT T), .int 0, .int (2 ^ b)] (.lst (xs.map .int)) m ∧ xs ++ [2 ^ b] = stL T b ∧ xs.length ≤ 13 := by
  have e := starts_go 30 T 0 b (by lia) (by lia)
  rw [show ((2 ^ b : Nat) : Int) = 2 ^ b from Int.natCast_pow 2 b] at e
  refine ⟨startsF 30 (rowT T) 0 (2 ^ b), op_starts kn 30 (by decide) hD (by rw [rowT_len]; lia) (okS_row T), ?_, ?_⟩
  · rw [e]
    exact congrArg (· ++ [(2 : Int) ^ b]) (List.map_congr_left fun w zz => Int.zero_add _)
  · rw [e, List.length_map, words_len, lv_sz]; exact Nat.succ_le_succ h1
noncomputable abbrev hoB (p q r g : Pr) (b : Nat) (sign : Int) (cells : List AV) : Lc := bd "starts" (svAV p q r g b) (bd "pairs" (.lst [p.av, q.av, r.av]) (bd "unit" (.int (2 ^ b)) (bd "sign" (.int sign) (bd "bits" (.int b) (bd "cells" (.lst cells) [])))))
noncomputable def hoPt : List Stmt := inBody (fdAt prog1 30).body 11
private theorem neInts {l : List Int} (hD : 4 ≤ D) : Bin X D (compareOp .NotEq) m (.lst (l.map .int)) (.lst (l.map .int)) (.bool false) := .ne (b := true) (.lst (RdsAll.ints _)) (.lst (RdsAll.ints _)) (shaped_ints _) (shaped_ints _) (eqv_is.trans (decide_eq_true rfl)) hD
private theorem ho_point (kn : KnM X) (hD : 30 ≤ D ∧ D ≤ 480) {cells : List AV} {vs : Nat → Int} {pt : Int} (hpt : vs 0 = pt) (hb : b ≤ 100) (C : Chain p q r g b sign vs) (h : ∀ L, Sub0 (hoB p q r g b sign cells) L → P .next L m) : wpS ⟨X, D + 1, hoSc, []⟩ 40 40 hoPt (bd "point" (.int pt) (hoB p q r g b sign cells)) m P := by
  subst hpt
  have hD4 : 4 ≤ D + 1 := by exact dE hD.1 rfl
  refine W.forW (G := ⟨X, D + 1, hoSc, []⟩) (σ := Unit) (xs := List.range 3) (f := fun (i : Nat) => .int i) (av := .rng 0 ((3 : Nat) : Int)) (m1 := m) hD4 ⟨.t (kn.bu "range" _ rfl) .range, .mk⟩ (.rng' (by decide)) (fun k zz => bd "via" (.int (vs k)) (bd "point" (.int (vs 0)) (hoB p q r g b sign cells))) (fun zz zz => m) (fun zz zz => True) (.mk () trivial rfl (.rf rfl)) (fun k x s hx zz => ?_) (fun s zz => ?_) (fun zz zz => rfl)
  · cases range_at hx
    have hk : k < 3 := by have := (List.getElem?_eq_some_iff.mp hx).1; rwa [List.length_range] at this
    obtain ⟨x, x1, x2, x3⟩ : ∃ x, [p, q, r][k]? = some x ∧ [p.av, q.av, r.av][k]? = some x.av ∧ [pAV p b, pAV q b, pAV r b, pAV g b][k]? = some (pAV x b) := by
      match k, hk with
      | 0, _ => exact ⟨p, rfl, rfl, rfl⟩
      | 1, _ => exact ⟨q, rfl, rfl, rfl⟩
      | 2, _ => exact ⟨r, rfl, rfl, rfl⟩
    obtain ⟨ok, i, l1, l2⟩ := C.led k x x1
    exact ⟨_, .name rfl, ⟨.lst (Int.natCast_nonneg _) (by lia) x2, op_ledP kn.toKn (dA hD.1 rfl) ok hb l1, .lst (Int.natCast_nonneg _) (by lia) x3, op_movedP kn.toKnB (dA hD.1 rfl) l2, neInts hD4, .f rfl ⟨.lst (by decide) (by decide) rfl, .mk () trivial rfl (.rf rfl)⟩⟩⟩
  · obtain ⟨i, l2⟩ := C.whole
    exact ⟨.lst (by decide) (by decide) rfl, op_movedP kn.toKnB (dA hD.1 rfl) l2, .lst (by show 3 ≤ 2 ^ 24; decide), neInts (l := [vs 3, 0]) hD4, .f rfl (h _ (.rf rfl))⟩
private theorem okS_av (p : Pr) : ∀ l ∈ [rowT p.a, rowT p.b], okS l := fun l hl => (List.mem_cons.mp hl).elim (fun h => h ▸ okS_row _) fun h => List.mem_singleton.mp h ▸ okS_row _
private theorem neAv (hD : 4 ≤ D) : Bin X D (compareOp .NotEq) m p.av p.av (.bool false) := .ne (b := true) (.lst (RdsAll.strs [rowT p.a, rowT p.b])) (.lst (RdsAll.strs [rowT p.a, rowT p.b])) (shaped_strs (okS_av p)) (shaped_strs (okS_av p)) (eqv_ss.trans (decide_eq_true rfl)) hD
private theorem pt_1 (h : p.good) : 0 ≤ (c6 : Int).fmod 3 ∧ (c6 : Int).fmod 3 < 2 ^ 62 ∧ ((stL p.a b).map AV.int)[((c6 : Int).fmod 3).toNat]? = some (.int ((stL p.a b).getD (c6 % 3) 0)) := by
  have e : (c6 : Int).fmod 3 = ((c6 % 3 : Nat) : Int) := fmodN c6 3
  have hl := stL_len p.a b
  have h1 := h.1.2
  have h2 := h.2.1
  have hi : c6 % 3 < (stL p.a b).length := by
    have := lv_sz p.a
    rw [hl]; lia
  rw [e, Int.toNat_natCast, List.getElem?_map, List.getD_eq_getElem?_getD, List.getElem?_eq_getElem hi]
  exact ⟨by exact Int.natCast_nonneg _, by lia, rfl⟩
private theorem ho_mid2 (kn : KnM X) (hD : 60 ≤ D ∧ D ≤ 480) (gp : p.good) (gq : q.good) (gr : r.good) (hP : Prods p q r e g) (hb1 : 20 ≤ b) (hb2 : b ≤ 24) (hsg : sign = 1 ∨ sign = -1) (b5 : c5 < 10000000) (b6 : c6 < 10000000) {pv : AV} {u : Int} (hp : pv = .lst [p.av, q.av, r.av]) (hu : u = 2 ^ b) {cells : List AV} (hc : cells = cellsL c0 c1 c2 c3 c4 c5 c6 c7)
    (h : ∀ L, Sub0 (hoB p q r g b sign cells) L → P .next L m) : wpS ⟨X, D + 1, hoSc, []⟩ 40 40 (((fdAt prog1 30).body.take 12).drop 7) (bd "unit" (.int u) (bd "pairs" pv (hoA (p.rows ++ q.rows ++ r.rows) b sign cells))) m P := by
  subst hp
  subst hu
  subst hc
  have hD4 : 4 ≤ D + 1 := by exact dE hD.1 rfl
  have o1 : p.ok 12 := good_ok gp
  have o2 : q.ok 12 := good_ok gq
  have o3 : r.ok 12 := good_ok gr
  have oe : e.ok 12 := Pr.ok_mono hP.oe (by decide)
  obtain ⟨w, ow, t1, t2⟩ := hP.t3
  have ow : w.ok 12 := Pr.ok_mono ow (by decide)
  refine ⟨.lst (by decide) (by decide) rfl, .lst (by decide) (by decide) rfl, op_timesP kn (⟨dA hD.1 rfl, dB hD.2 rfl⟩) o1 o2 hP.t1, .lst (by decide) (by decide) rfl, op_timesP kn (by lia) oe o3 hP.t2, .lst (by decide) (by decide) rfl, .lst (by decide) (by decide) rfl, .lst (by decide) (by decide) rfl, op_timesP kn (by lia) o2 o3 t1, op_timesP kn (by lia) o1 ow t2, neAv hD4, fun zz => ⟨.lst (by decide) (by decide) rfl, .neg, .rev (by show 2 ≤ 2 ^ 24; decide), op_timesP (two := r.sw) kn (by lia) hP.ok (Pr.ok_sw o3) hP.t4, neAv hD4, .mk⟩, .f rfl ?_⟩
  have hin : ∀ T : Tr, T.sz ≤ 12 → ∃ xs : List Int, Fn X (D + 1) "_law_starts" m [.str (rowT T), .int 0, .int (2 ^ b)] (.lst (xs.map .int)) m ∧ xs ++ [2 ^ b] = stL T b ∧ xs.length ≤ 13 := fun T hT => op_startsT kn.toKn (⟨dA hD.1 rfl, dB hD.2 rfl⟩) hT hb1
  refine W.mapA (G := ⟨X, D + 1, hoSc, []⟩) (xs := [p, q, r, g]) (f := Pr.av) (av := .lst ([p.av, q.av, r.av] ++ [g.av])) (m1 := m) hD4 (by rfl) (fun zz zz => rfl) ⟨.addL (by show 3 + 1 ≤ 2 ^ 24; decide), .mk⟩ .lst (by show 4 ≤ 2 ^ 23; decide) (fun P => pAV P b) (fun P hP' => ⟨_, .name rfl, ?_⟩) (b := false) (by rfl) rfl ?_
  · have ok : P.ok 12 := by
      rcases List.mem_cons.mp hP' with h | hP'
      · exact h ▸ o1
      rcases List.mem_cons.mp hP' with h | hP'
      · exact h ▸ o2
      rcases List.mem_cons.mp hP' with h | hP'
      · exact h ▸ o3
      · exact List.mem_singleton.mp hP' ▸ hP.ok
    refine OkE.map (G := ⟨X, D + 1, relN _ _, _⟩) (xs := [P.a, P.b]) (f := fun T => .str (rowT T)) (av := P.av) (m1 := m) hD4 (by rfl) (fun zz zz => rfl) .mk (.lst' rfl) (by show 2 ≤ 2 ^ 23; decide) (fun T => .lst ((stL T b).map .int)) (fun T hT => ⟨_, .name rfl, ?_⟩) .mk
    have hz : T.sz ≤ 12 := (List.mem_cons.mp hT).elim (fun h => h ▸ ok.2) fun h => List.mem_singleton.mp h ▸ Pr.szb ok
    obtain ⟨xs, x1, x2, x3⟩ := hin T hz
    exact ⟨x1, .addL (by rw [List.length_map]; show _ + 1 ≤ _; exact dF x3 rfl), x2 ▸ (by rw [List.map_append]; exact .mk)⟩
  · obtain ⟨⟨w0, x0, q0⟩, y0⟩ := pt0 hb1 b5
    obtain ⟨⟨w1, x1, q1⟩, y1⟩ := pt1 gp hb1 hb2 b6
    obtain ⟨va, va0, Ca⟩ := chain_of gp gq gr hP hb1 (dB hb2 rfl) hsg q0 y0
    obtain ⟨vb, vb0, Cb⟩ := chain_of gp gq gr hP hb1 (dB hb2 rfl) hsg q1 y1
    obtain ⟨j0, j1, j2⟩ := pt_1 (b := b) (c6 := c6) gp
    have e3 : (c6 : Int).fdiv 3 = ((c6 / 3 : Nat) : Int) := fdivN c6 3
    have hb : b ≤ 100 := by exact dB hb2 rfl
    refine W.forW (G := ⟨X, D + 1, hoSc, []⟩) (σ := Unit) (xs := [point0 c5, point1 p b c6]) (f := .int) (av := .tup [.int (point0 c5), .int ((stL p.a b).getD (c6 % 3) 0 + ((c6 : Int).fdiv 3 - 300) * 2 ^ b)]) (m1 := m) hD4 ⟨.lst (by decide) (by decide) rfl, .shl (by decide) (by decide) (Nat.lt_of_lt_of_le (show ((c5 : Int) - 1000000).natAbs < 2 ^ 24 by omega) (Nat.pow_le_pow_right (by decide) (by decide))), .lst (by decide) (by decide) rfl, .lst (by decide) (by decide) rfl, .lst (by decide) (by decide) rfl, .mod (by decide), .lst j0 j1 j2, .lst (by decide) (by decide) rfl, .div (by decide) (by decide), .mul (.inl (by rw [e3]; omega)), .mk⟩ (.tup' (congrArg (fun z => [AV.int (point0 c5), .int ((stL p.a b).getD (c6 % 3) 0 + (z - 300) * 2 ^ b)]) e3)) (fun zz zz => hoB p q r g b sign (cellsL c0 c1 c2 c3 c4 c5 c6 c7)) (fun zz zz => m) (fun zz zz => True) (.mk () trivial rfl (.rf rfl)) (fun k x s hx zz => ?_) (fun s zz => h _ (.rf rfl)) (fun zz zz => rfl)
    match k, hx with
    | 0, hx =>
      cases hx
      exact ⟨_, .name rfl, ho_point kn (⟨dA hD.1 rfl, hD.2⟩) va0 hb Ca fun L hL => .mk () trivial rfl hL⟩
    | 1, hx =>
      cases hx
      exact ⟨_, .name rfl, ho_point kn (by lia) vb0 hb Cb fun L hL => .mk () trivial rfl hL⟩
end
end
section
open PySem PySem.W PyProof.Rows PySem.Calls PySem.SeqAt
set_option backward.match.sparseCases false in
noncomputable def lamKey : LamS := match holdsBody[12]? with
  | some (Stmt.Assign _ (PySem.Expr.Tuple [_, PySem.Expr.Lambda params body scope _] _ _) _) => ⟨body, params, scope⟩
  | _ => ⟨.Constant .none 0 default, ⟨[], [], none, [], [], none, []⟩, default⟩
set_option backward.match.sparseCases false in
noncomputable def spotE : PySem.Expr := match holdsBody[12]? with
  | some (Stmt.Assign _ (PySem.Expr.Tuple [e, _] _ _) _) => e
  | _ => .Constant .none 0 default
structure KeyOk (p : Pr) (b : Nat) (sign : Int) : Prop where
  ok : p.ok 12
  lo : 20 ≤ b
  hi : b ≤ 29
  zb : ∀ x, zb 4 x → zb b (p.f x)
  sg : sign = 1 ∨ sign = -1
noncomputable def placesAV : List AV := (List.range 16).map fun (i : Nat) => .int i
section
variable {X : Amb} {D : Nat} {m : Mem} {p q r g : Pr} {b : Nat} {sign : Int} {P : RP} {cells : List AV} {c7 : Nat}
private theorem shl_ok {s : Nat} (k : KeyOk p b sign) (hs : s < 16) : 0 ≤ (b : Int) - 4 ∧ (b : Int) - 4 ≤ 1000 ∧ (s : Int).natAbs < 2 ^ 1000 ∧ ((b : Int) - 4).toNat = b - 4 := by
  have h1 := k.lo
  have h2 := k.hi
  exact ⟨Int.sub_nonneg_of_le (Int.ofNat_le.mpr (dA h1 rfl)), Int.le_trans (Int.sub_le_self _ (by decide)) (Int.ofNat_le.mpr (dB h2 rfl)), Nat.lt_of_lt_of_le (show (s : Int).natAbs < 2 ^ 4 by exact hs) (Nat.pow_le_pow_right (by decide) (by decide)), Int.toNat_sub b 4⟩
private theorem key_op (kn : KnB X) (hD : 20 ≤ D) {f : Addr} {fo : Obj} {cd : Value} {cl : List (Str × Addr)} (hm : X.B.h f = some (.frz fo)) (hf : LamO lamKey.params lamKey.body lamKey.scope "_law_holds.<locals>.<lambda>" cl fo cd) (hc : CodeRecM X.B cd "_law_holds.<locals>.<lambda>") {L : Lc} (Fv : FreeK X.B lamKey.scope.names cl L) (hL : Sub0 (bd "starts" (svAV p q r g b) (bd "bits" (.int b) (bd "unit" (.int (2 ^ b)) (bd "sign" (.int sign) [])))) L)
    (k : KeyOk g b sign) {s : Nat} (hs : s < 16) : FnV X (D + 2) (.ext (.ref f)) m [.int s] (.int (keyN g b s)) m := by
  obtain ⟨pm, ct, rfl⟩ := hf
  obtain ⟨i, h⟩ := key_moved k.ok ⟨k.lo, k.hi⟩ k.zb k.sg hs
  obtain ⟨z0, z1, z2, z3⟩ := shl_ok k hs
  have e : (s : Int) * 2 ^ ((b : Int) - 4).toNat = (s : Int) * 2 ^ (b - 4) := by rw [z3]
  refine .ob hm rfl (callLam (avs := [.int s]) (ps := ["place"]) (fvs := bd "starts" (svAV p q r g b) (bd "bits" (.int b) (bd "unit" (.int (2 ^ b)) (bd "sign" (.int sign) [])))) hm rfl hc rfl rfl rfl kn.lim (cloOk (by rfl)) (Fv.weak hL) (fun vs h => by obtain ⟨a, rfl⟩ := List.length_eq_one_iff.mp h; rfl) rfl ?_)
  exact .wp (G := ⟨X, D + 1, _, []⟩) (k := 40) (dE hD rfl) ⟨.lst (by decide) (by decide) rfl, .shl z0 z1 z2, e ▸ op_movedP kn (hD) h, .lst (by decide) (by decide) rfl, .mk⟩
private theorem places_at {s : Nat} (h : s < 16) : placesAV[s]? = some (.int (s : Nat)) := by
  unfold placesAV
  rw [List.getElem?_map, List.getElem?_range h]; rfl
private theorem eqInts {a b : List Int} (hD : 4 ≤ D) (h : a = b) : Bin X D (compareOp .Eq) m (.lst (a.map .int)) (.lst (b.map .int)) (.bool true) := .eq (.lst (RdsAll.ints _)) (.lst (RdsAll.ints _)) (shaped_ints _) (shaped_ints _) (eqv_is.trans (decide_eq_true h)) hD
private theorem placesArr {i : Nat} (hm : m[i]? = some (.lst placesAV)) : Arr X D m (.mref i) 16 (fun i => i) := ⟨.lenM hm (by decide), fun j hj => .mut hm (Int.natCast_nonneg _) (by lia) (places_at hj)⟩
section
variable {sc : Names} {L : Lc} {f : Addr} {i sp : Nat} {p0 p1 p2 p3 kp pos : Pos}
private theorem key_bisL (kn : KnB X) (hD : 4 ≤ D) (k : KeyOk g b sign) (hs : sp < 16) (hm : m[i]? = some (.lst placesAV)) (hk : ∀ s, s < 16 → FnV X D (.ext (.ref f)) m [.int (s : Nat)] (.int (keyN g b s)) m) (hx : sc.lookup ("bisect_left" : Str) = some .globalImplicit) (h1 : L.lookup ("places" : Str) = some (.mref i)) (h2 : L.lookup ("image" : Str) = some (.int (keyN g b sp))) (h3 : L.lookup ("key" : Str) = some (.ext (.ref f))) :
    PE X (D + 1) sc (.Call (.Name "bisect_left" p0) [.Name "places" p1, .Name "image" p2] [⟨some "key", .Name "key" p3, kp⟩] pos) L m (.int sp) m := by
  have e := bis_left (ks := keyL g b) keyL_len hs (keyL_mono k.ok ⟨k.lo, k.hi⟩ k.zb)
  rw [keyL_at hs, keyL_len] at e
  have pe := op_bisLk (m0 := m) (m1 := m) (p := p0) (pos := pos) (kp := kp) (ke := .Name "key" p3) (x := keyN g b sp) (ks := fun i => (keyL g b).getD i 0) kn hD (placesArr hm) (by decide) (fun j hj => by rw [keyL_at hj]; exact hk j hj) hx (fun zz => rfl) ((PA.cons (e := .Name "places" p1) (fun zz => rfl) (.var h1) (.cons (e := .Name "image" p2) (fun zz => rfl) (.var h2) .nil)).v) (.var h3)
  rw [e] at pe; exact pe
private theorem key_bisR (kn : KnB X) (hD : 4 ≤ D) (k : KeyOk g b sign) (hs : sp < 16) (hm : m[i]? = some (.lst placesAV)) (hk : ∀ s, s < 16 → FnV X D (.ext (.ref f)) m [.int (s : Nat)] (.int (keyN g b s)) m) (hx : sc.lookup ("bisect_right" : Str) = some .globalImplicit) (h1 : L.lookup ("places" : Str) = some (.mref i)) (h2 : L.lookup ("image" : Str) = some (.int (keyN g b sp))) (h3 : L.lookup ("key" : Str) = some (.ext (.ref f))) :
    PE X (D + 1) sc (.Call (.Name "bisect_right" p0) [.Name "places" p1, .Name "image" p2] [⟨some "key", .Name "key" p3, kp⟩] pos) L m (.int (sp + 1 : Nat)) m := by
  have e := bis_right (ks := keyL g b) keyL_len hs (keyL_mono k.ok ⟨k.lo, k.hi⟩ k.zb)
  rw [keyL_at hs, keyL_len] at e
  have pe := op_bisRk (m0 := m) (m1 := m) (p := p0) (pos := pos) (kp := kp) (ke := .Name "key" p3) (x := keyN g b sp) (ks := fun i => (keyL g b).getD i 0) kn hD (placesArr hm) (by decide) (fun j hj => by rw [keyL_at hj]; exact hk j hj) hx (fun zz => rfl) ((PA.cons (e := .Name "places" p1) (fun zz => rfl) (.var h1) (.cons (e := .Name "image" p2) (fun zz => rfl) (.var h2) .nil)).v) (.var h3)
  rw [e] at pe; exact pe
end
private theorem ho_tail (kn : KnM X) (hD : 40 ≤ D ∧ D ≤ 480) (k : KeyOk g b sign) (hc : cells[7]? = some (.int c7)) (hP : ∀ L, P (.ret (.bool true)) L (sn m (.lst placesAV))) : WE X (D + 3) hoSc (.ref 215) "_law_holds.<locals>." ((fdAt prog1 30).body.drop 12) (hoB p q r g b sign cells) m P := fun env own A c e1 e2 T Q E kk => by
  have hD4 : 4 ≤ D + 3 := by exact dE hD.1 rfl
  have hs16 : c7 % 16 < 16 := Nat.mod_lt _ (by decide)
  have hsp : (c7 : Int).fmod 16 = ((c7 % 16 : Nat) : Int) := fmodN c7 16
  generalize c7 % 16 = sp at hs16 hsp
  have ev : PE X (D + 3) hoSc spotE (hoB p q r g b sign cells) m (.int sp) m := .wp (G := ⟨X, D + 3, hoSc, []⟩) (k := 40) hD4 ⟨.lst (by decide) (by decide) hc, .mod (by decide), hsp ▸ .mk⟩
  refine wpAny_execs_cons (Assign_Tuple_swapped (names := ["spot", "key"]) (wpAny_Tuple (wpAny_items_cons (ev.go T fun v1 d1 l1 F1 r1 => ?_) rfl)) rfl (swStores (by rfl) env T.F.N.names T.F.N.kind))
  refine wpAny_items_cons (lamGo true kn.s_holds (T.on F1) e1 (by rw [e2]) rfl rfl (by decide) ⟨_, .head _, rfl⟩ fun f d2 fo cd md F2 => wpAny_items_nil ⟨by simp [sizeLine_is], ?_⟩) rfl
  have g3 := Got.newTup md.h (.cons (r1.up md.l) (.one (.ext (.ref f)))) d2.s.toks
  refine (F2.keep g3.l g3.h).rev (xs := ["spot", "key"]) (avs := [.int sp, .ext (.ref f)]) g3.r rfl (fun x hx => T.T x (by revert x; decide)) T.R.1 fun d4 l4 F4 => ?_
  obtain ⟨X', own', c', gv⟩ := (T.on F4).give (names := lamKey.scope.names) (by rfl)
  have lf : d2.M.lef X'.B := fun a o e => gv.l _ _ (l4.h a _ (fun h => by obtain ⟨o', e'⟩ := (F2.ow a h).1; rw [e] at e'; cases e') (g3.l.h _ _ e))
  have kn' : KnB X' := kn.toKnB.up gv.b
  have key : ∀ (d : Nat) (_ : 20 ≤ d) {m : Mem} (s : Nat), s < 16 → FnV X' (d + 2) (.ext (.ref f)) m [.int (s : Nat)] (.int (keyN g b s)) m := fun d hd m s hs => key_op kn' hd (lf _ _ md.f) md.p (md.c.up lf) gv.F (.cons rfl (.cons rfl (.cons rfl (.cons rfl .nil)))) k hs
  obtain ⟨z0, z1, z2, z3⟩ := shl_ok k hs16
  obtain ⟨i, hback⟩ := key_back k.ok ⟨k.lo, k.hi⟩ k.zb k.sg hs16
  have hpl : (sn m (.lst placesAV))[m.length]? = some (.lst placesAV) := sn_get _ _
  have w : W X' (D + 3) (kept lamKey.scope.names hoSc) ((fdAt prog1 30).body.drop 13) (binds ["key", "spot"] [.ext (.ref f), .int sp] (hoB p q r g b sign cells)) m (OnlyRet P) := by
    refine wpS_ok (G := ⟨X', D + 3, kept lamKey.scope.names hoSc, []⟩) (n := 40) (k := 40) hD4 (W.tupR (G := ⟨X', D + 3, kept lamKey.scope.names hoSc, []⟩) (xs := ["image", "places"]) hD4 rfl rfl rfl ⟨key (D + 1) (dE hD.1 rfl) sp hs16, .t (kn'.bu "range" _ rfl) .range, .t (kn'.bu "list" _ rfl) (.listR (n := 16) (by decide)), .mk rfl ?_⟩)
    refine .mk (key_bisL kn' (dE hD.1 rfl) k hs16 hpl (key D (dA hD.1 rfl)) rfl rfl rfl rfl) (.mk (key_bisR kn' (dE hD.1 rfl) k hs16 hpl (key D (dA hD.1 rfl)) rfl rfl rfl rfl) (.mk (.and2 (.wp (G := ⟨X', D + 3, kept lamKey.scope.names hoSc, []⟩) (k := 40) hD4 ⟨eqInts (a := [(sp : Int), ((sp + 1 : Nat) : Int)]) (b := [(sp : Int), (sp : Int) + 1]) hD4 rfl, .mk⟩) (.wp (G := ⟨X', D + 3, kept lamKey.scope.names hoSc, []⟩) (k := 40) hD4 ⟨.lst (by decide) (by decide) rfl, .neg, .rev (by show 2 ≤ 2 ^ 24; decide), op_movedP (p := g.sw) kn' (dE hD.1 rfl) hback, .lst (by show 3 ≤ 2 ^ 24; decide), .shl z0 z1 z2, eqInts (a := [(sp : Int) * 2 ^ (b - 4), 0]) (b := [(sp : Int) * 2 ^ ((b : Int) - 4).toNat, 0]) hD4 (by rw [z3]), .mk⟩)) (hP _)))
  have := w env own' A c' gv.T Q E fun v e fl L m fin => kk v e fl L m ((gv.k fin).fr (((l1.tr (md.l.b own)).tr (g3.l.b own)).tr l4))
  rw [gv.s, gv.o] at this
  exact this
end
end
section
open PySem PySem.W PyProof.Rows PySem.Calls PySem.SeqAt
private theorem WE.weak {X : Amb} {D : Nat} {sc : Names} {cd : Value} {q : Str} {sts : List Stmt} {L L' : Lc} {m : Mem} {P : RP} (h : WE X D sc cd q sts L' m P) (hl : Sub0 L' L) : WE X D sc cd q sts L m P := fun env own A c e1 e2 T Q E k => h env own A c e1 e2 (T.on (T.F.weak hl)) Q E k
section
variable {X : Amb} {D : Nat} {m : Mem} {c0 c1 c2 c3 c4 c5 c6 c7 : Nat} {p q r e g : Pr} {b : Nat} {sign : Int} {P : RP}
private theorem ho_mid (kn : KnM X) (hD : 60 ≤ D ∧ D ≤ 480) (gp : p.good) (gq : q.good) (gr : r.good) (hP : Prods p q r e g) (hb1 : 20 ≤ b) (hb2 : b ≤ 24) (hsg : sign = 1 ∨ sign = -1) (b5 : c5 < 10000000) (b6 : c6 < 10000000)
    (h : ∀ L, Sub0 (hoB p q r g b sign (cellsL c0 c1 c2 c3 c4 c5 c6 c7)) L → P .next L m) : wpS ⟨X, D + 1, hoSc, []⟩ 40 40 (((fdAt prog1 30).body.take 12).drop 6) (hoA (p.rows ++ q.rows ++ r.rows) b sign (cellsL c0 c1 c2 c3 c4 c5 c6 c7)) m P := by
  have hz : ((p.rows ++ q.rows ++ r.rows ++ [[], []]).map AV.str).length ≤ 2 ^ 24 := by rw [List.length_map]; show 8 ≤ 2 ^ 24; decide
  refine W.tup (G := ⟨X, D + 1, hoSc, []⟩) (xs := ["pairs", "unit"]) (by show 4 ≤ D + 1; exact dE hD.1 rfl) rfl rfl (.cons rfl (.cons rfl .nil)) ⟨.lst hz, .lst hz, .lst hz, .shl (Int.natCast_nonneg _) (by lia) (Nat.lt_of_lt_of_le (show (1 : Int).natAbs < 2 ^ 1 by decide) (Nat.pow_le_pow_right (by decide) (by decide))), .mk rfl (ho_mid2 kn hD gp gq gr hP hb1 hb2 hsg b5 b6 rfl (Int.one_mul _) rfl h)⟩
private theorem op_holds (kn : KnM X) (hD : 64 ≤ D ∧ D ≤ 480) (b5 : c5 < 10000000) (b6 : c6 < 10000000) : Fn X (D + 1) "_law_holds" m [.lst (cellsL c0 c1 c2 c3 c4 c5 c6 c7)] (.bool true) m := by
  obtain ⟨D, rfl⟩ : ∃ d, D = d + 3 := ⟨D - 3, by lia⟩
  obtain ⟨p, gp, ep⟩ := cell_rows c0
  obtain ⟨q, gq, eq⟩ := cell_rows c1
  obtain ⟨r, gr, er⟩ := cell_rows c2
  obtain ⟨e, g, hP⟩ := prods gp.1 gq.1 gr.1
  have hR : rowsK [c0, c1, c2] 3 = p.rows ++ q.rows ++ r.rows := by
    show rowsOf c0 ++ (rowsOf c1 ++ (rowsOf c2 ++ [])) = _
    rw [ep, eq, er, List.append_nil, List.append_assoc]
  have hRb : ∀ x ∈ p.rows ++ q.rows ++ r.rows, okS x ∧ x.length ≤ 8 := fun x hx => (List.mem_append.mp hx).elim (fun hx => (List.mem_append.mp hx).elim (good_row gp x) (good_row gq x)) (good_row gr x)
  have hRh : hiddenF (p.rows ++ q.rows ++ r.rows) c3 = true := hidden_rows (ts := [p.a, p.b, q.a, q.b, r.a, r.b]) (fun t ht => by
    simp only [List.mem_cons, List.not_mem_nil, or_false] at ht
    rcases ht with rfl | rfl | rfl | rfl | rfl | rfl
    · exact gp.2.2.1
    · exact gp.2.2.2
    · exact gq.2.2.1
    · exact gq.2.2.2
    · exact gr.2.2.1
    · exact gr.2.2.2) rfl c3
  have hb1 : 20 ≤ bitsN c4 := by unfold bitsN; lia
  have hb2 : bitsN c4 ≤ 24 := by unfold bitsN; lia
  have hzb : ∀ x, zb 4 x → zb (bitsN c4) (g.f x) := fun x hx => by
    obtain ⟨-, -, z3⟩ := three gp gq gr hx (Nat.le_refl _)
    rw [hP.f]
    exact zb_mono z3 (dA hb1 rfl)
  obtain ⟨o, doc, pm, ct, h⟩ := kn.f_holds.f
  refine .f kn.f_holds.g ⟨o, doc, pm, _, ct, h⟩ ((h.call kn.lim (fnOk (ps := ["cells"]) (by rfl)) (fun zz zz zz zz zz => rfl) rfl (?_ : WE X (D + 3) hoSc _ _ ((((fdAt prog1 30).body.take 6) ++ (((fdAt prog1 30).body.take 12).drop 6)) ++ (fdAt prog1 30).body.drop 12) _ m (Ret (KeptA m (.bool true))))).keep fun zz zz M h => h M)
  refine .app (.app (ho_rows kn (by lia) hR (ho_file kn (by lia) rfl hRb (ho_heard kn (by lia) rfl hRb (file_toks gp gq gr c3) hRh fun L ms hL => .weak (wpS_ok (G := ⟨X, D + 3, hoSc, []⟩) (n := 40) (k := 40) (by show 4 ≤ D + 3; exact dA hD.1 rfl) (ho_mid kn (by lia) gp gq gr hP hb1 hb2 (signI_or c4) b5 b6 fun L hL => .weak (ho_tail kn (⟨dC hD.1 rfl, dD hD.2 rfl⟩) ⟨hP.ok, hb1, by exact dB hb2 rfl, hzb, signI_or c4⟩ (c7 := c7) rfl fun L => KeptA.eq (List.append_assoc ..) fun zz => .bool true) hL)) hL))))
end
end
section
open PySem PySem.W PyProof.Rows PySem.Calls PySem.SeqAt
private theorem sl_map {α β : Type} (f : α → β) (lo hi : Option Int) (xs : List α) : sl lo hi (xs.map f) = (sl lo hi xs).map f := by
  unfold sl; rw [List.length_map, List.map_drop, List.map_take]
private theorem pick_map {α β : Type} (f : α → β) (lo hi st : Option Int) (xs : List α) : pick lo hi st (xs.map f) = (pick lo hi st xs).map f := by
  unfold pick
  rw [List.length_map, List.map_filterMap]
  exact congrArg (fun z => List.filterMap z _) (funext fun i => List.getElem?_map ..)
private theorem pick8 {α : Type} (k : Nat) (xs : List α) (hn : xs.length ≤ 60) : (pick (some (k : Int)) none (some 8) xs).length ≤ 8 := by
  refine Nat.le_trans (List.length_filterMap_le _ _) ?_
  unfold sliceBounds sliceRange
  rw [List.length_map, List.length_range]
  simp only [Option.getD_some]
  split
  · split <;> split <;> lia
  · rename_i h; exact absurd (by decide) h
private theorem sl60 {α : Type} (xs : List α) : (sl none (some 60) xs).length ≤ 60 := by
  exact Nat.le_trans (Nat.le_of_eq (congrArg List.length (sl_take xs 60))) (List.length_take_le 60 xs)
noncomputable def addL (ns : List Int) (k : Nat) : List Int := pick (some (k : Int)) none (some 8) (sl none (some 60) ns)
noncomputable def addN (ns : List Int) (k : Nat) : Nat := ((addL ns k).map fun n => (n.fmod 1000003).toNat).sum
private theorem addL_len (ns : List Int) (k : Nat) : (addL ns k).length ≤ 8 := pick8 k _ (sl60 ns)
private theorem addN_le (ns : List Int) (k : Nat) : addN ns k ≤ 8000016 := by
  have h := sum_le (fun n : Int => (n.fmod 1000003).toNat) 1000002 (addL ns k) fun n zz => by
    have := Int.fmod_lt_of_pos n (show (0 : Int) < 1000003 by decide)
    (clear this; lia)
  have := addL_len ns k
  unfold addN
  lia
private theorem addN_sum (ns : List Int) (k : Nat) : ((addL ns k).map fun n => n.fmod 1000003).sum = (addN ns k : Nat) := by
  unfold addN
  generalize addL ns k = L
  induction L with
  | nil => rfl
  | cons n L ih =>
    have := Int.fmod_nonneg_of_pos n (show (0 : Int) < 1000003 by decide)
    rw [List.map_cons, List.sum_cons, List.map_cons, List.sum_cons, ih]
    (clear this; lia)
noncomputable def base8 : List Nat := [3145, 3072, 13, 1493857, 7, 913, 778, 26]
private theorem base_at {k : Nat} (h : k < 8) : (base8.map fun (b : Nat) => AV.int b)[k]? = some (.int (base8.getD k 0 : Nat)) := by
  have h : k < base8.length := h
  rw [List.getElem?_map, List.getD_eq_getElem?_getD, List.getElem?_eq_getElem h]; rfl
section
variable {X : Amb} {D : Nat} {m : Mem} {ns : List Int}
private theorem op_law (kn : KnM X) (hf : FnG X (fdAt prog1 31) 221) (hD : 65 ≤ D ∧ D ≤ 480) (hn : ns.length ≤ 63) : Call X (D + 1) (opF 221) m [.lst (ns.map .int)] (.bool true) m := by
  have h5 := addN_le ns 5
  have h6 := addN_le ns 6
  have oh : Fn X D "_law_holds" m [.lst ((List.range 8).map fun k => .int (base8.getD k 0 + addN ns k : Nat))] (.bool true) m := by
    obtain ⟨D, rfl⟩ : ∃ d, D = d + 1 := ⟨D - 1, by lia⟩
    exact op_holds (c0 := 3145 + addN ns 0) (c1 := 3072 + addN ns 1) (c2 := 13 + addN ns 2) (c3 := 1493857 + addN ns 3) (c4 := 7 + addN ns 4) (c5 := 913 + addN ns 5) (c6 := 778 + addN ns 6) (c7 := 26 + addN ns 7) kn (by lia) (by lia) (by lia)
  have hD4 : 4 ≤ D := by lia
  refine (hf.f.call kn.lim (fnOk (ps := ["script"]) (by rfl)) (fun zz zz zz zz zz => rfl) rfl (wpS_ok (G := ⟨X, D, (fdAt prog1 31).scope.names, []⟩) (n := 40) (k := 40) hD4 ?_)).keep fun zz zz M h => (h : KeptA m (.bool true) _ _) M
  refine OkE.map (G := ⟨X, D, (fdAt prog1 31).scope.names, []⟩) (xs := List.range 8) (f := fun (i : Nat) => .int i) (av := .rng 0 ((8 : Nat) : Int)) (m1 := m) hD4 (by rfl) (fun zz zz => rfl) ⟨.t (kn.bu "range" _ rfl) .range, .mk⟩ (.rng' (by decide)) (by decide) (fun k => .int (base8.getD k 0 + addN ns k : Nat)) (fun k hk => ⟨_, .name rfl, ?_⟩) ⟨oh, .b⟩
  have hk : k < 8 := List.mem_range.mp hk
  have e1 : pick (some (k : Int)) none (some 8) (sl none (some 60) (ns.map AV.int)) = (addL ns k).map .int := by rw [sl_map, pick_map]; rfl
  have hl := sl60 (ns.map AV.int)
  have hl2 := addL_len ns k
  have es : Call X D (opB "sum") m [.lst ((addL ns k).map fun n => .int (n.fmod 1000003))] (.int (addN ns k : Nat)) m := by
    have := Call.sum (X := X) (D := D) (m := m) (ns := (addL ns k).map fun n => n.fmod 1000003)
    rw [addN_sum, List.map_map] at this; exact this
  refine ⟨.lst (Int.natCast_nonneg _) (by lia) (base_at hk), ?_⟩
  refine OkE.map (G := ⟨X, D, relN _ _, _⟩) (xs := addL ns k) (f := .int) (av := .lst (pick (some (k : Int)) none (some 8) (sl none (some 60) (ns.map AV.int)))) (m1 := m) hD4 (by rfl) (fun zz zz => rfl) ⟨.lst (by rw [List.length_map]; lia), .pL (by lia) (by decide), .mk⟩ (.lst' e1) (by lia) (fun n => .int (n.fmod 1000003)) (fun n hn => ⟨_, .name rfl, .mod (by decide), .mk⟩) ⟨.b (kn.bu "sum" _ rfl) es, .mk⟩
end
end
section
open PySem PySem.W PyProof.Rows
set_option maxHeartbeats 8000000
noncomputable def keepL : List Nat := [1, 2, 3, 4, 5, 6, 7, 12, 13, 14, 16, 18, 19, 20, 21, 22, 23, 24, 25, 26, 27, 28, 29, 30, 31]
noncomputable def viewP : Program := { PySem.Challenge.pw_wb0073_01 with main := { PySem.Challenge.pw_wb0073_01.main with body := keepL.filterMap fun i => PySem.Challenge.pw_wb0073_01.main.body[i]? } }
noncomputable def looseL : List Str := [Str.ofString "bisect_right", Str.ofString "bisect_left"]
noncomputable def lawRow : OpenRow := PySem.Challenge.rw_wb0073_01.row
private theorem said2 : PySem.Challenge.rw_wb0073_01.wellSaid = true := by decide +kernel
private theorem lawSome : (defOf viewP (Str.ofString "law")).isSome = true := by kernel_rfl
noncomputable def lawD : DefRec := ((defOf viewP (Str.ofString "law")).get lawSome).1
private theorem test_hdef : defOf viewP lawRow.name = some (lawD, []) := by kernel_rfl
private theorem test_hp : lawRow.prog.theDef lawRow.name = some (lawD.params, lawD.body, lawD.scope) := by kernel_rfl
private theorem head (H : Hook) (left : LeftO lawRow.prog viewP looseL (fun s => xlAt viewP [] s && recOk lawRow.toRowW.records s) H.obs H.val 2490) (call : WalkO viewP looseL (XL viewP []) H.says lawRow.toRowW lawD [] fun f vs => PySem.call f vs) : PySem.Challenge.rw_wb0073_01.Holds :=
  holds_law said2 fun k1 => PySem.W.holds_open (q := viewP) (loose := looseL) (Xt := fun s => xlAt viewP [] s && recOk lawRow.toRowW.records s) (XP := XL viewP []) (Yf := H.obs) (Ya := H.val) (YP := H.says) (N := 2490) left (Hook.of H) (Hook.keeps H)
    (fun s e => xl_of s (Bool.and_eq_true_iff.mp e).1) XL.keeps test_hdef test_hp (by kernel_rfl) (fun s e => recFacts_of (Bool.and_eq_true_iff.mp e).2) (by kernel_rfl) k1 (by decide +kernel) ⟨rfl, rfl, rfl, rfl, rfl, by decide +kernel⟩ (by w_witness2) call
end
section
open PySem PySem.W PyProof.Rows
set_option maxHeartbeats 8000000
noncomputable def fnO (F : Fd) (q : Str) (m : String) (t : Nat) (c : Addr) (dv kv : Value) : Obj := { cls := .type "function", data := .func (fnX F.name q F.params F.body F.scope [] dv kv .none (.str m t) none (.ref c) .none) }
noncomputable def codeO (vs : List Value) : Obj := { cls := .type "code", data := .fields vs.toArray }
noncomputable def en (P : Params) (k : String) (t : Nat) (v : Value) : DictEntry := { hash := PyData.keyHash P (Str.ofString k), key := .str k t, val := v }
noncomputable def dictO (es : List DictEntry) (n : Nat) : Obj := { cls := .type "dict", data := .dict es.toArray n }
noncomputable def clsO : Obj := excClassObj "_netrclex" "_netrclex" 133 132 [.type "object"] [.type "object"] true [] [] false none none none none (some (.str "_netrclex" 335)) (some (.str "_netrclex" 343)) (some (.bool true)) "object.__new__"
noncomputable def KF : Params → Frag := fun P =>
  [(2, { cls := .none, data := .dict #[] }),
   (3, dictO [en P "__name__" 165 (.str "law_wb0073_01" 393), en P "__doc__" 166 (.none), en P "__package__" 167 (.none), en P "__loader__" 168 (.builtin "__main__.__loader__#opaque"), en P "__spec__" 169 (.none), en P "__annotations__" 170 (.ref 6), en P "__builtins__" 171 (.ref 4), en P "__file__" 173 (.str "/claim/cut.py" 172), en P "__cached__" 174 (.none), en P "_DIV_LIMIT" 190 (.int 4000 189), en P "_div2n1n" 207 (.ref 21), en P "_div3n2n" 221 (.ref 28), en P "_int2digits" 232 (.ref 35), en P "_digits2int" 243 (.ref 42), en P "_divmod_pos" 258 (.ref 49), en P "int_divmod" 268 (.ref 56), en P "bisect_right" 284 (.ref 65), en P "bisect_left" 298 (.ref 74), en P "_iter_escaped_chars" 310 (.ref 81), en P "_strip_quoted_realnames" 322 (.ref 88), en P "_check_parenthesis" 332 (.ref 95), en P "_netrclex" 392 (.ref 133), en P "_law_row" 405 (.ref 144), en P "_law_written" 411 (.ref 149), en P "_law_lexer" 420 (.ref 156), en P "_law_met" 426 (.ref 161), en P "_law_put" 432 (.ref 166), en P "_law_bare" 438 (.ref 171), en P "_law_times" 447 (.ref 178), en P "_law_starts" 457 (.ref 185), en P "_law_moved" 473 (.ref 192), en P "_law_parts" 485 (.ref 199), en P "_law_led" 491 (.ref 204), en P "_law_hidden" 503 (.ref 211), en P "_law_holds" 509 (.ref 216), en P "law" 515 (.ref 221)] 36),
   (20, codeO [.str "_div2n1n" 191, .str "_div2n1n" 192, .str "/claim/cut.py" 193, .int 3 0, .int 3 0, .int 0 0, .int 0 0, .int 3 0, .ref 15, .bool true, .int 181 0, .ref 16, .none, .ref 17, .ref 18, .ref 19, .int 205 0, .int 3 0, .str "/claim/cut.py" 206]),
   (21, fnO (fdAt prog1 2) "_div2n1n" "cpy313._pylong" 187 20 (.none) (.none)),
   (27, codeO [.str "_div3n2n" 208, .str "_div3n2n" 209, .str "/claim/cut.py" 210, .int 19 0, .int 6 0, .int 0 0, .int 0 0, .int 3 0, .ref 22, .bool true, .int 181 0, .ref 23, .none, .ref 24, .ref 25, .ref 26, .int 219 0, .int 19 0, .str "/claim/cut.py" 220]),
   (28, fnO (fdAt prog1 3) "_div3n2n" "cpy313._pylong" 187 27 (.none) (.none)),
   (34, codeO [.str "_int2digits" 222, .str "_int2digits" 223, .str "/claim/cut.py" 224, .int 29 0, .int 2 0, .int 0 0, .int 0 0, .int 3 0, .ref 29, .bool true, .int 181 0, .ref 30, .none, .ref 31, .ref 32, .ref 33, .int 230 0, .int 29 0, .str "/claim/cut.py" 231]),
   (35, fnO (fdAt prog1 4) "_int2digits" "cpy313._pylong" 187 34 (.none) (.none)),
   (41, codeO [.str "_digits2int" 233, .str "_digits2int" 234, .str "/claim/cut.py" 235, .int 45 0, .int 2 0, .int 0 0, .int 0 0, .int 3 0, .ref 36, .bool true, .int 181 0, .ref 37, .none, .ref 38, .ref 39, .ref 40, .int 241 0, .int 45 0, .str "/claim/cut.py" 242]),
   (42, fnO (fdAt prog1 5) "_digits2int" "cpy313._pylong" 187 41 (.none) (.none)),
   (48, codeO [.str "_divmod_pos" 244, .str "_divmod_pos" 245, .str "/claim/cut.py" 246, .int 54 0, .int 2 0, .int 0 0, .int 0 0, .int 3 0, .ref 43, .bool true, .int 181 0, .ref 44, .none, .ref 45, .ref 46, .ref 47, .int 256 0, .int 54 0, .str "/claim/cut.py" 257]),
   (49, fnO (fdAt prog1 6) "_divmod_pos" "cpy313._pylong" 187 48 (.none) (.none)),
   (55, codeO [.str "int_divmod" 259, .str "int_divmod" 260, .str "/claim/cut.py" 261, .int 65 0, .int 2 0, .int 0 0, .int 0 0, .int 3 0, .ref 50, .bool true, .int 181 0, .ref 51, .none, .ref 52, .ref 53, .ref 54, .int 266 0, .int 65 0, .str "/claim/cut.py" 267]),
   (56, fnO (fdAt prog1 7) "int_divmod" "cpy313._pylong" 187 55 (.none) (.none)),
   (57, tpo [.int 0 271, .none]),
   (58, dictO [en P "key" 272 (.none)] 1),
   (64, codeO [.str "bisect_right" 273, .str "bisect_right" 274, .str "/claim/cut.py" 275, .int 77 0, .int 4 0, .int 0 0, .int 1 0, .int 3 0, .ref 59, .bool true, .int 181 0, .ref 60, .none, .ref 61, .ref 62, .ref 63, .int 282 0, .int 77 0, .str "/claim/cut.py" 283]),
   (65, fnO (fdAt prog1 9) "bisect_right" "cpy313.bisect" 269 64 (.ref 57) (.ref 58)),
   (66, tpo [.int 0 285, .none]),
   (67, dictO [en P "key" 286 (.none)] 1),
   (73, codeO [.str "bisect_left" 287, .str "bisect_left" 288, .str "/claim/cut.py" 289, .int 97 0, .int 4 0, .int 0 0, .int 1 0, .int 3 0, .ref 68, .bool true, .int 181 0, .ref 69, .none, .ref 70, .ref 71, .ref 72, .int 296 0, .int 97 0, .str "/claim/cut.py" 297]),
   (74, fnO (fdAt prog1 10) "bisect_left" "cpy313.bisect" 269 73 (.ref 66) (.ref 67)),
   (80, codeO [.str "_iter_escaped_chars" 301, .str "_iter_escaped_chars" 302, .str "/claim/cut.py" 303, .int 118 0, .int 1 0, .int 0 0, .int 0 0, .int 35 0, .ref 75, .bool true, .int 181 0, .ref 76, .none, .ref 77, .ref 78, .ref 79, .int 308 0, .int 118 0, .str "/claim/cut.py" 309]),
   (81, fnO (fdAt prog1 12) "_iter_escaped_chars" "cpy313.email.utils" 299 80 (.none) (.none)),
   (87, codeO [.str "_strip_quoted_realnames" 311, .str "_strip_quoted_realnames" 312, .str "/claim/cut.py" 313, .int 131 0, .int 1 0, .int 0 0, .int 0 0, .int 3 0, .ref 82, .bool true, .int 181 0, .ref 83, .none, .ref 84, .ref 85, .ref 86, .int 320 0, .int 131 0, .str "/claim/cut.py" 321]),
   (88, fnO (fdAt prog1 13) "_strip_quoted_realnames" "cpy313.email.utils" 299 87 (.none) (.none)),
   (94, codeO [.str "_check_parenthesis" 323, .str "_check_parenthesis" 324, .str "/claim/cut.py" 325, .int 149 0, .int 1 0, .int 0 0, .int 0 0, .int 3 0, .ref 89, .bool true, .int 181 0, .ref 90, .none, .ref 91, .ref 92, .ref 93, .int 330 0, .int 149 0, .str "/claim/cut.py" 331]),
   (95, fnO (fdAt prog1 14) "_check_parenthesis" "cpy313.email.utils" 299 94 (.none) (.none)),
   (108, codeO [.str "__init__" 347, .str "_netrclex.__init__" 348, .str "/claim/cut.py" 349, .int 163 0, .int 2 0, .int 0 0, .int 0 0, .int 3 0, .ref 103, .bool true, .int 181 0, .ref 104, .none, .ref 105, .ref 106, .ref 107, .int 352 0, .int 163 0, .str "/claim/cut.py" 353]),
   (109, fnO (fdAt clsBody 0) "_netrclex.__init__" "cpy313.netrc" 333 108 (.none) (.none)),
   (115, codeO [.str "_read_char" 355, .str "_netrclex._read_char" 356, .str "/claim/cut.py" 357, .int 169 0, .int 1 0, .int 0 0, .int 0 0, .int 3 0, .ref 110, .bool true, .int 181 0, .ref 111, .none, .ref 112, .ref 113, .ref 114, .int 360 0, .int 169 0, .str "/claim/cut.py" 361]),
   (116, fnO (fdAt clsBody 1) "_netrclex._read_char" "cpy313.netrc" 333 115 (.none) (.none)),
   (122, codeO [.str "get_token" 363, .str "_netrclex.get_token" 364, .str "/claim/cut.py" 365, .int 175 0, .int 1 0, .int 0 0, .int 0 0, .int 3 0, .ref 117, .bool true, .int 181 0, .ref 118, .none, .ref 119, .ref 120, .ref 121, .int 370 0, .int 175 0, .str "/claim/cut.py" 371]),
   (123, fnO (fdAt clsBody 2) "_netrclex.get_token" "cpy313.netrc" 333 122 (.none) (.none)),
   (129, codeO [.str "push_token" 373, .str "_netrclex.push_token" 374, .str "/claim/cut.py" 375, .int 202 0, .int 2 0, .int 0 0, .int 0 0, .int 3 0, .ref 124, .bool true, .int 181 0, .ref 125, .none, .ref 126, .ref 127, .ref 128, .int 378 0, .int 202 0, .str "/claim/cut.py" 379]),
   (130, fnO (fdAt clsBody 3) "_netrclex.push_token" "cpy313.netrc" 333 129 (.none) (.none)),
   (132, dictO [en P "__module__" 342 (.str "cpy313.netrc" 333), en P "__firstlineno__" 346 (.int 161 345), en P "__init__" 354 (.ref 109), en P "_read_char" 362 (.ref 116), en P "get_token" 372 (.ref 123), en P "push_token" 380 (.ref 130), en P "__static_attributes__" 385 (.ref 131), en P "__dict__" 387 (.ref 134), en P "__weakref__" 389 (.ref 135), en P "__doc__" 390 (.none)] 4),
   (133, clsO),
   (143, codeO [.str "_law_row" 395, .str "_law_row" 396, .str "/claim/cut.py" 397, .int 205 0, .int 2 0, .int 0 0, .int 0 0, .int 3 0, .ref 138, .bool true, .int 181 0, .ref 139, .none, .ref 140, .ref 141, .ref 142, .int 403 0, .int 205 0, .str "/claim/cut.py" 404]),
   (144, fnO (fdAt prog1 18) "_law_row" "law_wb0073_01" 393 143 (.none) (.none)),
   (148, codeO [.str "_law_written" 406, .str "_law_written" 407, .str "/claim/cut.py" 408, .int 211 0, .int 2 0, .int 0 0, .int 0 0, .int 3 0, .ref 145, .bool true, .int 181 0, .ref 146, .none, .none, .none, .ref 147, .int 409 0, .int 211 0, .str "/claim/cut.py" 410]),
   (149, fnO (fdAt prog1 19) "_law_written" "law_wb0073_01" 393 148 (.none) (.none)),
   (155, codeO [.str "_law_lexer" 412, .str "_law_lexer" 413, .str "/claim/cut.py" 414, .int 214 0, .int 1 0, .int 0 0, .int 0 0, .int 3 0, .ref 150, .bool true, .int 181 0, .ref 151, .none, .ref 152, .ref 153, .ref 154, .int 418 0, .int 214 0, .str "/claim/cut.py" 419]),
   (156, fnO (fdAt prog1 20) "_law_lexer" "law_wb0073_01" 393 155 (.none) (.none)),
   (160, codeO [.str "_law_met" 421, .str "_law_met" 422, .str "/claim/cut.py" 423, .int 218 0, .int 2 0, .int 0 0, .int 0 0, .int 3 0, .ref 157, .bool true, .int 181 0, .ref 158, .none, .none, .none, .ref 159, .int 424 0, .int 218 0, .str "/claim/cut.py" 425]),
   (161, fnO (fdAt prog1 21) "_law_met" "law_wb0073_01" 393 160 (.none) (.none)),
   (165, codeO [.str "_law_put" 427, .str "_law_put" 428, .str "/claim/cut.py" 429, .int 234 0, .int 2 0, .int 0 0, .int 0 0, .int 3 0, .ref 162, .bool true, .int 181 0, .ref 163, .none, .none, .none, .ref 164, .int 430 0, .int 234 0, .str "/claim/cut.py" 431]),
   (166, fnO (fdAt prog1 22) "_law_put" "law_wb0073_01" 393 165 (.none) (.none)),
   (170, codeO [.str "_law_bare" 433, .str "_law_bare" 434, .str "/claim/cut.py" 435, .int 237 0, .int 1 0, .int 0 0, .int 0 0, .int 3 0, .ref 167, .bool true, .int 181 0, .ref 168, .none, .none, .none, .ref 169, .int 436 0, .int 237 0, .str "/claim/cut.py" 437]),
   (171, fnO (fdAt prog1 23) "_law_bare" "law_wb0073_01" 393 170 (.none) (.none)),
   (177, codeO [.str "_law_times" 439, .str "_law_times" 440, .str "/claim/cut.py" 441, .int 245 0, .int 2 0, .int 0 0, .int 0 0, .int 3 0, .ref 172, .bool true, .int 181 0, .ref 173, .none, .ref 174, .ref 175, .ref 176, .int 445 0, .int 245 0, .str "/claim/cut.py" 446]),
   (178, fnO (fdAt prog1 24) "_law_times" "law_wb0073_01" 393 177 (.none) (.none)),
   (184, codeO [.str "_law_starts" 448, .str "_law_starts" 449, .str "/claim/cut.py" 450, .int 248 0, .int 3 0, .int 0 0, .int 0 0, .int 3 0, .ref 179, .bool true, .int 181 0, .ref 180, .none, .ref 181, .ref 182, .ref 183, .int 455 0, .int 248 0, .str "/claim/cut.py" 456]),
   (185, fnO (fdAt prog1 25) "_law_starts" "law_wb0073_01" 393 184 (.none) (.none)),
   (191, codeO [.str "_law_moved" 458, .str "_law_moved" 459, .str "/claim/cut.py" 460, .int 255 0, .int 4 0, .int 0 0, .int 0 0, .int 3 0, .ref 186, .bool true, .int 181 0, .ref 187, .none, .ref 188, .ref 189, .ref 190, .int 471 0, .int 255 0, .str "/claim/cut.py" 472]),
   (192, fnO (fdAt prog1 26) "_law_moved" "law_wb0073_01" 393 191 (.none) (.none)),
   (198, codeO [.str "_law_parts" 474, .str "_law_parts" 475, .str "/claim/cut.py" 476, .int 261 0, .int 1 0, .int 0 0, .int 0 0, .int 3 0, .ref 193, .bool true, .int 181 0, .ref 194, .none, .ref 195, .ref 196, .ref 197, .int 483 0, .int 261 0, .str "/claim/cut.py" 484]),
   (199, fnO (fdAt prog1 27) "_law_parts" "law_wb0073_01" 393 198 (.none) (.none)),
   (203, codeO [.str "_law_led" 486, .str "_law_led" 487, .str "/claim/cut.py" 488, .int 270 0, .int 3 0, .int 0 0, .int 0 0, .int 3 0, .ref 200, .bool true, .int 181 0, .ref 201, .none, .none, .none, .ref 202, .int 489 0, .int 270 0, .str "/claim/cut.py" 490]),
   (204, fnO (fdAt prog1 28) "_law_led" "law_wb0073_01" 393 203 (.none) (.none)),
   (210, codeO [.str "_law_hidden" 492, .str "_law_hidden" 493, .str "/claim/cut.py" 494, .int 277 0, .int 2 0, .int 0 0, .int 0 0, .int 3 0, .ref 205, .bool true, .int 181 0, .ref 206, .none, .ref 207, .ref 208, .ref 209, .int 501 0, .int 277 0, .str "/claim/cut.py" 502]),
   (211, fnO (fdAt prog1 29) "_law_hidden" "law_wb0073_01" 393 210 (.none) (.none)),
   (215, codeO [.str "_law_holds" 504, .str "_law_holds" 505, .str "/claim/cut.py" 506, .int 284 0, .int 1 0, .int 0 0, .int 0 0, .int 3 0, .ref 212, .bool true, .int 181 0, .ref 213, .none, .none, .none, .ref 214, .int 507 0, .int 284 0, .str "/claim/cut.py" 508]),
   (216, fnO (fdAt prog1 30) "_law_holds" "law_wb0073_01" 393 215 (.none) (.none)),
   (220, codeO [.str "law" 510, .str "law" 511, .str "/claim/cut.py" 512, .int 313 0, .int 1 0, .int 0 0, .int 0 0, .int 3 0, .ref 217, .bool true, .int 181 0, .ref 218, .none, .none, .none, .ref 219, .int 513 0, .int 313 0, .str "/claim/cut.py" 514]),
   (221, fnO (fdAt prog1 31) "law" "law_wb0073_01" 393 220 (.none) (.none)),
   (30, tabObj #[]),
   (37, tabObj #[]),
   (151, tabObj #[]),
   (213, tabObj #[])]
noncomputable def KA : List Addr := [2, 3, 20, 21, 27, 28, 34, 35, 41, 42, 48, 49, 55, 56, 57, 58, 64, 65, 66, 67, 73, 74, 80, 81, 87, 88, 94, 95, 108, 109, 115, 116, 122, 123, 129, 130, 132, 133, 143, 144, 148, 149, 155, 156, 160, 161, 165, 166, 170, 171, 177, 178, 184, 185, 191, 192, 198, 199, 203, 204, 210, 211, 215, 216, 220, 221, 30, 37, 151, 213]
private theorem KA_is (P : Params) : KA = (KF P).map (·.1) := by rfl
private theorem hook_keeps {w : World} {h h' : Heap} (Y : (KF w.params).In h ∧ (h.get? sysModules).any (fun o => o.cls == .type "dict") = true) (k : ∀ b o, h.get? b = some o → h'.get? b = some o) : (KF w.params).In h' ∧ (h'.get? sysModules).any (fun o => o.cls == .type "dict") = true :=
  ⟨fun a o e => k a o (Y.1 a o e), by
    have h2 := Y.2
    cases e : h.get? sysModules with
    | none => rw [e] at h2; cases h2
    | some o => rw [e] at h2; rw [k _ _ e]; exact h2⟩
noncomputable def hookL : Hook where
  α := List (Option Obj) × Bool
  obs := fun s => (KA.map s.heap.get?, (s.heap.get? sysModules).any fun o => o.cls == .type "dict")
  val := fun w => ((KF w.params).map fun p => some p.2, true)
  says := fun w h => (KF w.params).In h ∧ (h.get? sysModules).any (fun o => o.cls == .type "dict") = true
  of := fun w s e => ⟨(InK.of KA_is : ∀ w s, _) w s (congrArg Prod.fst e), congrArg Prod.snd e⟩
  keeps := fun zz zz zz Y k => hook_keeps Y k
private theorem leftL : LeftO lawRow.prog viewP looseL (fun s => xlAt viewP [] s && recOk lawRow.toRowW.records s) hookL.obs hookL.val 2490 := by
  intro w
  kernel_rfl
end
section
open PySem PySem.W PyProof.Rows
set_option maxHeartbeats 8000000
noncomputable def tabsL : List (Addr × Site) := [(30, siteI), (37, siteD), (151, siteLex), (213, siteHolds)]
noncomputable def stillB (a : Addr) : Bool := (tabsL.lookup a).isNone && a != sysModules
noncomputable def heapC (h : Heap) (a : Addr) : Option Cel := (h.get? a).map fun o => if a = sysModules then .pin o else .frz o
noncomputable def baseM (h : Heap) (L : Addr) : Map := ⟨fun a => if a = L then none else (tabsL.lookup a).elim (heapC h a) fun st => some (.tab st), fun zz => none⟩
noncomputable def es3 (P : Params) : Array DictEntry := match (KF P).lookup 3 with
  | some { data := .dict es _, .. } => es
  | _ => #[]
structure Known (P : Params) (h : Heap) (L : Addr) (mb : Str → Option Value) : Prop where
  y : (KF P).In h
  sys : (h.get? sysModules).any (fun o => o.cls == .type "dict") = true
  b : h.Ns builtinsNs mb
  bi : ∀ x : Str, x ≠ "__name__" → mb x = bootBuiltins x
  bm : ∃ ob, h.get? 4 = some ob ∧ ob.cls = .type "module" ∧ ob.dict = some builtinsNs ∧ ob.data = .plain
  l : ∃ vs, h.get? L = some (lo vs 0)
private theorem KF_cls (P : Params) : ((KF P).all fun p => match p.2.cls with
  | .type n => n != "list"
  | _ => true) = true := by kernel_rfl
private theorem KF_mem {α : Type} {a : Nat} {o : α} : ∀ {K : List (Nat × α)}, K.lookup a = some o → (a, o) ∈ K
  | [], h => by cases h
  | (b, p) :: r, h => by
    rw [List.lookup_cons] at h
    cases hb : a == b with
    | true => rw [hb] at h; cases h; rw [eq_of_beq hb]; exact List.mem_cons_self
    | false => rw [hb] at h; exact List.mem_cons_of_mem _ (KF_mem h)
private theorem base_still {h : Heap} {L a : Addr} {o : Obj} (e : h.get? a = some o) (hl : a ≠ L) (ht : stillB a = true) : (baseM h L).h a = some (.frz o) := by
  obtain ⟨h1, h2⟩ := Bool.and_eq_true_iff.mp ht
  show (if a = L then none else (tabsL.lookup a).elim (heapC h a) fun st => some (.tab st)) = _
  rw [if_neg hl, Option.isNone_iff_eq_none.mp h1]
  show (h.get? a).map _ = _
  rw [e]
  exact congrArg some (if_neg (bne_iff_ne.mp h2))
private theorem allCons {α : Type} {Q : α → Prop} {a : α} {l : List α} (h : Q a) (t : ∀ p ∈ l, Q p) : ∀ p ∈ a :: l, Q p := fun p hp => (List.mem_cons.mp hp).elim (fun e => e ▸ h) (t p)
section
variable {P : Params} {h : Heap} {L : Addr} {mb : Str → Option Value} (k : Known P h L mb)
include k
private theorem Known.ne {a : Addr} {o : Obj} (e : h.get? a = some o) (hc : o.cls ≠ .type "list") : a ≠ L := fun q => by
  obtain ⟨vs, hl⟩ := k.l
  rw [q, hl] at e; cases e; exact hc rfl
private theorem Known.neK {a : Addr} {o : Obj} (e : (KF P).lookup a = some o) : a ≠ L := k.ne (k.y a o e) fun q => by
  have h2 := List.all_eq_true.mp (KF_cls P) _ (KF_mem e)
  dsimp only at h2
  rw [q] at h2
  exact absurd h2 (by decide)
private theorem Known.at {a : Addr} {o : Obj} (e : (KF P).lookup a = some o) (ht : stillB a = true) : (baseM h L).h a = some (.frz o) := base_still (k.y a o e) (k.neK e) ht
omit k in
private theorem keysOk {es : Array DictEntry} (h1 : (es.all fun e => match e.key with
    | .str _ _ => true
    | _ => false) = true) : StrKeys es := fun e he => by
  have h2 := Array.all_eq_true'.mp h1 e he
  generalize hk : e.key = v at h2
  cases v with
  | str n t => exact ⟨n, t, rfl⟩
  | _ => cases h2
private theorem Known.glob : NsM (baseM h L) mainGlobals fun x => nsFind (es3 P) x := .mk (k.at (a := 3) (by rfl) (by rfl)) rfl (keysOk (by kernel_rfl)) (fun zz => rfl)
private theorem Known.bNs : NsM (baseM h L) builtinsNs mb := by
  obtain ⟨o, es, ep, h1, h2, h3, h4⟩ := k.b
  exact .mk (base_still h1 (fun q => by obtain ⟨vs, hl⟩ := k.l; rw [q, hl] at h1; cases h1; cases h2) (by rfl)) h2 h3 h4
noncomputable def ambL (w : World) (h : Heap) (L : Addr) (os : OsState) : Amb := { prog := lawRow.prog, w := w, B := baseM h L, os := os }
variable {w : World} {os : OsState}
private theorem Known.blt {x : Str} {v : Value} (hx : x ≠ "__name__") (h1 : nsFind (es3 P) x = none) (h2 : bootBuiltins x = some v) : Glo (baseM h L) x v := .bu k.glob h1 k.bNs ((k.bi x hx).trans h2)
private theorem Known.code {c : Addr} {vs : List Value} {q : Str} {t : Nat} (e : (KF P).lookup c = some (codeO vs)) (hc : stillB c = true) (hv : vs[1]? = some (.str q t)) : CodeRecM (baseM h L) (.ref c) q :=
  .mk (k.at e hc) rfl ((List.getElem?_toArray ..).trans hv)
private theorem Known.ob {F : Fd} {q : Str} {m : String} {t u : Nat} {a c : Addr} {vs : List Value} (e : (KF P).lookup a = some (fnO F q m t c .none .none)) (ha : stillB a = true) (ec : (KF P).lookup c = some (codeO vs)) (hc : stillB c = true) (hv : vs[1]? = some (.str q u)) : FnObj (baseM h L) F q [] .none a (fnO F q m t c .none .none) .none (.str m t) (.ref c) .none :=
  ⟨k.at e ha, rfl, rfl, k.code ec hc hv⟩
private theorem Known.fn {F : Fd} {m : String} {t u : Nat} {a c : Addr} {vs : List Value} (e : (KF P).lookup a = some (fnO F F.name m t c .none .none)) (ha : stillB a = true) (hg : nsFind (es3 P) F.name = some (.ref a)) (ec : (KF P).lookup c = some (codeO vs)) (hc : stillB c = true) (hv : vs[1]? = some (.str F.name u)) : FnG (ambL w h L os) F a :=
  ⟨.main k.glob hg, _, _, _, _, _, k.ob e ha ec hc hv⟩
private theorem Known.fnC {F : Fd} {m : String} {t u : Nat} {a c : Addr} {vs : List Value} (e : (KF P).lookup a = some (fnO F F.name m t c .none .none)) (ha : stillB a = true) (hg : nsFind (es3 P) F.name = some (.ref a)) (ec : (KF P).lookup c = some (codeO vs)) (hc : stillB c = true) (hv : vs[1]? = some (.str F.name u)) : FnC (ambL w h L os) F a c :=
  ⟨.main k.glob hg, _, _, _, _, k.ob e ha ec hc hv⟩
private theorem Known.meth {F : Fd} {q : Str} {m : String} {t u : Nat} {a c : Addr} {vs : List Value} (e : (KF P).lookup a = some (fnO F q m t c .none .none)) (ha : stillB a = true) (ec : (KF P).lookup c = some (codeO vs)) (hc : stillB c = true) (hv : vs[1]? = some (.str q u)) : FnAt (ambL w h L os).B F q [] .none a :=
  ⟨_, _, _, _, _, k.ob e ha ec hc hv⟩
private theorem Known.kn : Kn (ambL w h L os) where
  lim := ⟨fun zz => none, .mk (k.at (a := 2) (by rfl) (by rfl)) rfl (fun e he => absurd he (by simp)) (fun zz => rfl), rfl⟩
  sys := by
    have h2 := k.sys
    cases e : h.get? sysModules with
    | none => rw [e] at h2; cases h2
    | some o =>
      rw [e] at h2
      have hc : o.cls = .type "dict" := eq_of_beq h2
      refine ⟨o, ?_⟩
      show (if sysModules = L then none else heapC h sysModules) = _
      rw [if_neg (k.ne e fun q => absurd (hc.symm.trans q) (by decide))]
      show (h.get? sysModules).map _ = _
      rw [e]; rfl
  bu := fun x v e => by
    have key : ∀ p ∈ builtins1, Glo (baseM h L) p.1 p.2 := allCons (k.blt (by decide) (by rfl) (by rfl)) (allCons (k.blt (by decide) (by rfl) (by rfl)) (allCons (k.blt (by decide) (by rfl) (by rfl)) (allCons (k.blt (by decide) (by rfl) (by rfl)) (allCons (k.blt (by decide) (by rfl) (by rfl)) (allCons (k.blt (by decide) (by rfl) (by rfl)) (allCons (k.blt (by decide) (by rfl) (by rfl)) (allCons (k.blt (by decide) (by rfl) (by rfl)) (fun zz h => (List.not_mem_nil h).elim))))))))
    exact key _ (mem_of_lookup_some e)
  fn := fun n a e => by
    have key : ∀ p ∈ defs1, FnG (ambL w h L os) (fdAt prog1 p.1) p.2 := by
      unfold defs1
      repeat (refine allCons (k.fn (by rfl) (by rfl) (by rfl) (by rfl) (by rfl) (by rfl)) ?_)
      exact fun zz h => (List.not_mem_nil h).elim
    exact key _ (KF_mem e)
end
end
section
open PySem PySem.W PyProof.Rows
set_option maxHeartbeats 8000000
private theorem lookup_take {a : Addr} {o : Obj} : ∀ (n : Nat) {l : Frag}, (l.take n).lookup a = some o → l.lookup a = some o
  | 0, _, h => by cases h
  | _ + 1, [], h => by cases h
  | n + 1, (b, p) :: r, h => by
    rw [List.take_succ_cons, List.lookup_cons] at h
    rw [List.lookup_cons]
    cases hb : a == b with
    | true => rw [hb] at h; exact h
    | false => rw [hb] at h; exact lookup_take n h
private theorem KF_fix (P : Params) : (((KF P).take 66).all fun p => stillB p.1) = true := by kernel_rfl
section
variable {P : Params} {h : Heap} {L : Addr} {mb : Str → Option Value} (k : Known P h L mb) {w : World} {os : OsState}
include k
private theorem Known.frag {h' : Heap} (hk : ∀ b o, (baseM h L).h b = some (.frz o) → h'.get? b = some o) : Frag.In ((KF P).take 66) h' := fun a o e =>
  hk a o (k.at (lookup_take 66 e) (List.all_eq_true.mp (KF_fix P) _ (KF_mem e)))
private theorem Known.tab {t : Addr} {st : Site} (e : (KF P).lookup t = some (tabObj #[])) (ht : tabsL.lookup t = some st) : (baseM h L).h t = some (.tab st) := by
  show (if t = L then none else (tabsL.lookup t).elim (heapC h t) fun st => some (.tab st)) = _
  rw [if_neg (k.neK e), ht]; rfl
private theorem Known.makes {st : Site} {vs : List Value} {file : Str} {tf tg tt : Nat} {flags text : Int} {inF : Bool} (e : (KF P).lookup st.t = some (tabObj #[])) (hm : tabsL.lookup st.t = some st) (ec : (KF P).lookup st.c = some (codeO vs)) (hc : stillB st.c = true)
    (v11 : vs[11]? = some (.ref st.t)) (v18 : vs[18]? = some (.str file tf)) (v7 : vs[7]? = some (.int flags tg)) (v9 : vs[9]? = some (.bool inF)) (v10 : vs[10]? = some (.int text tt)) (hne : st.c ≠ st.t) : Mine.Makes (ambL w h L os) st := by
  obtain ⟨ob, h1, h2, h3, h4⟩ := k.bm
  exact ⟨_, 4, ob, {
    t := k.tab e hm
    hd := fun h' hk => by
      have g : ∀ (i : Nat) (x : Value), vs[i]? = some x → vs.toArray.getD i .none = x := fun i x hx => by
        rw [Array.getD_eq_getD_getElem?, List.getElem?_toArray, hx]; rfl
      exact ⟨_, _, file, tf, flags, tg, inF, text, tt, hk _ _ (k.at ec hc), rfl, rfl, by rw [List.getElem?_toArray]; exact v11, g _ _ v11, g _ _ v18, g _ _ v7, g _ _ v9, g _ _ v10, hne⟩
    gl := k.glob
    b := by rfl
    n1 := by decide
    n2 := by decide
    bm := base_still h1 (k.ne h1 fun q => absurd (h2.symm.trans q) (by decide)) (by rfl)
    cls := h2
    dict := h3
    data := h4 }⟩
noncomputable def es132 (P : Params) : Array DictEntry := match (KF P).lookup 132 with
  | some { data := .dict es _, .. } => es
  | _ => #[]
private theorem Known.knM : KnM (ambL w h L os) where
  toKn := k.kn
  ci := k.fnC (by rfl) (by rfl) (by rfl) (by rfl) (by rfl) (by rfl)
  mi := k.makes (by rfl) (by rfl) (by rfl) (by rfl) (by rfl) (by rfl) (by rfl) (by rfl) (by rfl) (by decide)
  cd := k.fnC (by rfl) (by rfl) (by rfl) (by rfl) (by rfl) (by rfl)
  md := k.makes (by rfl) (by rfl) (by rfl) (by rfl) (by rfl) (by rfl) (by rfl) (by rfl) (by rfl) (by decide)
  dl := ⟨.int 4000 189, .main k.glob (by rfl), fun M l => .int _ _⟩
  bR := ⟨_, _, _, _, _, P, _, _, ⟨.main k.glob (by rfl), k.at (a := 65) (by rfl) (by rfl), rfl, k.code (c := 64) (by rfl) (by rfl) (by rfl), k.at (a := 57) (by rfl) (by rfl), k.at (a := 58) (by rfl) (by rfl)⟩⟩
  bL := ⟨_, _, _, _, _, P, _, _, ⟨.main k.glob (by rfl), k.at (a := 74) (by rfl) (by rfl), rfl, k.code (c := 73) (by rfl) (by rfl) (by rfl), k.at (a := 66) (by rfl) (by rfl), k.at (a := 67) (by rfl) (by rfl)⟩⟩
  cls := ⟨fun x => nsFind (es132 P) x, ⟨⟨_, _, _, _, _, _, _, _, _, _, _, _, _, _, _⟩, k.at (a := 133) (by rfl) (by rfl), .mk (k.at (a := 132) (by rfl) (by rfl)) rfl (keysOk (by kernel_rfl)) (fun zz => rfl), by rfl, by rfl, by rfl⟩, ⟨by rfl, by rfl, by rfl, by rfl, by rfl, by rfl, by rfl, by rfl⟩⟩
  gcls := .main k.glob (by rfl)
  mi' := k.meth (by rfl) (by rfl) (by rfl) (by rfl) (by rfl)
  mr := k.meth (by rfl) (by rfl) (by rfl) (by rfl) (by rfl)
  mg := k.meth (by rfl) (by rfl) (by rfl) (by rfl) (by rfl)
  mp := k.meth (by rfl) (by rfl) (by rfl) (by rfl) (by rfl)
  mkc := ⟨fun h' hk => makes_of (k.frag hk) (by kernel_rfl), fun h' hk => looks_findIn (k.frag hk) (by kernel_rfl), fun h' hk self => bind_fn (k.frag hk) self (by kernel_rfl)⟩
  f_lexer := k.fnC (by rfl) (by rfl) (by rfl) (by rfl) (by rfl) (by rfl)
  f_holds := k.fnC (by rfl) (by rfl) (by rfl) (by rfl) (by rfl) (by rfl)
  s_lexer := k.makes (by rfl) (by rfl) (by rfl) (by rfl) (by rfl) (by rfl) (by rfl) (by rfl) (by rfl) (by decide)
  s_holds := k.makes (by rfl) (by rfl) (by rfl) (by rfl) (by rfl) (by rfl) (by rfl) (by rfl) (by rfl) (by decide)
private theorem Known.law : FnG (ambL w h L os) (fdAt prog1 31) 221 := k.fn (by rfl) (by rfl) (by rfl) (by rfl) (by rfl) (by rfl)
end
end
section
open PySem PySem.W PyProof.Rows
set_option maxHeartbeats 400000
private theorem reps_ints {M : Map} : ∀ {vs : List Value} {ns : List Int}, IntsAre vs ns → Reps M (ns.map .int) vs
  | _, _, .nil => .nil
  | _, _, .cons n t r => .cons (.int n t) (reps_ints r)
private theorem known_of {w : World} {s₀ s₁ : Shared} {mg mb : Str → Option Value} {L : Addr} {vs : List Value} (G : Ground viewP looseL lawRow.records (XL viewP []) w s₀ mg mb s₁.heap) (Y : hookL.says w s₁.heap) (hl : s₁.heap.get? L = some (lo vs 0)) :
    Known w.params s₁.heap L mb ∧ mg = fun x => nsFind (es3 w.params) x := by
  obtain ⟨y, ys⟩ := Y
  have hm : mg = fun x => nsFind (es3 w.params) x := by
    obtain ⟨o, es, ep, h1, h2, _, h4⟩ := G.T.g
    have h5 := y 3 _ (by rfl)
    have h6 := Option.some.inj (h1.symm.trans h5)
    subst h6
    have h2 : Data.dict (es3 w.params) 36 = .dict es ep := h2
    cases h2
    funext x
    exact (h4 x).symm
  refine ⟨⟨y, ys, G.T.b, G.T.builtins, ?_, ⟨vs, hl⟩⟩, hm⟩
  obtain ⟨bm, ob, h1, _, h3, h4, h5, h6⟩ := G.T.bmain
  rw [hm] at h1
  have : bm = 4 := by
    have e : nsFind (es3 w.params) "__builtins__" = some (.ref 4) := by rfl
    rw [show (fun x => nsFind (es3 w.params) x) "__builtins__" = nsFind (es3 w.params) "__builtins__" from rfl, e] at h1
    cases h1; rfl
  subst this
  exact ⟨ob, h3, h4, h5, h6⟩
noncomputable def startM (h : Heap) (L : Addr) (vs : List Value) : Map := (baseM h L).set L (.frz (lo vs 0))
inductive BaseAt (h : Heap) (L a : Addr) : Cel → Prop
  | tab {st} : a ≠ L → tabsL.lookup a = some st → BaseAt h L a (.tab st)
  | frz {o} : a ≠ L → tabsL.lookup a = none → h.get? a = some o → BaseAt h L a (.frz o)
  | pin {o} : a ≠ L → tabsL.lookup a = none → h.get? a = some o → BaseAt h L a (.pin o)
private theorem base_at' {h : Heap} {L a : Addr} {x : Cel} (e : (baseM h L).h a = some x) : BaseAt h L a x := by
  have e : (if a = L then none else (tabsL.lookup a).elim (heapC h a) fun st => some (.tab st)) = some x := e
  by_cases hl : a = L
  · rw [if_pos hl] at e; cases e
  · rw [if_neg hl] at e
    cases ht : tabsL.lookup a with
    | some st => rw [ht] at e; cases e; exact .tab hl ht
    | none =>
      rw [ht] at e
      obtain ⟨o, h1, h2⟩ := Option.map_eq_some_iff.mp e
      by_cases hs : a = sysModules
      · rw [if_pos hs] at h2; subst h2; exact .pin hl ht h1
      · rw [if_neg hs] at h2; subst h2; exact .frz hl ht h1
private theorem tab_all {P : Params} : ∀ p ∈ tabsL, (KF P).lookup p.1 = some (tabObj #[]) ∧ p.2.t = p.1 ∧ ∃ vs, (KF P).lookup p.2.c = some (codeO vs) ∧ vs[11]? = some (.ref p.1) :=
  allCons ⟨by rfl, by rfl, _, by rfl, by rfl⟩ (allCons ⟨by rfl, by rfl, _, by rfl, by rfl⟩ (allCons ⟨by rfl, by rfl, _, by rfl, by rfl⟩ (allCons ⟨by rfl, by rfl, _, by rfl, by rfl⟩ nofun)))
private theorem sep_start {P : Params} {w : World} {s₁ : Shared} {L : Addr} {vs : List Value} {mb : Str → Option Value} (k : Known P s₁.heap L mb) (hl : s₁.heap.get? L = some (lo vs 0)) (hg : s₁.gens = #[]) : Sep (ambL w s₁.heap L s₁.os) s₁ (startM s₁.heap L vs) [] := by
  have hn : (baseM s₁.heap L).h L = none := if_pos rfl
  have nomu : ∀ a j, (startM s₁.heap L vs).h a ≠ some (.mu j) := fun a j e => by
    by_cases h : a = L
    · rw [h] at e; rw [show (startM s₁.heap L vs).h L = _ from Map.set_at _ _ _] at e; cases e
    · cases base_at' ((Map.set_ne _ _ h).symm.trans e)
  exact {
    c := fun a x e => by
      by_cases h : a = L
      · subst h
        rw [show (startM s₁.heap a vs).h a = _ from Map.set_at _ _ _] at e
        cases e; exact .frz hl
      · cases base_at' ((Map.set_ne _ _ h).symm.trans e) with
        | frz _ _ g => exact .frz g
        | pin _ _ g => exact .pin g
        | @tab st _ g =>
          obtain ⟨h1, _⟩ := tab_all (P := P) _ (KF_mem g)
          exact .tab (ps := #[]) ⟨k.y a _ h1, trivial, fun pq zz cv h => by cases h⟩
    i := fun a b j e => absurd e (nomu a j)
    g := fun i x e => by cases e
    x := Map.le_set _ hn
    os := rfl
    bare := AllBare.of_eq hg }
private theorem old_end {P : Params} {w : World} {s₁ s' : Shared} {L : Addr} {vs : List Value} {mb : Str → Option Value} {M' : Map} {mem' : Mem} (k : Known P s₁.heap L mb) (hl : s₁.heap.get? L = some (lo vs 0)) (l : (startM s₁.heap L vs).le M') (S : Sep (ambL w s₁.heap L s₁.os) s' M' mem') : OldK s₁.heap s'.heap := by
  have all : ∀ b o, s₁.heap.get? b = some o → asItWas s₁.heap s'.heap b o ∧ ∃ o', s'.heap.get? b = some o' := fun b o ho => by
    by_cases hb : b = L
    · subst hb
      rw [hl] at ho; cases ho
      have := S.frz (l.h b (.frz (lo vs 0)) (Map.set_at _ _ _))
      exact ⟨.inl this, _, this⟩
    · cases ht : tabsL.lookup b with
      | some st =>
        obtain ⟨h1, h2, vs', h3, h4⟩ := tab_all (P := P) _ (KF_mem ht)
        have h5 := k.y b _ h1
        rw [ho] at h5; cases h5
        cases S.c _ _ (S.x.h _ _ (k.tab h1 ht)) with
        | @tab _ ps g => exact ⟨.inr (.inl ⟨⟨st.c, _, _, k.y st.c _ h3, rfl, rfl, by rw [List.getElem?_toArray]; exact h4⟩, rfl, #[], ps, rfl, by rw [g.g]; simp⟩), _, g.g⟩
      | none =>
        have e : (baseM s₁.heap L).h b = heapC s₁.heap b := (if_neg hb).trans (by rw [ht]; rfl)
        unfold heapC at e
        rw [ho] at e
        have : s'.heap.get? b = some o := by
          by_cases hs : b = sysModules
          · exact S.pin (S.x.h b (.pin o) (e.trans (congrArg some (if_pos hs))))
          · exact S.frz (S.x.h b (.frz o) (e.trans (congrArg some (if_neg hs))))
        exact ⟨.inl this, _, this⟩
  exact ⟨fun b o ho => (all b o ho).1, fun b o ho => (all b o ho).2⟩
private theorem post_ok (a : List WData) : lawRow.claim.post a (.bool true) a = true := by
  refine postW_of (r := lawRow.toRowW) (X := true) (by kernel_rfl) ?_ rfl
  show WTm.value _ (WTm.res.eq (WTm.lit (.bool true))) _ = _
  first | (simp [WTm.value]; done) | (simp [WTm.value, W.same]; done)
set_option tactic.hygienic true in
private theorem walk : WalkO viewP looseL (XL viewP []) hookL.says lawRow.toRowW lawD [] fun f vs => PySem.call f vs := by
  intro w s₀ s₁ mg mb G Y fa o pm cd doc dV kV ho hd hcd hD hmg hg args vals as hpre hlay hrd hwl hlo
  wrow_args hpre hlay hrd hwl hlo
  rename_i ns _ _ _ _ _ _ _ L vs _ hL _ hw _ hI _ hlen _
  have hl : s₁.heap.get? L = some (lo vs 0) := by
    obtain ⟨o1, e1, e2, n1, e3⟩ := hL
    cases hw with
    | list e4 _ =>
      rw [e1] at e4; cases e4
      rw [e1]
      cases e3; rfl
  obtain ⟨k, hm⟩ := known_of G Y hl
  have hfa : fa = 221 := by
    rw [hm] at hmg
    have e : nsFind (es3 w.params) lawD.name = some (.ref 221) := by kernel_rfl
    rw [show (fun x => nsFind (es3 w.params) x) lawD.name = nsFind (es3 w.params) lawD.name from rfl, e] at hmg
    cases hmg; rfl
  subst hfa
  refine op_law (D := 65) (X := ambL w s₁.heap L s₁.os) (ns := ns) k.knM k.law (by decide) (by omega) callerA ⟨s₁, startM s₁.heap L vs⟩ [.ref L] ⟨rfl, by decide, by decide⟩ (sep_start k hl hg) (.one (.lstOf (Map.set_at _ _ _) (reps_ints hI))) _ _ fun v d g => ?_
  have := g.r.i_bool
  subst this
  exact ⟨.inl ⟨_, .bool true, [], rfl, fun cls => by rfl, .bool true, post_ok _, fun zz => ⟨List.nodup_nil, fun a h => by cases h⟩⟩, old_end k hl g.l g.h, g.h.os, g.h.bare⟩
theorem final : PySem.Challenge.rw_wb0073_01.Holds := head hookL leftL walk
end
end Mine
theorem PySem.Challenge.cw_wb0073_01_holds : PySem.Challenge.rw_wb0073_01.Holds :=
  Mine.final
