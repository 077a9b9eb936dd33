import PyProof.Rows.All
import Wide.All
import OpenK.AllK
import Wide.FinOn
import Lean
import PySem.Challenge.RW_op0154_01
set_option Elab.async false
set_option maxRecDepth 100000
set_option linter.all false
set_option autoImplicit false
set_option genSizeOf false
set_option genInjectivity false
section
namespace Mine
open PySem

inductive AV where
  | none
  | bool (b : Bool)
  | int (i : Int)
  | bytes (b : List UInt8)
  | ref (i : Nat)
  | ext (v : Value)

structure Fn where
  params : List Str
  vararg : Option Str
  body : List Stmt
  scope : Scope

inductive AO where
  | list (vs : List AV)
  | flist (ns : List Int)
  | tuple (vs : List AV)
  | range (a b c : Int)
  | dict (es : List (Int × AV))
  | fdict (es : List (Int × AV))
  | items (d : Nat)
  | values (d : Nat)
  | set (xs : List Int)
  | bytearray (b : List UInt8)
  | inst (C : Addr) (d : Nat)
  | ns (fs : List (Str × AV))
  | slots (C : Addr) (d : Nat) (vs : List (Option AV))
  | iter (l k : Nat)
  | nextOf (it : Nat)
  | clos (fn : Fn) (x q : Str) (c d : Nat)
  | cell (v : AV)
  | code (q : Str)
  | tab (i : Nat) (p : Addr)
  | grown
  | junk

noncomputable abbrev Store := List AO

structure Prog where
  glob : Str → Option AV
  fn : Addr → Option Fn
  dflt : Addr → List AV
  meth : Addr → Str → Option Addr
  slotsOf : Addr → Option (List Str)
  isCls : Addr → Bool
  attrs : Addr → List Str
  maker : Addr → Option Addr
  miss : Addr

noncomputable def isLoc (sc : Scope) (x : Str) : Bool := match sc.names.lookup x with
  | some .local => true
  | some .cell => true
  | _ => false

inductive Fl where
  | next | brk | cont
  | ret (v : AV)

noncomputable def lsOf : Option AO → Option (List AV)
  | some (.list vs) => some vs
  | _ => Option.none
theorem lsOf_some {o : Option AO} {vs : List AV} (h : lsOf o = some vs) : o = some (.list vs) := by
  cases o with
  | none => cases h
  | some o => cases o <;> first | (cases h; done) | (cases h; rfl)
noncomputable def truth (σ : Store) : AV → Option Bool
  | .none => some false
  | .bool b => some b
  | .int i => some (i != 0)
  | .ref i => (lsOf σ[i]?).map fun vs => !vs.isEmpty
  | _ => Option.none

noncomputable def dget (es : List (Int × AV)) (k : Int) : Option AV := es.lookup k

noncomputable def dput : List (Int × AV) → Int → AV → List (Int × AV)
  | [], k, v => [(k, v)]
  | (k', v') :: r, k, v => if k = k' then (k', v) :: r else (k', v') :: dput r k v

noncomputable def ddel (es : List (Int × AV)) (k : Int) : List (Int × AV) := es.filter (fun e => e.1 != k)

noncomputable def fput : List (Str × AV) → Str → AV → List (Str × AV)
  | [], k, v => [(k, v)]
  | (k', v') :: r, k, v => if k = k' then (k', v) :: r else (k', v') :: fput r k v

noncomputable def asInts : List AV → Option (List Int)
  | [] => some []
  | .int i :: r => (asInts r).map (i :: ·)
  | _ => Option.none

noncomputable def rangeInts (a b c : Int) : List Int :=
  (List.range ((if 0 < c then (b - a + c - 1) / c else if c < 0 then (a - b - c - 1) / (-c) else 0).toNat)).map fun (k : Nat) => a + k * c

inductive Item where
  | one (v : AV)
  | two (k v : AV)

noncomputable def small (i : Int) : Bool := decide (i.natAbs < 2 ^ 20)

noncomputable def source (σ : Store) : AV → Option (Nat × AO × List Item)
  | .ref i => match σ[i]? with
    | some (.list vs) => some (i, .list vs, vs.map .one)
    | some (.tuple vs) => some (i, .tuple vs, vs.map .one)
    | some (.range a b c) => if small a && small b && small c && c != 0 then some (i, .range a b c, (rangeInts a b c).map fun k => .one (.int k)) else Option.none
    | some (.dict es) => some (i, .dict es, es.map fun e => .one (.int e.1))
    | some (.items d) => match σ[d]? with
      | some (.dict es) => some (d, .dict es, es.map fun e => .two (.int e.1) e.2)
      | _ => Option.none
    | some (.values d) => match σ[d]? with
      | some (.dict es) => some (d, .dict es, es.map fun e => .one e.2)
      | _ => Option.none
    | _ => Option.none
  | _ => Option.none

noncomputable def freeze : AO → AO
  | .dict es => .fdict es
  | o => o

noncomputable def isNoneV : AV → Option Bool
  | .none => some true
  | .ext _ => Option.none
  | _ => some false
noncomputable def isBoolV (q : Bool) : AV → Option Bool
  | .bool p => some (p == q)
  | _ => Option.none
noncomputable def isMissV (miss : Addr) (σ : Store) : AV → Option Bool
  | .ext (.ref k) => if k = miss then some true else Option.none
  | .bytes _ => some false
  | .ref i => (lsOf σ[i]?).map fun _ => false
  | _ => Option.none
noncomputable def isV (miss : Addr) (σ : Store) (a b : AV) : Option Bool := match b with
  | .none => isNoneV a
  | .bool q => isBoolV q a
  | .ext (.ref m) => if m = miss then isMissV miss σ a else Option.none
  | _ => Option.none

noncomputable def place (k : Int) (n : Nat) : Option Nat := if 0 ≤ k then (if k < n then some k.toNat else Option.none) else (if 0 ≤ k + n then some (k + n).toNat else Option.none)

noncomputable def clamp (k : Int) (n : Nat) : Nat := if 0 ≤ k then min k.toNat n else (k + n).toNat

noncomputable def notExt : AV → Bool
  | .ext _ => false
  | _ => true

noncomputable def insertI (x : Int) : List Int → List Int
  | [] => [x]
  | y :: r => if x ≤ y then x :: y :: r else y :: insertI x r

noncomputable def sortI (xs : List Int) : List Int := xs.foldr insertI []

inductive MK where
  | bi (id : String)
  | fn (a : Addr)

noncomputable def notBare : Expr → Bool
  | .Call (.Name _ _) [] [] _ => false
  | _ => true

noncomputable def noStar : List Expr → Bool
  | [] => true
  | .Starred _ _ :: _ => false
  | _ :: r => noStar r

noncomputable def plainCallee : Expr → Bool
  | .Name .. => true
  | .Subscript .. => true
  | _ => false

noncomputable def notComp : Expr → Bool
  | .ListComp .. => false
  | .SetComp .. => false
  | .DictComp .. => false
  | _ => true

noncomputable def isListComp : Expr → Bool
  | .ListComp .. => true
  | _ => false

noncomputable def notSlice : Expr → Bool
  | .Slice .. => false
  | _ => true

noncomputable def asOctets : List AV → Option (List UInt8)
  | [] => some []
  | .int i :: r => if 0 ≤ i ∧ i < 256 then (asOctets r).map (UInt8.ofNat i.toNat :: ·) else Option.none
  | _ => Option.none

noncomputable def bindArgs (fn : Fn) (dflt : List AV) (args : List AV) : Option (List (Str × AV) × List AV) :=
  let np := fn.params.length
  if args.length ≤ np then
    let need := np - args.length
    if need ≤ dflt.length then
      some (fn.params.zip (args ++ dflt.drop (dflt.length - need)), [])
    else Option.none
  else if fn.vararg.isSome then some (fn.params.zip (args.take np), args.drop np) else Option.none

noncomputable def compOk (sc csc : Scope) : Bool := csc.kind == .function && csc.names.all fun p => csc.names.lookup p.1 == some p.2 &&
  (p.2 == .local || p.2 == .cell || p.2 == .globalImplicit || (p.2 == .free && (sc.names.lookup p.1 == some .cell || sc.names.lookup p.1 == some .free)))

noncomputable def notSet : Expr → Bool
  | .Set .. => false
  | _ => true

noncomputable def genOk : Comprehension → Bool
  | ⟨_, .Set .., _, _⟩ => false
  | ⟨_, _, _, a⟩ => a == 0

noncomputable def isStar : Expr → Bool
  | .Starred .. => true
  | _ => false
end Mine
end

section
namespace Mine
open PySem PySem.W

structure Cx where
  prog : Program
  w : World
  P : Prog
  h₀ : Heap
  K : Frag
  fz : Addr → Option Obj

noncomputable def Cx.at (X : Cx) (a : Addr) : Option Obj := (X.h₀.get? a).or (X.fz a)
theorem Cx.at_base {X : Cx} {a : Addr} {o : Obj} (e : X.h₀.get? a = some o) : X.at a = some o := by unfold Cx.at; rw [e]; rfl
theorem Cx.at_none {X : Cx} {a : Addr} (e : X.at a = Option.none) : X.h₀.get? a = Option.none := by
  unfold Cx.at at e
  cases h : X.h₀.get? a with
  | none => rfl
  | some o => rw [h] at e; cases e

def VRep (ρ : List Addr) : AV → Value → Prop
  | .none, v => v = .none
  | .bool b, v => v = .bool b
  | .int i, v => ∃ t, v = .int i t
  | .bytes b, v => ∃ t, v = .bytes b.toArray t
  | .ref i, v => ∃ a, ρ[i]? = some a ∧ v = .ref a
  | .ext x, v => v = x

def VReps (ρ : List Addr) : List AV → List Value → Prop
  | [], [] => True
  | v :: vs, x :: xs => VRep ρ v x ∧ VReps ρ vs xs
  | _, _ => False

theorem pre_get {ρ ρ' : List Addr} (h : ρ <+: ρ') {i : Nat} {a : Addr} (e : ρ[i]? = some a) : ρ'[i]? = some a := by
  obtain ⟨t, rfl⟩ := h
  rw [List.getElem?_append_left (List.getElem?_eq_some_iff.mp e).1]; exact e

theorem VRep.mono {ρ ρ' : List Addr} (h : ρ <+: ρ') {v : AV} {x : Value} (r : VRep ρ v x) : VRep ρ' v x := by
  cases v with
  | ref i => obtain ⟨a, e, rfl⟩ := r; exact ⟨a, pre_get h e, rfl⟩
  | _ => exact r

theorem VReps.mono {ρ ρ' : List Addr} (h : ρ <+: ρ') : ∀ {vs : List AV} {xs : List Value}, VReps ρ vs xs → VReps ρ' vs xs
  | [], [], _ => trivial
  | _ :: _, _ :: _, r => ⟨r.1.mono h, VReps.mono h r.2⟩
  | [], _ :: _, r => r.elim
  | _ :: _, [], r => r.elim

theorem VReps.length {ρ : List Addr} : ∀ {vs : List AV} {xs : List Value}, VReps ρ vs xs → xs.length = vs.length
  | [], [], _ => rfl
  | _ :: _, _ :: _, r => by rw [List.length_cons, List.length_cons, VReps.length r.2]
  | [], _ :: _, r => r.elim
  | _ :: _, [], r => r.elim

theorem VReps.get {ρ : List Addr} : ∀ {vs : List AV} {xs : List Value}, VReps ρ vs xs → ∀ {i : Nat} {v : AV}, vs[i]? = some v → ∃ x, xs[i]? = some x ∧ VRep ρ v x
  | [], [], _, _, _, e => by simp at e
  | _ :: _, x :: _, r, 0, _, e => by simp at e; subst e; exact ⟨x, rfl, r.1⟩
  | _ :: vs, _ :: xs, r, i + 1, v, e => by
    simp only [List.getElem?_cons_succ] at e ⊢
    exact VReps.get r.2 e
  | [], _ :: _, r, _, _, _ => r.elim
  | _ :: _, [], r, _, _, _ => r.elim

theorem VReps.get' {ρ : List Addr} : ∀ {vs : List AV} {xs : List Value}, VReps ρ vs xs → ∀ {i : Nat} {x : Value}, xs[i]? = some x → ∃ v, vs[i]? = some v ∧ VRep ρ v x
  | [], [], _, _, _, e => by simp at e
  | v :: _, _ :: _, r, 0, _, e => by simp at e; subst e; exact ⟨v, rfl, r.1⟩
  | _ :: vs, _ :: xs, r, i + 1, v, e => by
    simp only [List.getElem?_cons_succ] at e ⊢
    exact VReps.get' r.2 e
  | [], _ :: _, r, _, _, _ => r.elim
  | _ :: _, [], r, _, _, _ => r.elim

theorem VReps.append {ρ : List Addr} : ∀ {vs : List AV} {xs : List Value} {us : List AV} {ys : List Value}, VReps ρ vs xs → VReps ρ us ys → VReps ρ (vs ++ us) (xs ++ ys)
  | [], [], _, _, _, r => r
  | _ :: _, _ :: _, _, _, r, r' => ⟨r.1, VReps.append r.2 r'⟩
  | [], _ :: _, _, _, r, _ => r.elim
  | _ :: _, [], _, _, r, _ => r.elim

theorem VReps.take {ρ : List Addr} : ∀ {vs : List AV} {xs : List Value} (n : Nat), VReps ρ vs xs → VReps ρ (vs.take n) (xs.take n)
  | _, _, 0, _ => by simp [VReps]
  | [], [], _ + 1, _ => trivial
  | _ :: _, _ :: _, n + 1, r => ⟨r.1, VReps.take n r.2⟩
  | [], _ :: _, _ + 1, r => r.elim
  | _ :: _, [], _ + 1, r => r.elim

theorem VReps.drop {ρ : List Addr} : ∀ {vs : List AV} {xs : List Value} (n : Nat), VReps ρ vs xs → VReps ρ (vs.drop n) (xs.drop n)
  | _, _, 0, r => by simpa using r
  | [], [], _ + 1, _ => trivial
  | _ :: vs, _ :: xs, n + 1, r => by simpa using VReps.drop n r.2
  | [], _ :: _, _ + 1, r => r.elim
  | _ :: _, [], _ + 1, r => r.elim

theorem VReps.reverse {ρ : List Addr} : ∀ {vs : List AV} {xs : List Value}, VReps ρ vs xs → VReps ρ vs.reverse xs.reverse
  | [], [], _ => trivial
  | v :: vs, x :: xs, r => by
    rw [List.reverse_cons, List.reverse_cons]
    exact VReps.append (VReps.reverse r.2) ⟨r.1, trivial⟩
  | [], _ :: _, r => r.elim
  | _ :: _, [], r => r.elim

def SRep (ρ : List Addr) : Option AV → Option Value → Prop
  | Option.none, x => x = Option.none
  | some v, x => ∃ u, x = some u ∧ VRep ρ v u
theorem SRep.mono {ρ ρ' : List Addr} (h : ρ <+: ρ') {v : Option AV} {x : Option Value} (r : SRep ρ v x) : SRep ρ' v x := by
  cases v with
  | none => exact r
  | some v => obtain ⟨u, e, r⟩ := r; exact ⟨u, e, r.mono h⟩
def SReps (ρ : List Addr) (vs : List (Option AV)) (xs : Array (Option Value)) : Prop := ∀ i : Nat, SRep ρ (vs[i]?).join (xs[i]?).join
theorem SReps.mono {ρ ρ' : List Addr} (h : ρ <+: ρ') {vs : List (Option AV)} {xs : Array (Option Value)} (r : SReps ρ vs xs) : SReps ρ' vs xs := fun i => (r i).mono h

def NReps (ρ : List Addr) : List (Str × AV) → List DictEntry → Prop
  | [], [] => True
  | f :: fs, e :: es => (∃ t, e.key = .str f.1 t) ∧ VRep ρ f.2 e.val ∧ NReps ρ fs es
  | _, _ => False
theorem NReps.mono {ρ ρ' : List Addr} (h : ρ <+: ρ') : ∀ {vs : List (Str × AV)} {xs : List DictEntry}, NReps ρ vs xs → NReps ρ' vs xs
  | [], [], _ => trivial
  | _ :: _, _ :: _, r => ⟨r.1, r.2.1.mono h, NReps.mono h r.2.2⟩
  | [], _ :: _, r => r.elim
  | _ :: _, [], r => r.elim

def DReps (ρ : List Addr) : List (Int × AV) → List (Int × Value) → Prop
  | [], [] => True
  | e :: es, x :: xs => e.1 = x.1 ∧ VRep ρ e.2 x.2 ∧ DReps ρ es xs
  | _, _ => False
theorem DReps.mono {ρ ρ' : List Addr} (h : ρ <+: ρ') : ∀ {vs : List (Int × AV)} {xs : List (Int × Value)}, DReps ρ vs xs → DReps ρ' vs xs
  | [], [], _ => trivial
  | _ :: _, _ :: _, r => ⟨r.1, r.2.1.mono h, DReps.mono h r.2.2⟩
  | [], _ :: _, r => r.elim
  | _ :: _, [], r => r.elim
theorem DReps.keys {ρ : List Addr} : ∀ {es : List (Int × AV)} {kvs : List (Int × Value)}, DReps ρ es kvs → kvs.map (·.1) = es.map (·.1)
  | [], [], _ => rfl
  | _ :: _, _ :: _, r => by rw [List.map_cons, List.map_cons, r.1, DReps.keys r.2.2]
  | [], _ :: _, r => r.elim
  | _ :: _, [], r => r.elim
theorem DReps.length {ρ : List Addr} {es : List (Int × AV)} {kvs : List (Int × Value)} (r : DReps ρ es kvs) : kvs.length = es.length := by
  have := congrArg List.length r.keys; simpa using this

structure ClosOk (fn : Fn) (x q : Str) (a b : Addr) (fd : FuncData) : Prop where
  scope : fd.scope = fn.scope
  co : fd.scope.isCoroutine = false
  gen : fd.scope.isGenerator = false
  body : fd.body = .stmts fn.body
  glob : fd.globals = mainGlobals
  bi : fd.builtins = builtinsNs
  code : fd.code = .ref b
  qual : fd.qualname = q
  clo : fd.closure = [(x, a)]
  pos : fd.params.posonlyargs = []
  args : fd.params.args.map (·.arg) = fn.params
  kwonly : fd.params.kwonlyargs = []
  kwarg : fd.params.kwarg = Option.none
  vararg : fd.params.vararg = Option.none
  dflt : fd.defaults = .none

def OR (X : Cx) (ρ : List Addr) (o : Obj) : AO → Prop
  | .list vs => (∃ xs n, o = { cls := .type "list", data := .seq xs n } ∧ VReps ρ vs xs.toList) ∧ vs.length ≤ 1000000
  | .flist ns => (∃ xs n, (o.cls = .type "list" ∧ o.data = .seq xs n) ∧ VReps ρ (ns.map .int) xs.toList) ∧ ns.length ≤ 1000000
  | .tuple vs => (∃ xs n, o = { cls := .type "tuple", data := .seq xs n } ∧ VReps ρ vs xs.toList) ∧ vs.length ≤ 1000000
  | .range a b c => ∃ t u v, o = { cls := .type "range", data := .fields #[.int a t, .int b u, .int c v] }
  | .dict es => o.ExactDict ∧ ∃ ds ep kvs, o.data = .dict ds ep ∧ KeysOf (intKind X.prog X.w) ds ∧ Pairs (intKind X.prog X.w) ds.toList kvs ∧ (kvs.map (·.1)).Nodup ∧ DReps ρ es kvs ∧ es.length ≤ 1000
  | .fdict es => o.ExactDict ∧ ∃ ds ep kvs, o.data = .dict ds ep ∧ KeysOf (intKind X.prog X.w) ds ∧ Pairs (intKind X.prog X.w) ds.toList kvs ∧ (kvs.map (·.1)).Nodup ∧ DReps ρ es kvs ∧ es.length ≤ 1000
  | .items d => ∃ a, ρ[d]? = some a ∧ o.cls = .type "dict_items" ∧ o.dict = Option.none ∧ o.data = .fields #[.ref a]
  | .values d => ∃ a, ρ[d]? = some a ∧ o.cls = .type "dict_values" ∧ o.dict = Option.none ∧ o.data = .fields #[.ref a]
  | .set xs => o.SetObjOf (intKind X.prog X.w) (fun k => xs.contains k) xs.length ∧ xs.length ≤ 1000
  | .bytearray b => o = { cls := .type "bytearray", data := .bytearray b.toArray 0 }
  | .inst C d => ∃ a, ρ[d]? = some a ∧ o = { cls := .ref C, dict := some a, data := .plain }
  | .ns fs => o.cls = .type "dict" ∧ o.dict = Option.none ∧ o.slots = #[] ∧ (∃ ds ep, o.data = .dict ds ep ∧ NReps ρ fs ds.toList) ∧ (fs.map (·.1)).Nodup ∧ fs.length ≤ 100
  | .slots C d vs => ∃ a, ρ[d]? = some a ∧ o.cls = .ref C ∧ o.dict = some a ∧ o.data = .plain ∧ SReps ρ vs o.slots
  | .iter l k => ∃ a, ρ[l]? = some a ∧ o.cls = .type "list_iterator" ∧ o.data = .fields #[.ref a, .int k 0] ∧ (k = 0 → o.dict = Option.none)
  | .nextOf it => ∃ a, ρ[it]? = some a ∧ o = { cls := .type "method-wrapper", data := .fields #[.builtin "list_iterator.__next__", .ref a] }
  | .clos fn x q c d => ∃ a b fd, ρ[c]? = some a ∧ ρ[d]? = some b ∧ o.data = .func fd ∧ ClosOk fn x q a b fd
  | .cell v => ∃ x, o.data = .cell (some x) ∧ VRep ρ v x
  | .code q => ∃ vs t, o.data = .fields vs ∧ vs[1]? = some (.str q t)
  | .tab i p => ρ[i]? = some p ∧ o = PySem.W.tabObj #[]
  | .grown => ∃ ps, o = PySem.W.tabObj ps
  | .junk => True

theorem OR.mono {X : Cx} {ρ ρ' : List Addr} (h : ρ <+: ρ') {o : Obj} {a : AO} (r : OR X ρ o a) : OR X ρ' o a := by
  cases a with
  | list vs => obtain ⟨⟨xs, n, h3, h4⟩, h5⟩ := r; exact ⟨⟨xs, n, h3, h4.mono h⟩, h5⟩
  | flist vs => obtain ⟨⟨xs, n, h3, h4⟩, h5⟩ := r; exact ⟨⟨xs, n, h3, h4.mono h⟩, h5⟩
  | tuple vs => obtain ⟨⟨xs, n, h3, h4⟩, h5⟩ := r; exact ⟨⟨xs, n, h3, h4.mono h⟩, h5⟩
  | dict es => obtain ⟨h1, ds, ep, kvs, h2, h3, h4, h5, h6, h7⟩ := r; exact ⟨h1, ds, ep, kvs, h2, h3, h4, h5, h6.mono h, h7⟩
  | fdict es => obtain ⟨h1, ds, ep, kvs, h2, h3, h4, h5, h6, h7⟩ := r; exact ⟨h1, ds, ep, kvs, h2, h3, h4, h5, h6.mono h, h7⟩
  | items d => obtain ⟨a, e, r⟩ := r; exact ⟨a, pre_get h e, r⟩
  | values d => obtain ⟨a, e, r⟩ := r; exact ⟨a, pre_get h e, r⟩
  | inst C d => obtain ⟨a, e, r⟩ := r; exact ⟨a, pre_get h e, r⟩
  | ns fs => obtain ⟨h1, h2, h3, ⟨ds, ep, h4, h5⟩, h6⟩ := r; exact ⟨h1, h2, h3, ⟨ds, ep, h4, h5.mono h⟩, h6⟩
  | slots C d vs => obtain ⟨a, e, h1, h2, h3, h4⟩ := r; exact ⟨a, pre_get h e, h1, h2, h3, h4.mono h⟩
  | iter l k => obtain ⟨a, e, r⟩ := r; exact ⟨a, pre_get h e, r⟩
  | nextOf l => obtain ⟨a, e, r⟩ := r; exact ⟨a, pre_get h e, r⟩
  | clos f y q c d => obtain ⟨a, b, fd, e, e', r⟩ := r; exact ⟨a, b, fd, pre_get h e, pre_get h e', r⟩
  | tab i p => exact ⟨pre_get h r.1, r.2⟩
  | cell v => obtain ⟨x, e, r⟩ := r; exact ⟨x, e, r.mono h⟩
  | _ => exact r

noncomputable def AO.frozen : AO → Bool
  | .flist _ => true
  | .fdict _ => true
  | .cell _ => true
  | _ => false

structure Rep (X : Cx) (ρ : List Addr) (σ : Store) (h : Heap) : Prop where
  len : ρ.length = σ.length
  nodup : ρ.Nodup
  obj : ∀ (i : Nat) (a : Addr) (ao : AO), ρ[i]? = some a → σ[i]? = some ao → ∃ o, h.get? a = some o ∧ OR X ρ o ao
  newA : ∀ (i : Nat) (a : Addr) (ao : AO), ρ[i]? = some a → σ[i]? = some ao → ao.frozen = false → X.at a = Option.none
  keepA : ∀ (b : Addr) (o : Obj), X.at b = some o → h.get? b = some o

theorem Rep.new {X : Cx} {ρ : List Addr} {σ : Store} {h : Heap} (r : Rep X ρ σ h) (i : Nat) (a : Addr) (ao : AO) (h1 : ρ[i]? = some a) (h2 : σ[i]? = some ao) (h3 : ao.frozen = false) : X.h₀.get? a = Option.none := Cx.at_none (r.newA i a ao h1 h2 h3)
theorem Rep.keep {X : Cx} {ρ : List Addr} {σ : Store} {h : Heap} (r : Rep X ρ σ h) (b : Addr) (o : Obj) (e : X.h₀.get? b = some o) : h.get? b = some o := r.keepA b o (Cx.at_base e)

def Sim (o o' : Obj) : Prop := o' = o ∨ ((∃ es ep, o.data = .dict es ep) ∧ ∃ sl, o' = { o with slots := sl })
theorem Sim.refl (o : Obj) : Sim o o := .inl rfl
theorem Sim.trans {a b c : Obj} (x : Sim a b) (y : Sim b c) : Sim a c := by
  rcases x with rfl | ⟨⟨es, ep, hd⟩, sl, rfl⟩
  · exact y
  · rcases y with rfl | ⟨_, sl', rfl⟩
    · exact .inr ⟨⟨es, ep, hd⟩, sl, rfl⟩
    · exact .inr ⟨⟨es, ep, hd⟩, sl', rfl⟩
theorem Sim.data {a b : Obj} (x : Sim a b) : b.data = a.data := by
  rcases x with rfl | ⟨_, sl, rfl⟩ <;> rfl
theorem Sim.eq {a b : Obj} (x : Sim a b) (h : ∀ es ep, a.data ≠ .dict es ep) : b = a := by
  rcases x with rfl | ⟨⟨es, ep, hd⟩, _⟩
  · rfl
  · exact absurd hd (h es ep)

structure Grow (own : Addr → Prop) (ρ : List Addr) (s : Shared) (ρ' : List Addr) (s' : Shared) : Prop where
  pre : ρ <+: ρ'
  fresh : ∀ b ∈ ρ', b ∈ ρ ∨ s.heap.get? b = Option.none
  live : ∀ (b : Addr) (o : Obj), s.heap.get? b = some o → ∃ o', s'.heap.get? b = some o'
  kept : ∀ (b : Addr) (o : Obj), s.heap.get? b = some o → b ∉ ρ → ¬ own b → ∃ o', s'.heap.get? b = some o' ∧ Sim o o'
  gens : s'.gens = s.gens
  os : s'.os = s.os

theorem Grow.refl {own : Addr → Prop} {ρ : List Addr} {s : Shared} : Grow own ρ s ρ s :=
  ⟨List.prefix_rfl, fun _ hb => .inl hb, fun _ o e => ⟨o, e⟩, fun _ o e _ _ => ⟨o, e, .refl o⟩, rfl, rfl⟩
theorem Grow.notIn {own : Addr → Prop} {ρ ρ' : List Addr} {s s' : Shared} (g : Grow own ρ s ρ' s') {b : Addr} {o : Obj} (hb : s.heap.get? b = some o) (hn : b ∉ ρ) : b ∉ ρ' := fun h => by
  rcases g.fresh b h with h | h
  · exact hn h
  · rw [hb] at h; cases h
theorem Grow.trans {own : Addr → Prop} {ρ₁ ρ₂ ρ₃ : List Addr} {s₁ s₂ s₃ : Shared} (x : Grow own ρ₁ s₁ ρ₂ s₂) (y : Grow own ρ₂ s₂ ρ₃ s₃) : Grow own ρ₁ s₁ ρ₃ s₃ where
  pre := x.pre.trans y.pre
  fresh := fun b hb => by
    rcases y.fresh b hb with h | h
    · exact x.fresh b h
    · cases e : s₁.heap.get? b with
      | none => exact .inr rfl
      | some o => obtain ⟨o', e'⟩ := x.live b o e; rw [e'] at h; cases h
  live := fun b o e => by
    obtain ⟨o', e'⟩ := x.live b o e
    exact y.live b o' e'
  kept := fun b o e hn ho => by
    obtain ⟨o', e', s'⟩ := x.kept b o e hn ho
    obtain ⟨o'', e'', s''⟩ := y.kept b o' e' (x.notIn e hn) ho
    exact ⟨o'', e'', s'.trans s''⟩
  gens := y.gens.trans x.gens
  os := y.os.trans x.os
theorem Grow.own {own own' : Addr → Prop} {ρ ρ' : List Addr} {s s' : Shared} (g : Grow own ρ s ρ' s') (h : ∀ b, own b → own' b ∨ s.heap.get? b = Option.none) : Grow own' ρ s ρ' s' :=
  ⟨g.pre, g.fresh, g.live, (fun b o e hn ho => g.kept b o e hn fun q => (h b q).elim ho fun z => (by rw [e] at z; cases z)), g.gens, g.os⟩

abbrev Bs := List (Str × AV)
def Cx.CellAt (X : Cx) (fr : Prop) (c : Addr) (u : Option Value) (ρ : List Addr) : Prop := (c ∉ ρ ∧ X.at c = Option.none) ∨ (fr ∧ ∃ o, X.at c = some o ∧ o.data = .cell u)
structure InFr (X : Cx) (sc : Scope) (env : Env) (ρ : List Addr) (bs : Bs) (h : Heap) : Prop where
  kind : env.scope.kind = .function
  glob : env.globals = mainGlobals
  bi : env.builtins = builtinsNs
  names : ∀ x k, sc.names.lookup x = some k → env.kindOf x = some k ∨ (k = .free ∧ env.kindOf x = some .cell)
  ns : ∃ m, h.Ns env.locals m ∧ ∀ x v, sc.names.lookup x = some .local → bs.lookup x = some v → ∃ u, m x = some u ∧ VRep ρ v u
  notIn : env.locals ∉ ρ
  new : X.at env.locals = Option.none
  cell : ∀ x, (sc.names.lookup x = some .cell ∨ sc.names.lookup x = some .free) → ∃ c u, env.cells.lookup x = some c ∧ h.IsCell c u ∧ X.CellAt (sc.names.lookup x = some .free) c u ρ ∧ ∀ v, bs.lookup x = some v → ∃ u', u = some u' ∧ VRep ρ v u'
  apart : ∀ x y c, (sc.names.lookup x = some .cell ∨ sc.names.lookup x = some .free) → (sc.names.lookup y = some .cell ∨ sc.names.lookup y = some .free) → env.cells.lookup x = some c → env.cells.lookup y = some c → x = y

structure OkA (X : Cx) (A : Around) (n : Nat) (ρ : List Addr) (h : Heap) : Prop where
  handled : A.handled = Option.none
  depth : A.depth + 2 * n < 900
  units : A.units + 20 * n < 9000
  frames : ∃ fr, A.frames = some fr ∧ ∀ e ∈ fr, e.scope.kind = .function ∧ ∃ L o es ep, e.frame = some L ∧ h.get? L = some o ∧ o.data = .dict es ep ∧ L ∉ ρ ∧ X.at L = Option.none

def Own (sc : Scope) (env : Env) (b : Addr) : Prop := b = env.locals ∨ ∃ x, sc.names.lookup x = some .cell ∧ env.cells.lookup x = some b

structure Inv (X : Cx) (sc : Scope) (env : Env) (A : Around) (n : Nat) (ρ : List Addr) (bs : Bs) (σ : Store) (s : Shared) : Prop where
  rep : Rep X ρ σ s.heap
  fr : InFr X sc env ρ bs s.heap
  ok : OkA X A n ρ s.heap

theorem Heap.noneOf {h : Heap} {a : Addr} (ha : h.objs.size ≤ a) : h.get? a = Option.none := by
  cases e : h.get? a with
  | none => rfl
  | some o => exact absurd (Heap.lt_size e) (Nat.not_lt.mpr ha)

theorem Rep.there {X : Cx} {ρ : List Addr} {σ : Store} {h : Heap} (r : Rep X ρ σ h) {a : Addr} (ha : a ∈ ρ) : ∃ o, h.get? a = some o := by
  obtain ⟨i, hi, e⟩ := List.getElem_of_mem ha
  have hi' : i < σ.length := r.len ▸ hi
  obtain ⟨o, ho, _⟩ := r.obj i a σ[i] (by rw [List.getElem?_eq_getElem hi, e]) (by rw [List.getElem?_eq_getElem hi'])
  exact ⟨o, ho⟩
theorem Rep.addr {X : Cx} {ρ : List Addr} {σ : Store} {h : Heap} (r : Rep X ρ σ h) {i : Nat} {ao : AO} (e : σ[i]? = some ao) : ∃ a, ρ[i]? = some a := by
  have hi := (List.getElem?_eq_some_iff.mp e).1
  exact ⟨ρ[i]'(r.len ▸ hi), List.getElem?_eq_getElem _⟩
theorem Rep.at {X : Cx} {ρ : List Addr} {σ : Store} {h : Heap} (r : Rep X ρ σ h) {i : Nat} {ao : AO} (e : σ[i]? = some ao) : ∃ a o, ρ[i]? = some a ∧ h.get? a = some o ∧ OR X ρ o ao := by
  obtain ⟨a, ha⟩ := r.addr e
  obtain ⟨o, ho, hr⟩ := r.obj i a ao ha e
  exact ⟨a, o, ha, ho, hr⟩
theorem Heap.Ns.sim {h h' : Heap} {a : Addr} {m : Str → Option Value} (hn : h.Ns a m) (k : ∀ o, h.get? a = some o → ∃ o', h'.get? a = some o' ∧ Sim o o') : h'.Ns a m := by
  obtain ⟨o, es, ep, ho, hd, r⟩ := hn
  obtain ⟨o', ho', hs⟩ := k o ho
  exact ⟨o', es, ep, ho', hs.data.trans hd, r⟩
theorem Heap.IsCell.sim {h h' : Heap} {a : Addr} {v : Option Value} (hn : h.IsCell a v) (k : ∀ o, h.get? a = some o → ∃ o', h'.get? a = some o' ∧ Sim o o') : h'.IsCell a v := by
  obtain ⟨o, ho, hd⟩ := hn
  obtain ⟨o', ho', hs⟩ := k o ho
  exact ⟨o', ho', hs.data.trans hd⟩
theorem Heap.Ns.there {h : Heap} {a : Addr} {m : Str → Option Value} (hn : h.Ns a m) : ∃ o, h.get? a = some o := let ⟨o, _, _, e, _⟩ := hn; ⟨o, e⟩

def noOwn (_ : Addr) : Prop := False

theorem InFr.step {X : Cx} {sc : Scope} {env : Env} {ρ ρ' : List Addr} {bs : Bs} {s s' : Shared} (f : InFr X sc env ρ bs s.heap) (g : Grow noOwn ρ s ρ' s') (k : ∀ b o, X.at b = some o → s'.heap.get? b = some o) : InFr X sc env ρ' bs s'.heap where
  kind := f.kind
  glob := f.glob
  bi := f.bi
  names := f.names
  ns := by
    obtain ⟨m, hm, hv⟩ := f.ns
    refine ⟨m, Heap.Ns.sim hm fun o e => g.kept _ o e f.notIn id, fun x v hx hl => ?_⟩
    obtain ⟨u, hu, r⟩ := hv x v hx hl
    exact ⟨u, hu, r.mono g.pre⟩
  notIn := by
    obtain ⟨m, hm, _⟩ := f.ns
    obtain ⟨o, eo⟩ := Heap.Ns.there hm
    exact g.notIn eo f.notIn
  new := f.new
  cell := fun x hx => by
    obtain ⟨c, u, h1, h2, h3, h5⟩ := f.cell x hx
    refine ⟨c, u, h1, ?_, ?_, fun v hv => ?_⟩
    · rcases h3 with h3 | ⟨_, o, e, d⟩
      · exact Heap.IsCell.sim h2 fun o e => g.kept _ o e h3.1 id
      · exact ⟨o, k c o e, d⟩
    · rcases h3 with h3 | h3
      · exact .inl ⟨(let ⟨_, eo, _⟩ := h2; g.notIn eo h3.1), h3.2⟩
      · exact .inr h3
    obtain ⟨u', e, r⟩ := h5 v hv
    exact ⟨u', e, r.mono g.pre⟩
  apart := f.apart

theorem OkA.step {X : Cx} {A : Around} {n : Nat} {ρ ρ' : List Addr} {s s' : Shared} (f : OkA X A n ρ s.heap) (g : Grow noOwn ρ s ρ' s') : OkA X A n ρ' s'.heap where
  handled := f.handled
  depth := f.depth
  units := f.units
  frames := by
    obtain ⟨fr, h1, h2⟩ := f.frames
    refine ⟨fr, h1, fun e he => ?_⟩
    obtain ⟨hk, L, o, es, ep, hf, ho, hd, hn, hb⟩ := h2 e he
    obtain ⟨o', ho', hs⟩ := g.kept L o ho hn id
    exact ⟨hk, L, o', es, ep, hf, ho', hs.data.trans hd, g.notIn ho hn, hb⟩

theorem Grow.weaken {own : Addr → Prop} {ρ ρ' : List Addr} {s s' : Shared} (g : Grow noOwn ρ s ρ' s') : Grow own ρ s ρ' s' := g.own fun _ h => h.elim

theorem Inv.step {X : Cx} {sc : Scope} {env : Env} {A : Around} {n : Nat} {ρ ρ' : List Addr} {bs : Bs} {σ σ' : Store} {s s' : Shared} (i : Inv X sc env A n ρ bs σ s) (g : Grow noOwn ρ s ρ' s') (r : Rep X ρ' σ' s'.heap) :
    Inv X sc env A n ρ' bs σ' s' := ⟨r, i.fr.step g r.keepA, i.ok.step g⟩

theorem Grow.same {own : Addr → Prop} {ρ : List Addr} {s s' : Shared} (h : s'.heap = s.heap) (hg : s'.gens = s.gens) (ho : s'.os = s.os) : Grow own ρ s ρ s' :=
  ⟨List.prefix_rfl, fun _ hb => .inl hb, fun _ o e => ⟨o, by rw [h]; exact e⟩, fun _ o e _ _ => ⟨o, by rw [h]; exact e, .refl o⟩, hg, ho⟩
theorem Inv.same {X : Cx} {sc : Scope} {env : Env} {A : Around} {n : Nat} {ρ : List Addr} {bs : Bs} {σ : Store} {s s' : Shared} (i : Inv X sc env A n ρ bs σ s) (h : s'.heap = s.heap) : Inv X sc env A n ρ bs σ s' := by
  obtain ⟨r, f, o⟩ := i
  exact ⟨by rw [h]; exact r, by rw [h]; exact f, by rw [h]; exact o⟩

theorem Grow.ext {own : Addr → Prop} {ρ : List Addr} {s s' : Shared} (k : ∀ b o, s.heap.get? b = some o → s'.heap.get? b = some o) (hg : s'.gens = s.gens) (ho : s'.os = s.os) : Grow own ρ s ρ s' :=
  ⟨List.prefix_rfl, fun _ hb => .inl hb, fun b o e => ⟨o, k b o e⟩, fun b o e _ _ => ⟨o, k b o e, .refl o⟩, hg, ho⟩
theorem Rep.ext {X : Cx} {ρ : List Addr} {σ : Store} {h h' : Heap} (r : Rep X ρ σ h) (k : ∀ b o, h.get? b = some o → h'.get? b = some o) : Rep X ρ σ h' where
  len := r.len
  nodup := r.nodup
  obj := fun i a ao ha hao => let ⟨o, e, q⟩ := r.obj i a ao ha hao; ⟨o, k a o e, q⟩
  newA := r.newA
  keepA := fun b o e => k b o (r.keepA b o e)
theorem Inv.ext {X : Cx} {sc : Scope} {env : Env} {A : Around} {n : Nat} {ρ : List Addr} {bs : Bs} {σ : Store} {s s' : Shared} (i : Inv X sc env A n ρ bs σ s) (k : ∀ b o, s.heap.get? b = some o → s'.heap.get? b = some o)
    (hg : s'.gens = s.gens) (ho : s'.os = s.os) : Inv X sc env A n ρ bs σ s' := i.step (Grow.ext k hg ho) (i.rep.ext k)

theorem Rep.alloc {X : Cx} {ρ : List Addr} {σ : Store} {h h' : Heap} {a : Addr} {o : Obj} {ao : AO} (r : Rep X ρ σ h) (k : ∀ b o, h.get? b = some o → h'.get? b = some o) (ha : h.get? a = Option.none) (hg : h'.get? a = some o) (q : OR X (ρ ++ [a]) o ao) :
    Rep X (ρ ++ [a]) (σ ++ [ao]) h' where
  len := by simp [r.len]
  nodup := by
    rw [List.nodup_append]
    refine ⟨r.nodup, by simp, fun x hx y hy => ?_⟩
    simp only [List.mem_singleton] at hy
    subst hy
    intro q; subst q
    obtain ⟨o', e'⟩ := r.there hx
    rw [e'] at ha; cases ha
  obj := fun i b bo hb hbo => by
    rcases Nat.lt_or_ge i σ.length with hi | hi
    · rw [List.getElem?_append_left hi] at hbo
      rw [List.getElem?_append_left (r.len ▸ hi)] at hb
      obtain ⟨o', e, q'⟩ := r.obj i b bo hb hbo
      exact ⟨o', k b o' e, q'.mono (List.prefix_append ..)⟩
    · rw [List.getElem?_append_right hi] at hbo
      rw [List.getElem?_append_right (r.len ▸ hi)] at hb
      rw [r.len] at hb
      cases hj : i - σ.length with
      | zero => rw [hj] at hb hbo; simp at hb hbo; subst hb; subst hbo; exact ⟨o, hg, q⟩
      | succ j => rw [hj] at hb; simp at hb
  newA := fun i b bo hb hbo hf => by
    rcases Nat.lt_or_ge i σ.length with hi | hi
    · rw [List.getElem?_append_left hi] at hbo
      rw [List.getElem?_append_left (r.len ▸ hi)] at hb
      exact r.newA i b bo hb hbo hf
    · rw [List.getElem?_append_right (r.len ▸ hi), r.len] at hb
      cases hj : i - σ.length with
      | zero =>
        rw [hj] at hb; simp at hb; subst hb
        cases e : X.at a with
        | none => rfl
        | some o' => rw [r.keepA a o' e] at ha; cases ha
      | succ j => rw [hj] at hb; simp at hb
  keepA := fun b o e => k b o (r.keepA b o e)
theorem Grow.alloc {own : Addr → Prop} {ρ : List Addr} {s s' : Shared} {a : Addr} (k : ∀ b o, s.heap.get? b = some o → s'.heap.get? b = some o) (ha : s.heap.get? a = Option.none) (hg : s'.gens = s.gens) (ho : s'.os = s.os) :
    Grow own ρ s (ρ ++ [a]) s' :=
  ⟨List.prefix_append .., fun b hb => by
    rcases List.mem_append.mp hb with h | h
    · exact .inl h
    · simp only [List.mem_singleton] at h; subst h; exact .inr ha, fun b o e => ⟨o, k b o e⟩, fun b o e _ _ => ⟨o, k b o e, .refl o⟩, hg, ho⟩

theorem push_keeps (h : Heap) (o : Obj) : ∀ b o', h.get? b = some o' → (h.push o).get? b = some o' := fun _ _ e => Heap.get?_push_of_some o e

theorem Rep.put {X : Cx} {ρ : List Addr} {σ : Store} {h h' : Heap} {i : Nat} {a : Addr} {o : Obj} {ao ao' : AO} (r : Rep X ρ σ h) (ha : ρ[i]? = some a) (hao : σ[i]? = some ao) (hf : ao.frozen = false)
    (k : ∀ b o, b ≠ a → h.get? b = some o → h'.get? b = some o) (hg : h'.get? a = some o) (q : OR X ρ o ao') : Rep X ρ (σ.set i ao') h' where
  len := by simp [r.len]
  nodup := r.nodup
  obj := fun j b bo hb hbo => by
    by_cases hj : i = j
    · subst hj
      rw [ha] at hb; cases hb
      rw [List.getElem?_set_self (List.getElem?_eq_some_iff.mp hao).1] at hbo
      cases hbo
      exact ⟨o, hg, q⟩
    · rw [List.getElem?_set_ne hj] at hbo
      obtain ⟨o', e, q'⟩ := r.obj j b bo hb hbo
      refine ⟨o', k b o' (fun e' => hj ?_) e, q'⟩
      subst e'
      have h1 := List.getElem?_eq_some_iff.mp ha
      have h2 := List.getElem?_eq_some_iff.mp hb
      have hp := List.pairwise_iff_getElem.mp r.nodup
      rcases Nat.lt_trichotomy i j with q | q | q
      · exact absurd (h1.2.trans h2.2.symm) (hp i j h1.1 h2.1 q)
      · exact q
      · exact absurd (h2.2.trans h1.2.symm) (hp j i h2.1 h1.1 q)
  newA := fun j b bo hb hbo hfr => by
    by_cases hj : i = j
    · subst hj; exact r.newA i b ao hb hao hf
    · rw [List.getElem?_set_ne hj] at hbo; exact r.newA j b bo hb hbo hfr
  keepA := fun b o' e => k b o' (fun q => by subst q; rw [r.newA i b ao ha hao hf] at e; cases e) (r.keepA b o' e)
theorem Grow.put {own : Addr → Prop} {ρ : List Addr} {s s' : Shared} {a : Addr} (ha : a ∈ ρ) (k : ∀ b o, b ≠ a → s.heap.get? b = some o → s'.heap.get? b = some o) (hat : ∃ o, s'.heap.get? a = some o) (hg : s'.gens = s.gens) (ho : s'.os = s.os) : Grow own ρ s ρ s' :=
  ⟨List.prefix_rfl, fun _ hb => .inl hb, fun b o e => (if q : b = a then q ▸ hat else ⟨o, k b o q e⟩), fun b o e hn _ => ⟨o, k b o (fun q => hn (q ▸ ha)) e, .refl o⟩, hg, ho⟩
end Mine
end

section
namespace Mine
open PySem PySem.W PyProof.Rows PySem.Calls

def Sub (bs bs' : Bs) : Prop := ∀ x v, bs.lookup x = some v → bs'.lookup x = some v
theorem InFr.sub {X : Cx} {sc : Scope} {env : Env} {ρ : List Addr} {bs bs' : Bs} {h : Heap} (f : InFr X sc env ρ bs' h) (s : Sub bs bs') : InFr X sc env ρ bs h :=
  ⟨f.kind, f.glob, f.bi, f.names, (let ⟨m, h1, h2⟩ := f.ns; ⟨m, h1, fun x v hx hv => h2 x v hx (s x v hv)⟩), f.notIn, f.new, fun x hx => (let ⟨c, u, h1, h2, h3, h5⟩ := f.cell x hx; ⟨c, u, h1, h2, h3, fun v hv => h5 v (s x v hv)⟩), f.apart⟩
theorem wp_store {X : Cx} {sc : Scope} {env : Env} {A : Around} {n : Nat} {ρ : List Addr} {bs : Bs} {σ : Store} {s : Shared} {x : Str} {v : AV} {u : Value} (i : Inv X sc env A n ρ bs σ s) (hv : VRep ρ v u)
    (hx : sc.names.lookup x = some .local ∨ sc.names.lookup x = some .cell) :
    wpAny (model X.prog X.w) A (storeName env x u) (fun _ s' => Inv X sc env A n ρ ((x, v) :: bs) σ s' ∧ Grow (Own sc env) ρ s ρ s') (fun _ _ => False) s := by
  have look : ∀ y w, ((x, v) :: bs).lookup y = some w → (y = x ∧ w = v) ∨ (y ≠ x ∧ bs.lookup y = some w) := fun y w h => by
    rw [List.lookup_cons] at h
    split at h
    · rename_i q; exact .inl ⟨by simpa using q, (Option.some.inj h).symm⟩
    · rename_i q; exact .inr ⟨by simpa using q, h⟩
  obtain ⟨m, hm, hmv⟩ := i.fr.ns
  have hp : (env.scope.kind == .class || (env.scope.kind == .module && env.locals != env.globals)) = false := by rw [i.fr.kind]; rfl
  have fin : ∀ (b : Addr) (h' : Heap), (∀ c o, c ≠ b → s.heap.get? c = some o → h'.get? c = some o) → b ∉ ρ → X.at b = none → Own sc env b → (∃ o, h'.get? b = some o) → InFr X sc env ρ ((x, v) :: bs) h' →
      (∀ L o es ep, L = b → s.heap.get? L = some o → o.data = .dict es ep → ∃ o' es' ep', h'.get? L = some o' ∧ o'.data = .dict es' ep') → ∀ s' : Shared, s'.heap = h' → s'.gens = s.gens → s'.os = s.os → Inv X sc env A n ρ ((x, v) :: bs) σ s' ∧ Grow (Own sc env) ρ s ρ s' := by
    intro b h' kp hb hat how hth hfr hfd s' e1 e2 e3
    subst e1
    refine ⟨⟨⟨i.rep.len, i.rep.nodup, fun j a ao ha hao => ?_, i.rep.newA, fun c o e => ?_⟩, hfr, ⟨i.ok.handled, i.ok.depth, i.ok.units, ?_⟩⟩, ⟨List.prefix_rfl, fun _ hb => .inl hb, fun c o e => ?_, fun c o e _ hno => ⟨o, kp c o (fun q => hno (q ▸ how)) e, .refl o⟩, e2, e3⟩⟩
    · obtain ⟨o, e, q⟩ := i.rep.obj j a ao ha hao
      exact ⟨o, kp a o (fun q => hb (q ▸ List.mem_of_getElem? ha)) e, q⟩
    · exact kp c o (fun q => by rw [q, hat] at e; cases e) (i.rep.keepA c o e)
    · obtain ⟨fr, h1, h2⟩ := i.ok.frames
      refine ⟨fr, h1, fun e he => ?_⟩
      obtain ⟨hk, L, o, es, ep, hf, ho, hd, hn, hb'⟩ := h2 e he
      by_cases hL : L = b
      · obtain ⟨o', es', ep', q1, q2⟩ := hfd L o es ep hL ho hd
        exact ⟨hk, L, o', es', ep', hf, q1, q2, hn, hb'⟩
      · exact ⟨hk, L, o, es, ep, hf, kp L o hL ho, hd, hn, hb'⟩
    · by_cases q : c = b
      · subst q; exact hth
      · exact ⟨o, kp c o q e⟩
  rcases hx with hx | hx
  · have hk : env.kindOf x = some .local := by
      rcases i.fr.names x _ hx with h | h
      · exact h
      · cases h.1
    refine wpAny_storeName_local hk hm (fun h' hm' hs' => ?_) hp
    have kp : ∀ b o, b ≠ env.locals → s.heap.get? b = some o → h'.get? b = some o := fun b o hb e => hs'.extBut b o hb e
    refine fin env.locals h' kp i.fr.notIn i.fr.new (.inl rfl) (Heap.Ns.there hm') ⟨i.fr.kind, i.fr.glob, i.fr.bi, i.fr.names, ⟨_, hm', fun y w hy hw => ?_⟩, i.fr.notIn, i.fr.new, fun y hy => ?_, i.fr.apart⟩ (fun L o es ep hL _ _ => ?_) _ rfl rfl rfl
    · rcases look y w hw with ⟨rfl, rfl⟩ | ⟨q, hw⟩
      · exact ⟨u, if_pos rfl, hv⟩
      · obtain ⟨z, h1, h2⟩ := hmv y w hy hw
        exact ⟨z, by rw [if_neg q]; exact h1, h2⟩
    · obtain ⟨c, w, h1, h2, h3, h5⟩ := i.fr.cell y hy
      refine ⟨c, w, h1, h2.sameBut hs' (fun q => ?_), h3, fun v' hv' => ?_⟩
      · obtain ⟨o, ho, hd⟩ := h2
        obtain ⟨o', es, ep, ho', hd', _⟩ := hm
        rw [q, ho'] at ho; cases ho
        rw [hd] at hd'; cases hd'
      · rcases look y v' hv' with ⟨rfl, _⟩ | ⟨_, hv'⟩
        · rw [hx] at hy; rcases hy with h | h <;> cases h
        · exact h5 v' hv'
    · obtain ⟨o', es', ep', ho', hd', _⟩ := hm'
      exact ⟨o', es', ep', hL ▸ ho', hd'⟩
  · have hk : env.kindOf x = some .cell := by
      rcases i.fr.names x _ hx with h | h
      · exact h
      · cases h.1
    obtain ⟨c, w, h1, h2, ⟨h3, h4⟩ | ⟨q, _⟩, h5⟩ := i.fr.cell x (.inl hx)
    rotate_left
    · rw [hx] at q; cases q
    refine wpAny_storeName_cell i.fr.kind hk h1 h2 fun h' hc' hs' => ?_
    have kp : ∀ b o, b ≠ c → s.heap.get? b = some o → h'.get? b = some o := fun b o hb e => hs'.extBut b o hb e
    have hcL : env.locals ≠ c := fun q => by
      obtain ⟨o, ho, hd⟩ := h2
      obtain ⟨o', es, ep, ho', hd', _⟩ := hm
      rw [← q, ho'] at ho; cases ho
      rw [hd] at hd'; cases hd'
    refine fin c h' kp h3 h4 (.inr ⟨x, hx, h1⟩) (let ⟨o, ho, _⟩ := hc'; ⟨o, ho⟩) ⟨i.fr.kind, i.fr.glob, i.fr.bi, i.fr.names, ⟨m, hm.sameBut hs' hcL, fun y w' hy hw => ?_⟩, i.fr.notIn, i.fr.new, fun y hy => ?_, i.fr.apart⟩ (fun L o es ep hL ho hd => ?_) _ rfl rfl rfl
    · rcases look y w' hw with ⟨rfl, _⟩ | ⟨_, hw⟩
      · rw [hx] at hy; cases hy
      · exact hmv y w' hy hw
    · by_cases hyx : y = x
      · subst hyx
        refine ⟨c, some u, h1, hc', .inl ⟨h3, h4⟩, fun v' hv' => ⟨u, rfl, ?_⟩⟩
        rcases look y v' hv' with ⟨_, rfl⟩ | ⟨q, _⟩
        · exact hv
        · exact absurd rfl q
      · obtain ⟨d, w', g1, g2, g3, g5⟩ := i.fr.cell y hy
        refine ⟨d, w', g1, g2.sameBut hs' (fun q => hyx ?_), g3, fun v' hv' => ?_⟩
        · exact i.fr.apart y x c hy (.inl hx) (q ▸ g1) h1
        · rcases look y v' hv' with ⟨q, _⟩ | ⟨_, hv'⟩
          · exact absurd q hyx
          · exact g5 v' hv'
    · obtain ⟨o', ho', hd'⟩ := h2
      rw [hL, ho'] at ho; cases ho
      rw [hd] at hd'; cases hd'
end Mine
end

section
namespace Mine
open PySem PySem.W
open Sem (wp)

noncomputable def heldIds : List String := ["bytearray.__contains__", "bytearray.__mod__", "bytearray.__rmod__", "_struct.pack_into.held", "bytearray.find.held"] ++ Builtin.Bytes.decodersThatHold
noncomputable def codeFree : Code → Bool
  | .builtin id _ => !heldIds.contains id
  | _ => true
def CleanL (l : List (Code × Pos)) : Prop := ∀ x ∈ l, codeFree x.1 = true
theorem CleanL.nil : CleanL [] := fun _ h => nomatch h
theorem CleanL.cons {c : Code} {p : Pos} {l : List (Code × Pos)} (hc : codeFree c = true) (h : CleanL l) : CleanL ((c, p) :: l) := fun x hx => by
  rcases List.mem_cons.mp hx with rfl | hx
  · exact hc
  · exact h x hx

structure wpN {α : Type} (M : Model) (A : Around) (t : Sem α) (Q : α → Shared → Prop) (s : Shared) : Prop where
  go : ∀ Γ p, Γ.In A → codeFree Γ.code = true → CleanL Γ.below → wp M Γ t (fun a _ s' => Q a s') (fun _ _ _ => False) p s
def okOnly (R : Flow → Shared → Prop) (r : Result) (s : Shared) : Prop := match r with
  | .ok f => R f s
  | .error _ => False
structure codeN (M : Model) (A : Around) (c : Code) (R : Flow → Shared → Prop) (s : Shared) : Prop where
  go : ∀ Γ p, Γ.code = c → Γ.Below A → CleanL Γ.below → wpCode M Γ (okOnly R) p s

section
variable {α β : Type} {M : Model} {A : Around} {s : Shared} {Q Q' : α → Shared → Prop} {t m : Sem α}

theorem wpN_any (h : wpAny M A t Q (fun _ _ => False) s) : wpN M A t Q s := .mk fun Γ p hΓ _ _ => h Γ p hΓ
theorem wpN_pure {a : α} (h : Q a s) : wpN M A (pure a) Q s := .mk fun _ _ _ _ _ => h
theorem wpN_mono (h : wpN M A t Q s) (hQ : ∀ a s, Q a s → Q' a s) : wpN M A t Q' s :=
  .mk fun Γ p hΓ hc hb => Sem.wp_mono M Γ t (fun a _ s => hQ a s) (fun _ _ _ h => h) p s (h.go Γ p hΓ hc hb)
theorem wpN_bind {f : α → Sem β} {Q : β → Shared → Prop} (h : wpN M A m (fun a s' => wpN M A (f a) Q s') s) : wpN M A (m >>= f) Q s := .mk fun Γ p hΓ hc hb => by
  rw [Sem.wp_bind']
  exact Sem.wp_mono M Γ m (fun a p' s' h' => h'.go Γ p' hΓ hc hb) (fun _ _ _ h' => h') p s (h.go Γ p hΓ hc hb)
theorem wpN_holding {vs : List Value} (h : wpN M A m Q s) : wpN M A (holding vs m) Q s := .mk fun Γ p hΓ hc hb => by rw [Sem.wp_holding]; exact h.go Γ p hΓ hc hb
theorem wpN_onRaise {k : Value → Sem Unit} (h : wpN M A m Q s) : wpN M A (m.onRaise k) Q s := .mk fun Γ p hΓ hc hb => by
  rw [Sem.wp_onRaise]
  exact Sem.wp_mono M Γ m (fun _ _ _ h' => h') (fun _ _ _ h' => h'.elim) p s (h.go Γ p hΓ hc hb)
theorem wpN_attempt {Q : Except Value α → Shared → Prop} (h : wpN M A m (fun a => Q (.ok a)) s) : wpN M A m.attempt Q s := .mk fun Γ p hΓ hc hb => by
  rw [Sem.wp_attempt]
  exact Sem.wp_mono M Γ m (fun _ _ _ h' => h') (fun _ _ _ h' => h'.elim) p s (h.go Γ p hΓ hc hb)
theorem wpN_false {α : Type} {M : Model} {c : Bool} {a b : Sem α} {Q : α → Shared → Prop} (hc : c = false) (h : wpN M A b Q s) : wpN M A (if c = true then a else b) Q s := by
  subst hc; exact h
theorem wpN_true {α : Type} {M : Model} {c : Bool} {a b : Sem α} {Q : α → Shared → Prop} (hc : c = true) (h : wpN M A a Q s) : wpN M A (if c = true then a else b) Q s := by
  subst hc; exact h
theorem wpN_neg {α : Type} {M : Model} {c : Prop} [Decidable c] {a b : Sem α} {Q : α → Shared → Prop} (hc : ¬ c) (h : wpN M A b Q s) : wpN M A (if c then a else b) Q s := by
  rw [if_neg hc]; exact h
theorem wpN_standAt {pos : Pos} {Q : Unit → Shared → Prop} (h : Q () s) : wpN M A (standAt pos) Q s := .mk fun _ _ _ _ _ => h
theorem wpN_rule {tag : String} {Q : Unit → Shared → Prop} (h : Q () s) : wpN M A (rule tag) Q s := .mk fun _ _ _ _ _ => h
theorem wpN_point {Q : Unit → Shared → Prop} (h : Q () s) : wpN M A point Q s := .mk fun _ _ _ _ _ => h
theorem wpN_of_eq {a : α} (e : t = pure a) (h : Q a s) : wpN M A t Q s := by rw [e]; exact wpN_pure h
theorem wpN_stack {Q : List (Code × Pos) → Shared → Prop} (h : ∀ st, CleanL st → Q st s) : wpN M A stack Q s := .mk fun Γ p _ hc hb => by
  show Q ((Γ.code, p) :: Γ.below) s
  exact h _ (.cons hc hb)

theorem wpN_run {c : Code} {Q : Flow → Shared → Prop} (h : codeN M A c Q s) : wpN M A (run c none) Q s := .mk fun Γ p hΓ hc hb => by
  rw [Sem.wp_run]
  have := h.go (Γ.enter c none p) p rfl (hΓ.enter c none p (by intro x; cases x)) (.cons hc hb)
  refine wpCode_mono (fun r s' hr => ?_) this
  cases r with
  | ok f => exact hr
  | error e => exact hr.elim
theorem wpN_runValue {c : Code} {Q : Value → Shared → Prop} (h : codeN M A c (fun f s' => match f with | .ret v => Q v s' | _ => False) s) : wpN M A (runValue c) Q s := .mk fun Γ p hΓ hc hb => by
  rw [Sem.wp_runValue]
  have := h.go (Γ.enter c none p) p rfl (hΓ.enter c none p (by intro x; cases x)) (.cons hc hb)
  refine wpCode_mono (fun r s' hr => ?_) this
  cases r with
  | ok f => cases f with
    | ret v => exact hr
    | _ => exact hr.elim
  | error e => exact hr.elim
theorem wpN_call {f : Value} {pos : List Value} {kw : List (Str × Value)} {Q : Value → Shared → Prop} (h : codeN M A (.call f ⟨pos, kw⟩) (fun f s' => match f with | .ret v => Q v s' | _ => False) s) :
    wpN M A (call f pos kw) Q s := wpN_runValue h
theorem wpN_runOwn {c : Code} {env : Env} {Q : Flow → Shared → Prop} (h : codeN M A c Q s) : wpN M A (runOwn c env) Q s := wpN_onRaise (wpN_run h)

def Turns (M : Model) (A : Around) (R : Flow → Shared → Prop) (fin : Fin) (s : Shared) : Prop := match fin with
  | .done f => R f s
  | .again c' => c'.quiet = true ∧ codeN M A c' R s
theorem codeN_tree {c : Code} {R : Flow → Shared → Prop} (hf : codeFree c = true) (h : wpN M (A.under c) (M.den c) (Turns M A R) s) : codeN M A c R s := .mk fun Γ p hc hΓ hb => by
  rw [wpCode_iff_wp, hc]
  refine Sem.wp_mono M Γ _ (fun fin p' s' h' => ?_) (fun _ _ _ h' => h'.elim) p s (h.go Γ p (hc ▸ hΓ.in) (hc ▸ hf) hb)
  cases fin with
  | done f => exact h'
  | again c' => exact ⟨h'.1, h'.2.go (Γ.goto c') p' rfl (hΓ.goto c') hb⟩
theorem codeN_mono {c : Code} {R R' : Flow → Shared → Prop} (h : codeN M A c R s) (hR : ∀ f s, R f s → R' f s) : codeN M A c R' s := .mk fun Γ p hc hΓ hb =>
  wpCode_mono (fun r s' hr => by cases r with | ok f => exact hR f s' hr | error e => exact hr.elim) (h.go Γ p hc hΓ hb)
theorem codeN_loop {c : Code} {R : Flow → Shared → Prop} (hq : c.quiet = true) (hf : codeFree c = true) (I : Nat → Shared → Prop)
    (turn : ∀ n s, I n s → wpN M (A.under c) (M.den c) (fun fin s' => match fin with
      | .done f => R f s'
      | .again c' => (c' = c ∧ ∃ m, m < n ∧ I m s') ∨ (c'.quiet = true ∧ codeN M A c' R s')) s)
    (n : Nat) (h : I n s) : codeN M A c R s := by
  induction n using Nat.strongRecOn generalizing s with
  | ind n ih =>
    refine codeN_tree hf (wpN_mono (turn n s h) (fun fin s' hr => ?_))
    cases fin with
    | done f => exact hr
    | again c' =>
      rcases hr with ⟨rfl, m, hm, hI⟩ | hr
      · exact ⟨hq, ih m hm hI⟩
      · exact hr
end

section
variable {prog : Program} {w : World} {A : Around} {s : Shared} {R : Flow → Shared → Prop}
theorem codeN_builtin {id : String} {args : Args} {b : Builtin} (hf : heldIds.contains id = false) (hb : entryFor table id = some b) (h : wpN (model prog w) (A.under (.builtin id args)) (b args) (Turns (model prog w) A R) s) :
    codeN (model prog w) A (.builtin id args) R s := by
  refine codeN_tree (by simp only [codeFree, hf, Bool.not_false]) ?_
  show wpN _ _ (match entryFor table id with | some b => b args | none => unsupported ((withoutEnding? id "#data").getD id)) _ s
  rw [hb]; exact h
theorem codeN_func {body : List Stmt} {env : Env} (h : wpN (model prog w) (A.deeper env) (execs body env) (fun f s' => R (.ret (match f with | .ret v => v | _ => .none)) s') s) : codeN (model prog w) A (.func body env) R s := by
  refine codeN_tree rfl ?_
  show wpN _ (A.deeper env) (do point; match ← (execs body env).onRaise (leaving env) with | .ret v => ret v | _ => ret .none) _ s
  refine wpN_bind (wpN_point (wpN_bind (wpN_onRaise (wpN_mono h (fun f s' h' => ?_)))))
  cases f <;> exact wpN_pure h'
theorem codeN_block {stmts : List Stmt} {env : Env} (h : wpN (model prog w) A (execs stmts env) (fun f s' => R f s') s) : codeN (model prog w) A (.block stmts env) R s := by
  refine codeN_tree rfl ?_
  have hA : A.under (.block stmts env) = A := Around.under_of_weight rfl
  rw [hA]
  exact wpN_bind (wpN_onRaise (wpN_mono h fun f s' h' => wpN_pure h'))

theorem codeN_while {test body orelse env} (I : Nat → Shared → Prop)
    (turn : ∀ n s, I n s → wpN (model prog w) A (isTrue test env (eval test env)) (fun b s₂ =>
        if b then wpN (model prog w) A (execs body env) (fun f s₃ => match f with
            | .next | .cont => ∃ m, m < n ∧ I m s₃
            | .brk => R .next s₃
            | .ret v => R (.ret v) s₃) s₂
        else wpN (model prog w) A (execs orelse env) (fun f s₃ => R f s₃) s₂) s)
    (n : Nat) (h : I n s) : codeN (model prog w) A (.whileLoop test body orelse env) R s := by
  refine codeN_loop rfl rfl I (fun n s hI => ?_) n h
  have hA : A.under (.whileLoop test body orelse env) = A := Around.under_of_weight rfl
  rw [hA]
  show wpN _ A ((whileTurn test body orelse env).onRaise (fun x => do noteFrame x env; theTreesLotGoes x)) _ s
  refine wpN_onRaise ?_
  simp only [whileTurn]
  refine wpN_bind (wpN_mono (turn n s hI) (fun b s₂ h₂ => ?_))
  cases b with
  | false =>
    simp only [Bool.false_eq_true, if_false] at h₂ ⊢
    exact wpN_bind (wpN_mono h₂ (fun f s₃ h₃ => wpN_pure h₃))
  | true =>
    simp only [if_true] at h₂ ⊢
    refine wpN_bind (wpN_mono h₂ (fun f s₃ h₃ => ?_))
    cases f with
    | next => exact wpN_pure (.inl ⟨rfl, h₃⟩)
    | cont => exact wpN_pure (.inl ⟨rfl, h₃⟩)
    | brk => exact wpN_pure h₃
    | ret v => exact wpN_pure h₃

theorem codeN_for {target it body orelse env} (I : Nat → Shared → Prop)
    (turn : ∀ n s, I n s → wpN (model prog w) A (pyNext it) (fun r s₁ => match r with
      | none => wpN (model prog w) A (execs orelse env) (fun f s₃ => R f s₃) s₁
      | some v => wpN (model prog w) A (letOwnedTupleGo target it v) (fun _ s₁ => wpN (model prog w) A (assign target env v) (fun _ s₂ => wpN (model prog w) A (execs body env) (fun f s₃ => match f with
          | .next | .cont => ∃ m, m < n ∧ I m s₃
          | .brk => R .next s₃
          | .ret v => R (.ret v) s₃) s₂) s₁) s₁) s)
    (n : Nat) (h : I n s) : codeN (model prog w) A (.forLoop target it body orelse env) R s := by
  refine codeN_loop rfl rfl I (fun n s hI => ?_) n h
  have hA : A.under (.forLoop target it body orelse env) = A := Around.under_of_weight rfl
  rw [hA]
  show wpN _ _ ((forTurn target it body orelse env).onRaise (fun x => do noteFrame x env; theTreesLotGoes x)) _ s
  refine wpN_onRaise ?_
  simp only [forTurn]
  refine wpN_bind (wpN_standAt (wpN_bind (wpN_onRaise (wpN_mono (turn n s hI) (fun r s₁ h₁ => ?_)))))
  cases r with
  | none => exact wpN_pure (.inr ⟨rfl, codeN_block h₁⟩)
  | some v =>
    refine wpN_bind (wpN_mono h₁ fun _ s₁ h₁ => ?_)
    refine wpN_bind (wpN_mono h₁ (fun _ s₂ h₂ => wpN_bind (wpN_mono h₂ (fun f s₃ h₃ => ?_))))
    cases f with
    | next => exact wpN_pure (.inl ⟨rfl, h₃⟩)
    | cont => exact wpN_pure (.inl ⟨rfl, h₃⟩)
    | brk => exact wpN_pure h₃
    | ret v => exact wpN_pure h₃
end
end Mine
end

section
namespace Mine
open PySem PySem.W PyProof.Rows PySem.Calls

structure ClsOk (X : Cx) (C : Addr) : Prop where
  isc : (clsIn X.K C).isSome = true
  ga : findIn X.K (.ref C) "__getattribute__" = some (some (.builtin "object.__getattribute__"))
  gattr : findIn X.K (.ref C) "__getattr__" = some none
  sa : findIn X.K (.ref C) "__setattr__" = some (some (.builtin "object.__setattr__"))
  over : plainOver X.K C = true
  makes : makesIn X.K C = true
  own : X.P.slotsOf C = Option.none → (clsIn X.K C).any (·.hasDict) = true ∧ ∀ x ∈ X.P.attrs C, findIn X.K (.ref C) x = some none
  slots : ∀ xs, X.P.slotsOf C = some xs → ∀ x ∈ xs, ∃ p, findIn X.K (.ref C) x = some (some (.ref p)) ∧ specialIn X.K (.ref p) "__get__" = some (some (.builtin "member_descriptor.__get__")) ∧ takesIn X.K (.ref p) = some true ∧
    typeIn X.K (.ref p) = some (.type "member_descriptor") ∧ slotIn X.K p C = some (xs.idxOf x) ∧ xs.idxOf x < 1000

structure MethOk (X : Cx) (C : Addr) (x : Str) (f : Addr) : Prop where
  find : findIn X.K (.ref C) x = some (some (.ref f))
  ty : typeIn X.K (.ref f) = some (.type "function")
  get : specialIn X.K (.ref f) "__get__" = some (some (.builtin "function.__get__"))
  takes : takesIn X.K (.ref f) = some false
  name : copiedNames.contains x = false

structure Facts (X : Cx) : Prop where
  sys : ∃ o, X.h₀.get? sysModules = some o
  miss : ∃ o, X.h₀.get? X.P.miss = some o
  kin : X.K.In X.h₀
  cls : ∀ C, X.P.isCls C = true → ClsOk X C
  meth : ∀ C x f, X.P.isCls C = true → X.P.meth C x = some f → MethOk X C x f
  glob : ∃ mg mb, X.h₀.Ns mainGlobals mg ∧ X.h₀.Ns builtinsNs mb ∧ ∀ x v, X.P.glob x = some v → ∃ u, (mg x = some u ∨ (mg x = none ∧ mb x = some u)) ∧ ∀ ρ, VRep ρ v u
  limit : X.h₀.NoLimit

structure FnShape (fd : FuncData) (ns : List Str) (va : Option Str) : Prop where
  pos : fd.params.posonlyargs = []
  args : fd.params.args.map (·.arg) = ns
  kwonly : fd.params.kwonlyargs = []
  kwarg : fd.params.kwarg = none
  vararg : fd.params.vararg.map (·.arg) = va

def DfltAt (h : Heap) (v : Value) (D : List Value) : Prop := (v = .none ∧ D = []) ∨ ∃ T o n, v = .ref T ∧ h.get? T = some o ∧ o.data = .seq D.toArray n

def FRep (ρ : List Addr) : Fl → Flow → Prop
  | .next, f => f = .next
  | .brk, f => f = .brk
  | .cont, f => f = .cont
  | .ret v, f => ∃ u, f = .ret u ∧ VRep ρ v u

def BReps (ρ : List Addr) : List (Str × AV) → List (Str × Value) → Prop
  | [], [] => True
  | b :: bs, x :: xs => b.1 = x.1 ∧ VRep ρ b.2 x.2 ∧ BReps ρ bs xs
  | _, _ => False

structure ScopeOk (sc : Scope) (ns : List Str) : Prop where
  kind : sc.kind = .function
  params : ∀ x ∈ ns, sc.names.lookup x = some .local ∨ sc.names.lookup x = some .cell
  noFree : ∀ x, sc.names.lookup x ≠ some .free
  nodup : ns.Nodup

structure FnOk (X : Cx) (a : Addr) (fn : Fn) (o : Obj) (fd : FuncData) (D : List Value) : Prop where
  obj : X.h₀.get? a = some o
  data : o.data = .func fd
  scope : fd.scope = fn.scope
  co : fd.scope.isCoroutine = false
  gen : fd.scope.isGenerator = false
  body : fd.body = .stmts fn.body
  code : X.h₀.CodeRec fd.code fd.qualname
  glob : fd.globals = mainGlobals
  bi : fd.builtins = builtinsNs
  clo : fd.closure = []
  shape : FnShape fd fn.params fn.vararg
  dflt : DfltAt X.h₀ fd.defaults D
  dreps : ∀ ρ, VReps ρ (X.P.dflt a) D
  dlen : D.length ≤ fn.params.length
  dva : fn.vararg.isSome = true → D = []
  names : ScopeOk fn.scope (fn.params ++ fn.vararg.toList)

def Top (env : Env) (A : Around) : Prop := ∃ outer, A.frames = some (env :: outer)

structure MkrOk (X : Cx) (a p : Addr) : Prop where
  code : ∀ o fd, X.h₀.get? a = some o → o.data = .func fd → ∃ c, fd.code = .ref c ∧ CodeHd X.h₀ c p
  glob : mainGlobals ≠ p
  bi : ∀ mg, X.h₀.Ns mainGlobals mg → X.h₀.BuiltinsAt mg p

structure Fx (X : Cx) : Prop extends Facts X where
  fn : ∀ a fn, X.P.fn a = some fn → ∃ o fd D, FnOk X a fn o fd D
  mkr : ∀ a p, X.P.maker a = some p → MkrOk X a p
  apart : ∀ a, X.P.isCls a = true → X.P.fn a = Option.none

structure Cfg (P : Prog) (n : Nat) (sc : Scope) where
  X : Cx
  env : Env
  A : Around
  N : Nat
  hP : X.P = P
  F : Fx X
  hN : n ≤ N
noncomputable abbrev Cfg.M {P : Prog} {n : Nat} {sc : Scope} (K : Cfg P n sc) : Model := model K.X.prog K.X.w
abbrev Cfg.I {P : Prog} {n : Nat} {sc : Scope} (K : Cfg P n sc) (ρ : List Addr) (bs : Bs) (σ : Store) (s : Shared) : Prop := Inv K.X sc K.env K.A K.N ρ bs σ s
noncomputable def Cfg.down {P : Prog} {n : Nat} {sc : Scope} (K : Cfg P (n + 1) sc) : Cfg P n sc := ⟨K.X, K.env, K.A, K.N, K.hP, K.F, Nat.le_of_succ_le K.hN⟩
inductive Post {α β : Type} (X : Cx) (sc : Scope) (env : Env) (A : Around) (N : Nat) (ρ : List Addr) (s : Shared) (V : List Addr → α → β → Prop) (Q : α → Bs → Store → Prop) (u : β) (s' : Shared) : Prop
  | mk (a : α) (bs : Bs) (σ : Store) (ρ' : List Addr) (q : Q a bs σ) (i : Inv X sc env A N ρ' bs σ s') (g : Grow (Own sc env) ρ s ρ' s') (v : V ρ' a u)
abbrev PostK {P : Prog} {n : Nat} {sc : Scope} {α β : Type} (K : Cfg P n sc) (ρ : List Addr) (s : Shared) (V : List Addr → α → β → Prop) (Q : α → Bs → Store → Prop) : β → Shared → Prop := Post K.X sc K.env K.A K.N ρ s V Q
structure Mm (P : Prog) (n : Nat) (sc : Scope) (α : Type) where
  β : Type
  D : Cfg P n sc → List Addr → Shared → (β → Shared → Prop) → Prop
  mono : ∀ {K ρ s} {R R' : β → Shared → Prop}, D K ρ s R → (∀ u s', R u s' → R' u s') → D K ρ s R'
  V : List Addr → α → β → Prop
namespace H
def Hx {P : Prog} {n : Nat} {sc : Scope} {α : Type} (m : Mm P n sc α) (bs : Bs) (σ : Store) (Q : α → Bs → Store → Prop) : Prop :=
  ∀ (K : Cfg P n sc) (ρ : List Addr) (s : Shared), K.I ρ bs σ s → m.D K ρ s (PostK K ρ s m.V Q)
variable {P : Prog} {n : Nat} {sc : Scope} {α β γ δ : Type} {bs bs' : Bs} {σ : Store} {Q : α → Bs → Store → Prop}
theorem _root_.Mine.Post.imp {X : Cx} {env : Env} {A : Around} {N : Nat} {ρ : List Addr} {s : Shared} {V : List Addr → α → β → Prop} {Q Q' : α → Bs → Store → Prop} {u : β} {s' : Shared} (h : Post X sc env A N ρ s V Q u s') (hq : ∀ a bs' σ', Q a bs' σ' → Q' a bs' σ') : Post X sc env A N ρ s V Q' u s' := by
  cases h with
  | mk a b σ ρ' q i g v => exact ⟨a, b, σ, ρ', hq _ _ _ q, i, g, v⟩
theorem _root_.Mine.Post.trans {X : Cx} {env : Env} {A : Around} {N : Nat} {ρ ρ₁ : List Addr} {s s₁ : Shared} {V : List Addr → α → β → Prop} {Q : α → Bs → Store → Prop} {u : β} {s' : Shared} (h : Post X sc env A N ρ₁ s₁ V Q u s') (g : Grow (Own sc env) ρ s ρ₁ s₁) : Post X sc env A N ρ s V Q u s' := by
  cases h with
  | mk a b σ ρ' q i g' v => exact ⟨a, b, σ, ρ', q, i, g.trans g', v⟩
theorem Hx.mono {m : Mm P n sc α} {Q' : α → Bs → Store → Prop} (h : Hx m bs σ Q) (hq : ∀ a bs' σ', Q a bs' σ' → Q' a bs' σ') : Hx m bs σ Q' := fun K ρ s i => m.mono (h K ρ s i) fun _ _ d => d.imp hq
theorem Hx.sub {m : Mm P n sc α} (h : Hx m bs' σ Q) (s : Sub bs' bs) : Hx m bs σ Q := fun K ρ s' i => h K ρ s' ⟨i.rep, i.fr.sub s, i.ok⟩
theorem thenP {X : Cx} {env : Env} {A : Around} {N : Nat} {ρ : List Addr} {s : Shared} {t : Sem β} {f : β → Sem γ} {V : List Addr → α → β → Prop} {V' : List Addr → δ → γ → Prop} {Q' : δ → Bs → Store → Prop} (h : wpN (model X.prog X.w) A t (Post X sc env A N ρ s V Q) s)
    (k : ∀ a bs' σ' ρ' u s', Q a bs' σ' → Inv X sc env A N ρ' bs' σ' s' → ρ <+: ρ' → V ρ' a u → wpN (model X.prog X.w) A (f u) (Post X sc env A N ρ' s' V' Q') s') : wpN (model X.prog X.w) A (t >>= f) (Post X sc env A N ρ s V' Q') s :=
  wpN_bind (wpN_mono h fun u s' d => by
    cases d with
    | mk a b σ ρ' q i g v => exact wpN_mono (k a b σ ρ' u s' q i g.pre v) fun _ _ d => d.trans g)
section
variable {X : Cx} {env : Env} {A : Around} {N : Nat} {ρ : List Addr} {s s' : Shared} {V : List Addr → α → β → Prop} {u : β} {a : α}
theorem post_same (i : Inv X sc env A N ρ bs σ s) (h : s'.heap = s.heap) (hg : s'.gens = s.gens) (ho : s'.os = s.os) (q : Q a bs σ) (v : V ρ a u) : Post X sc env A N ρ s V Q u s' := ⟨a, bs, σ, ρ, q, i.same h, Grow.same h hg ho, v⟩
theorem post_here (i : Inv X sc env A N ρ bs σ s) (q : Q a bs σ) (v : V ρ a u) : Post X sc env A N ρ s V Q u s := ⟨a, bs, σ, ρ, q, i, Grow.refl, v⟩
theorem post_ext (i : Inv X sc env A N ρ bs σ s) (k : ∀ b o, s.heap.get? b = some o → s'.heap.get? b = some o) (hg : s'.gens = s.gens) (ho : s'.os = s.os) (q : Q a bs σ) (v : V ρ a u) : Post X sc env A N ρ s V Q u s' := ⟨a, bs, σ, ρ, q, i.ext k hg ho, Grow.ext k hg ho, v⟩
theorem post_alloc {c : Addr} {o : Obj} {ao : AO} (i : Inv X sc env A N ρ bs σ s) (k : ∀ b o, s.heap.get? b = some o → s'.heap.get? b = some o) (ha : s.heap.get? c = Option.none) (hg : s'.heap.get? c = some o) (r : OR X (ρ ++ [c]) o ao)
    (hgn : s'.gens = s.gens) (hos : s'.os = s.os) (q : Q a bs (σ ++ [ao])) (v : V (ρ ++ [c]) a u) : Post X sc env A N ρ s V Q u s' :=
  ⟨a, bs, _, ρ ++ [c], q, i.step (Grow.alloc k ha hgn hos) (i.rep.alloc k ha hg r), Grow.alloc k ha hgn hos, v⟩
theorem post_push {o : Obj} {ao : AO} {t : Nat} (i : Inv X sc env A N ρ bs σ s) (hf : o.isFreed = false) (r : OR X (ρ ++ [s.heap.objs.size]) o ao) (q : Q a bs (σ ++ [ao])) (v : V (ρ ++ [s.heap.objs.size]) a u) :
    Post X sc env A N ρ s V Q u { s with heap := s.heap.push o, toks := t } :=
  post_alloc (s' := { s with heap := s.heap.push o, toks := t }) i (push_keeps _ _) (Heap.noneOf (Nat.le_refl _)) (Heap.get?_push_size _ hf) r rfl rfl q v
theorem vrep_new (i : Inv X sc env A N ρ bs σ s) (c : Addr) : VRep (ρ ++ [c]) (.ref σ.length) (.ref c) := ⟨c, by rw [← i.rep.len]; simp, rfl⟩
theorem post_put {j : Nat} {c : Addr} {o : Obj} {ao ao' : AO} (i : Inv X sc env A N ρ bs σ s) (ha : ρ[j]? = some c) (hao : σ[j]? = some ao) (hf : ao.frozen = false)
    (k : ∀ b o, b ≠ c → s.heap.get? b = some o → s'.heap.get? b = some o) (hg : s'.heap.get? c = some o) (r : OR X ρ o ao') (hgn : s'.gens = s.gens) (hos : s'.os = s.os) (q : Q a bs (σ.set j ao')) (v : V ρ a u) : Post X sc env A N ρ s V Q u s' :=
  ⟨a, bs, _, ρ, q, i.step (Grow.put (List.mem_of_getElem? ha) k ⟨_, hg⟩ hgn hos) (i.rep.put ha hao hf k hg r), Grow.put (List.mem_of_getElem? ha) k ⟨_, hg⟩ hgn hos, v⟩
theorem list_at (i : Inv X sc env A N ρ bs σ s) {j : Nat} {vs : List AV} (e : σ[j]? = some (.list vs)) :
    ∃ a xs m, ρ[j]? = some a ∧ s.heap.get? a = some { cls := .type "list", data := .seq xs m } ∧ VReps ρ vs xs.toList ∧ vs.length ≤ 1000000 ∧ xs.size = vs.length := by
  obtain ⟨a, o, ha, ho, ⟨xs, m, rfl, hv⟩, hl⟩ := i.rep.at e
  exact ⟨a, xs, m, ha, ho, hv, hl, by rw [← hv.length]; simp⟩
end
end H
theorem isList_of {h : Heap} {a : Addr} {xs : Array Value} {m : Nat} (e : h.get? a = some { cls := .type "list", data := .seq xs m }) : h.IsList a xs := ⟨_, e, rfl, m, rfl⟩
end Mine
end

section
namespace Mine.H
open PySem PySem.W PyProof.Rows PySem.Calls
variable {P : Prog} {n : Nat} {sc : Scope} {α β γ δ : Type} {bs bs' : Bs} {σ : Store} {Q : α → Bs → Store → Prop}

def Pv (m : Mm P n sc α) (bs : Bs) (σ : Store) (a : α) : Prop := Hx m bs σ fun a' bs' σ' => a' = a ∧ bs' = bs ∧ σ' = σ
theorem hx_pv {m : Mm P n sc α} {a : α} (p : Pv m bs σ a) (h : Q a bs σ) : Hx m bs σ Q := Hx.mono p fun _ _ _ q => by obtain ⟨rfl, rfl, rfl⟩ := q; exact h
theorem pv_of {m : Mm P n sc α} {a : α} (h : ∀ Q : α → Bs → Store → Prop, Q a bs σ → Hx m bs σ Q) : Pv m bs σ a := h _ ⟨rfl, rfl, rfl⟩
noncomputable def tree {β : Type} (t : Env → Sem β) (V : List Addr → α → β → Prop) : Mm P n sc α := ⟨β, fun K _ s R => wpN K.M K.A (t K.env) R s, fun d h => wpN_mono d h, V⟩
noncomputable def op1 (f : Value → Sem Value) (a : AV) : Mm P n sc AV := ⟨Value, fun K ρ s R => ∀ x, VRep ρ a x → wpN K.M K.A (f x) R s, fun d h x hx => wpN_mono (d x hx) h, VRep⟩
noncomputable def op2 (f : Value → Value → Sem Value) (a b : AV) : Mm P n sc AV := ⟨Value, fun K ρ s R => ∀ x y, VRep ρ a x → VRep ρ b y → wpN K.M K.A (f x y) R s, fun d h x y hx hy => wpN_mono (d x y hx hy) h, VRep⟩
noncomputable def ev (P : Prog) (n : Nat) (sc : Scope) (e : Expr) : Mm P n sc AV := tree (PySem.eval e) VRep
noncomputable def binV (op : Operator) (a b : AV) : Mm P n sc AV := op2 (binaryOp op) a b

theorem pylong_no {a b : Int} (h : b.natAbs < 2 ^ 62) : Builtin.divisionGoesByPylong a b = false := by
  unfold Builtin.divisionGoesByPylong
  simp only [Bool.and_eq_false_iff, decide_eq_false_iff_not]
  left
  split
  · lia
  · have : b.natAbs.log2 < 62 := by
      rcases Nat.eq_zero_or_pos b.natAbs with h0 | h0
      · rw [h0]; decide
      · exact (Nat.log2_lt (by lia)).mpr h
    lia
section
variable {x y : Int}
theorem pv_add : Pv (binV .Add (.int x) (.int y) : Mm P n sc AV) bs σ (.int (x + y)) := pv_of fun Q q K ρ s i u v ⟨t, hu⟩ ⟨t', hv⟩ => by
  subst hu hv; exact wpN_any (add_int (post_same i rfl rfl rfl q ⟨_, rfl⟩))
theorem pv_sub : Pv (binV .Sub (.int x) (.int y) : Mm P n sc AV) bs σ (.int (x - y)) := pv_of fun Q q K ρ s i u v ⟨t, hu⟩ ⟨t', hv⟩ => by
  subst hu hv; exact wpN_any (sub_int (post_same i rfl rfl rfl q ⟨_, rfl⟩))
theorem pv_div (h : 0 < y ∧ y < 2 ^ 62) : Pv (binV .FloorDiv (.int x) (.int y) : Mm P n sc AV) bs σ (.int (x / y)) := pv_of fun Q q K ρ s i u v ⟨t, hu⟩ ⟨t', hv⟩ => by
  subst hu hv
  exact wpN_any (floordiv_int (by lia) (post_same i rfl rfl rfl q ⟨s.toks, by rw [Int.fdiv_eq_ediv_of_nonneg _ (by lia)]⟩) (.inl (pylong_no (by lia))))
theorem pv_mod (h : 0 < y) : Pv (binV .Mod (.int x) (.int y) : Mm P n sc AV) bs σ (.int (x % y)) := pv_of fun Q q K ρ s i u v ⟨t, hu⟩ ⟨t', hv⟩ => by
  subst hu hv
  exact wpN_any (mod_int (by lia) (post_same i rfl rfl rfl q ⟨s.toks, by rw [Int.fmod_eq_emod_of_nonneg _ (by lia)]⟩))
theorem pv_pow (h : 0 ≤ y ∧ y < 60) : Pv (binV .Pow (.int 2) (.int y) : Mm P n sc AV) bs σ (.int (2 ^ y.toNat)) := pv_of fun Q q K ρ s i u v ⟨t, hu⟩ ⟨t', hv⟩ => by
  subst hu hv
  exact wpN_any (pow_int_small h.1 (by lia) (by decide) (post_same i rfl rfl rfl q ⟨_, rfl⟩))
end
theorem hx_cat {i j : Nat} {xs ys : List AV} {Q : AV → Bs → Store → Prop} (h1 : σ[i]? = some (.list xs)) (h2 : σ[j]? = some (.list ys)) (hl : (xs ++ ys).length ≤ 1000000) (h : Q (.ref σ.length) bs (σ ++ [.list (xs ++ ys)])) :
    Hx (binV .Add (.ref i) (.ref j) : Mm P n sc AV) bs σ Q := fun K ρ s iv u v ⟨a', e1, hu⟩ ⟨b', e2, hv⟩ => by
  subst hu hv
  obtain ⟨c, zs, m, hc, hoc, hvc, hlc, hsc⟩ := list_at iv h1
  obtain ⟨d, ws, m', hd, hod, hvd, hld, hsd⟩ := list_at iv h2
  rw [hc] at e1; cases e1
  rw [hd] at e2; cases e2
  have hr : VReps (ρ ++ [s.heap.objs.size]) (xs ++ ys) (zs ++ ws).toList := by rw [Array.toList_append]; exact (hvc.append hvd).mono (List.prefix_append ..)
  exact wpN_any (PySem.P.add_list hoc hod (post_push (ao := .list (xs ++ ys)) iv rfl ⟨⟨_, _, rfl, hr⟩, hl⟩ h (vrep_new iv _)) (by rw [List.length_append] at hl; rw [hsc, hsd, sizeLine_eq]; lia))
theorem wpN_operate {A : Around} {M : Model} {vs : List Value} {m : Sem Value} {Q : Value → Shared → Prop} {s : Shared} (h : wpN M A m Q s) : wpN M A (operate vs m) Q s := .mk fun Γ p hΓ hc hb => by
  rw [Sem.wp_operate]; exact h.go Γ p hΓ hc hb
theorem wpN_stand {A : Around} {M : Model} {α : Type} {pos : Pos} {m : Sem α} {Q : α → Shared → Prop} {s : Shared} (h : wpN M A m Q s) : wpN M A (standAt pos >>= fun _ => m) Q s := wpN_bind (wpN_standAt h)
theorem pv_int {i : Int} {k : Nat} {p : Pos} : Pv (ev P n sc (.Constant (.int i) k p)) bs σ (.int i) := pv_of fun Q q K ρ s iv => by
  show wpN _ _ (PySem.eval _ _) _ _
  rw [arm_eval_Constant]
  exact wpN_any (wpAny_mkInt (post_same iv rfl rfl rfl q ⟨_, rfl⟩))
theorem pv_none {k : Nat} {p : Pos} : Pv (ev P n sc (.Constant .none k p)) bs σ .none := pv_of fun Q q K ρ s iv => by
  show wpN _ _ (PySem.eval _ _) _ _
  rw [arm_eval_Constant]
  exact wpN_pure (post_here iv q rfl)
theorem pv_bool {b : Bool} {k : Nat} {p : Pos} : Pv (ev P n sc (.Constant (.bool b) k p)) bs σ (.bool b) := pv_of fun Q q K ρ s iv => by
  show wpN _ _ (PySem.eval _ _) _ _
  rw [arm_eval_Constant]
  exact wpN_pure (post_here iv q rfl)
theorem hx_bin {l r : Expr} {op : Operator} {p : Pos} {Q : AV → Bs → Store → Prop} (h : Hx (ev P n sc l) bs σ fun a bs' σ' => Hx (ev P n sc r) bs' σ' fun b bs'' σ'' => Hx (binV op a b : Mm P n sc AV) bs'' σ'' Q) : Hx (ev P n sc (.BinOp l op r p)) bs σ Q := fun K ρ s iv => by
  show wpN _ _ (PySem.eval _ _) _ _
  rw [arm_eval_BinOp]
  refine thenP (h K ρ s iv) fun a _ _ ρ₁ u t₁ h i₁ p₁ hu => ?_
  refine thenP (wpN_holding (h K ρ₁ t₁ i₁)) fun b _ _ ρ₂ y t₂ h i₂ p₂ hy => ?_
  exact wpN_stand (wpN_operate (h K ρ₂ t₂ i₂ u y (hu.mono p₂) hy))
theorem pv_bin {l r : Expr} {op : Operator} {p : Pos} {a b v : AV} (h1 : Pv (ev P n sc l) bs σ a) (h2 : Pv (ev P n sc r) bs σ b) (h : Pv (binV op a b : Mm P n sc AV) bs σ v) : Pv (ev P n sc (.BinOp l op r p)) bs σ v :=
  hx_bin (hx_pv h1 (hx_pv h2 h))
end Mine.H
end

section
namespace Mine
open PySem PySem.W PyProof.Rows PySem.Calls
inductive LsAt (ρ : List Addr) (s : Shared) (i : Nat) (vs : List AV) (u : Value) : Prop
  | mk (a : Addr) (xs : Array Value) (m : Nat) (hu : u = .ref a) (ha : ρ[i]? = some a) (ho : s.heap.get? a = some { cls := .type "list", data := .seq xs m }) (hv : VReps ρ vs xs.toList) (hl : vs.length ≤ 1000000) (hz : xs.size = vs.length)
theorem ls_at {X : Cx} {sc : Scope} {env : Env} {A : Around} {n : Nat} {ρ : List Addr} {bs : Bs} {σ : Store} {s : Shared} {i : Nat} {vs : List AV} {u : Value} (iv : Inv X sc env A n ρ bs σ s) (e : σ[i]? = some (.list vs)) (hu : VRep ρ (.ref i) u) : LsAt ρ s i vs u := by
  obtain ⟨a, ha, rfl⟩ := hu
  obtain ⟨o, ho, ⟨xs, m, rfl, hv⟩, hl⟩ := iv.rep.obj i a _ ha e
  exact ⟨a, xs, m, rfl, ha, ho, hv, hl, by rw [← hv.length]; simp⟩
theorem asInts_eq : ∀ {vs : List AV} {ns : List Int}, asInts vs = some ns → vs = ns.map AV.int
  | [], ns, e => by cases e; rfl
  | v :: vs, ns, e => by
    cases v with
    | int m =>
      simp only [asInts] at e
      obtain ⟨ms, h, rfl⟩ := Option.map_eq_some_iff.mp e
      rw [asInts_eq h]; rfl
    | _ => cases e
noncomputable def intIs (k : Int) : Value → Bool
  | .int m _ => m == k
  | _ => false
theorem ints_any {ρ : List Addr} {k : Int} : ∀ {ns : List Int} {xs : List Value}, VReps ρ (ns.map AV.int) xs → (xs.any (intIs k)) = ns.contains k
  | [], [], _ => rfl
  | m :: ns, x :: xs, r => by
    obtain ⟨t, hx⟩ := r.1
    subst hx
    rw [List.any_cons, ints_any r.2, List.contains_cons]
    congr 1
    show (m == k) = (k == m)
    exact Bool.eq_iff_iff.mpr (by rw [beq_iff_eq, beq_iff_eq]; exact eq_comm)
  | [], _ :: _, r => r.elim
  | _ :: _, [], r => r.elim
theorem ints_get {ρ : List Addr} {ns : List Int} {xs : List Value} (r : VReps ρ (ns.map AV.int) xs) {j : Nat} {x : Value} (h : xs[j]? = some x) : ∃ m t, ns[j]? = some m ∧ x = .int m t := by
  obtain ⟨v, hv, hx⟩ := r.get' h
  rw [List.getElem?_map] at hv
  obtain ⟨m, hm, rfl⟩ := Option.map_eq_some_iff.mp hv
  obtain ⟨t, rfl⟩ := hx
  exact ⟨m, t, hm, rfl⟩
theorem rho_inj {ρ : List Addr} (hn : ρ.Nodup) {i j : Nat} {a : Addr} (h1 : ρ[i]? = some a) (h2 : ρ[j]? = some a) : i = j := by
  obtain ⟨q1, e1⟩ := List.getElem?_eq_some_iff.mp h1
  obtain ⟨q2, e2⟩ := List.getElem?_eq_some_iff.mp h2
  exact (List.getElem_inj hn).mp (e1.trans e2.symm)
theorem asInts_map : ∀ (l : List Int), asInts (l.map AV.int) = some l
  | [] => rfl
  | a :: l => by
    show (asInts (l.map AV.int)).map _ = _
    rw [asInts_map l]; rfl
theorem eq_row {A : Around} {s : Shared} {α : Type} [DecidableEq α] {f : α → AV} {ρ : List Addr} (hf : ∀ a b x y, VRep ρ (f a) x → VRep ρ (f b) y → SeqAt.EqAt A s x y (decide (a = b))) :
    ∀ (as bs : List α) (xl yl : List Value), VReps ρ (as.map f) xl → VReps ρ (bs.map f) yl → as.length = bs.length → ∃ g : Nat → Bool, (∀ (j : Nat) (x y : Value), xl[j]? = some x → yl[j]? = some y → SeqAt.EqAt A s x y (g j)) ∧ (List.range xl.length).all g = decide (as = bs)
  | [], [], [], [], _, _, _ => ⟨fun _ => true, fun j x y h => (by simp at h), rfl⟩
  | a :: as, b :: bs, x :: xl, y :: yl, hx, hy, hl => by
    obtain ⟨g, h1, h2⟩ := eq_row hf as bs xl yl hx.2 hy.2 (Nat.succ.inj hl)
    refine ⟨fun j => match j with | 0 => decide (a = b) | j + 1 => g j, fun j x' y' hx' hy' => ?_, ?_⟩
    · cases j with
      | zero => cases hx'; cases hy'; exact hf _ _ _ _ hx.1 hy.1
      | succ j => exact h1 j x' y' hx' hy'
    · rw [List.length_cons, List.range_succ_eq_map, List.all_cons, List.all_map]
      show (decide (a = b) && (List.range xl.length).all g) = _
      rw [h2, ← Bool.decide_and]
      exact decide_eq_decide.mpr List.cons_eq_cons.symm
  | [], _ :: _, _, _, _, _, h => by cases h
  | _ :: _, [], _, _, _, _, h => by cases h
  | [], [], _ :: _, _, hx, _, _ => hx.elim
  | [], [], [], _ :: _, _, hy, _ => hy.elim
  | _ :: _, _ :: _, [], _, hx, _, _ => hx.elim
  | _ :: _, _ :: _, _ :: _, [], _, hy, _ => hy.elim
theorem eq_int {A : Around} {s : Shared} {ρ : List Addr} (a b : Int) (x y : Value) (hx : VRep ρ (.int a) x) (hy : VRep ρ (.int b) y) : SeqAt.EqAt A s x y (decide (a = b)) := by
  obtain ⟨t, rfl⟩ := hx
  obtain ⟨t', rfl⟩ := hy
  exact SeqAt.EqAt.int_int _ _ _ _
theorem eq_bool {A : Around} {s : Shared} {ρ : List Addr} (a b : Bool) (x y : Value) (hx : VRep ρ (.bool a) x) (hy : VRep ρ (.bool b) y) : SeqAt.EqAt A s x y (decide (a = b)) := by
  cases hx
  cases hy
  have h := SeqAt.EqAt.bool_bool (A := A) (s := s) a b
  have e : (a == b) = decide (a = b) := by cases a <;> cases b <;> rfl
  rw [← e]; exact h
end Mine
end

section
namespace Mine.H
open PySem PySem.W PyProof.Rows PySem.Calls
variable {P : Prog} {n : Nat} {sc : Scope} {α β γ δ : Type} {bs bs' : Bs} {σ : Store} {Q : α → Bs → Store → Prop}
noncomputable def cmpV (miss : Addr) (op : CmpOp) (a b : AV) : Mm P n sc AV := op2 (compareOp op) a b
theorem units_ok {X : Cx} {env : Env} {A : Around} {N : Nat} {ρ : List Addr} {s : Shared} (i : Inv X sc env A N ρ bs σ s) : A.units + 3 < cLine := by
  have := i.ok.units
  unfold cLine; lia
section
variable {m : Addr} {a b : Int} {c d : List UInt8}
theorem pv_eqI : Pv (cmpV m .Eq (.int a) (.int b) : Mm P n sc AV) bs σ (.bool (a == b)) := pv_of fun Q q K ρ s i u v ⟨t, hu⟩ ⟨t', hv⟩ => by
  subst hu hv; exact wpN_any (SeqAt.RcAt.int_int _ _ _ _ _ _ _ _ (post_here i q rfl))
theorem pv_neI : Pv (cmpV m .NotEq (.int a) (.int b) : Mm P n sc AV) bs σ (.bool (!(a == b))) := pv_of fun Q q K ρ s i u v ⟨t, hu⟩ ⟨t', hv⟩ => by
  subst hu hv; exact wpN_any (SeqAt.RcNeAt.int_int _ _ _ _ _ _ _ _ (post_here i q rfl))
theorem pv_lt : Pv (cmpV m .Lt (.int a) (.int b) : Mm P n sc AV) bs σ (.bool (decide (a < b))) := pv_of fun Q q K ρ s i u v ⟨t, hu⟩ ⟨t', hv⟩ => by
  subst hu hv; exact wpN_any (lt_int (post_here i q rfl))
end
theorem rows_rc {A : Around} {s : Shared} {α : Type} [DecidableEq α] {f : α → AV} {ρ : List Addr} {i j : Nat} {xs ys : List α} {u v : Value} (h1 : LsAt ρ s i (xs.map f) u) (h2 : LsAt ρ s j (ys.map f) v) (hu : A.units < cLine)
    (hf : ∀ a b x y, VRep ρ (f a) x → VRep ρ (f b) y → SeqAt.EqAt A.in1 s x y (decide (a = b))) : SeqAt.RcAt A s u v (decide (xs = ys)) ∧ SeqAt.RcNeAt A s u v (!decide (xs = ys)) := by
  cases h1 with
  | mk a zs m hu' ha ho hv hl hz =>
  cases h2 with
  | mk b ws m' hu2 hb ho2 hv2 hl2 hz2 =>
  subst hu' hu2
  rw [List.length_map] at hz hz2
  by_cases hle : xs.length = ys.length
  · obtain ⟨g, g1, g2⟩ := eq_row hf xs ys _ _ hv hv2 hle
    have g2 : (List.range zs.size).all g = decide (xs = ys) := by rw [← g2, Array.length_toList]
    have g3 : ∀ (j : Nat) (h1 : j < zs.size) (h2 : j < ws.size), SeqAt.EqAt A.in1 s zs[j] ws[j] (g j) := fun j h1 h2 => g1 j _ _ (by simp) (by simp)
    rw [← g2]
    exact ⟨SeqAt.RcAt.lists (isList_of ho) (isList_of ho2) (by lia) hu g3, SeqAt.RcNeAt.lists (isList_of ho) (isList_of ho2) (by lia) hu g3⟩
  · have hd : decide (xs = ys) = false := decide_eq_false fun q => hle (by rw [q])
    rw [hd]
    have hne : (zs.size != ws.size) = true := by simp; lia
    exact ⟨SeqAt.RcAt.lists_lengths (isList_of ho) (isList_of ho2) hne hu, SeqAt.RcNeAt.lists_lengths (isList_of ho) (isList_of ho2) hne hu⟩
section
variable {m : Addr} {i j : Nat} {xs ys : List Int} {r : Bool}
theorem pv_eqL (h1 : σ[i]? = some (.list (xs.map AV.int))) (h2 : σ[j]? = some (.list (ys.map AV.int))) (hr : decide (xs = ys) = r) : Pv (cmpV m .Eq (.ref i) (.ref j) : Mm P n sc AV) bs σ (.bool r) := pv_of fun Q q K ρ s iv u v hu hv => by
  have h := (rows_rc (A := K.A) (ls_at iv h1 hu) (ls_at iv h2 hv) (by have := units_ok iv; lia) eq_int).1
  rw [hr] at h
  exact wpN_any (h _ _ _ _ (post_here iv q rfl))
theorem pv_neL (h1 : σ[i]? = some (.list (xs.map AV.int))) (h2 : σ[j]? = some (.list (ys.map AV.int))) (hr : decide (xs = ys) = r) : Pv (cmpV m .NotEq (.ref i) (.ref j) : Mm P n sc AV) bs σ (.bool (!r)) := pv_of fun Q q K ρ s iv u v hu hv => by
  have h := (rows_rc (A := K.A) (ls_at iv h1 hu) (ls_at iv h2 hv) (by have := units_ok iv; lia) eq_int).2
  rw [hr] at h
  exact wpN_any (h _ _ _ _ (post_here iv q rfl))
end
theorem is_none {a : AV} {u : Value} {ρ : List Addr} {k : Bool} (hu : VRep ρ a u) (h : isNoneV a = some k) : PySem.plainIs u .none = true ∧ (u == .none) = k := by
  cases a with
  | none => cases h; cases hu; exact ⟨rfl, rfl⟩
  | bool b => cases h; cases hu; exact ⟨rfl, rfl⟩
  | int i => cases h; obtain ⟨t, rfl⟩ := hu; exact ⟨rfl, rfl⟩
  | bytes b => cases h; obtain ⟨t, rfl⟩ := hu; exact ⟨rfl, rfl⟩
  | ref i => cases h; obtain ⟨t, _, rfl⟩ := hu; exact ⟨rfl, rfl⟩
  | ext v => cases h
structure IsAt (M : Model) (A : Around) (s : Shared) (u v : Value) (k : Bool) : Prop where
  is : ∀ (R : Value → Shared → Prop) (E : Value → Shared → Prop), R (.bool k) s → wpAny M A (compareOp .Is u v) R E s
  isNot : ∀ (R : Value → Shared → Prop) (E : Value → Shared → Prop), R (.bool (!k)) s → wpAny M A (compareOp .IsNot u v) R E s
theorem IsAt.plain {M : Model} {A : Around} {s : Shared} {u v : Value} {k : Bool} (h : PySem.plainIs u v = true ∧ (u == v) = k) : IsAt M A s u v k := ⟨fun R E q => wpAny_is_plain h.1 (by rw [h.2]; exact q), fun R E q => wpAny_isNot_plain h.1 (by rw [h.2]; exact q)⟩
theorem is_bool {M : Model} {A : Around} {s : Shared} {ρ : List Addr} {a : AV} {q k : Bool} {u : Value} (ha : VRep ρ a u) (e : isBoolV q a = some k) : IsAt M A s u (.bool q) k := by
  cases a with
  | bool p => cases e; cases ha; exact .plain ⟨rfl, by cases p <;> cases q <;> rfl⟩
  | _ => cases e
theorem is_miss {X : Cx} {env : Env} {A : Around} {N : Nat} {ρ : List Addr} {s : Shared} {a : AV} {u : Value} {k : Bool} (F : Fx X) (i : Inv X sc env A N ρ bs σ s) (ha : VRep ρ a u) (e : isMissV X.P.miss σ a = some k) : IsAt (model X.prog X.w) A s u (.ref X.P.miss) k := by
  cases a with
  | bytes b => cases e; obtain ⟨t, rfl⟩ := ha; exact .plain ⟨rfl, rfl⟩
  | ref j =>
    obtain ⟨vs, h1, rfl⟩ := Option.map_eq_some_iff.mp e
    cases ls_at i (lsOf_some h1) ha with
    | mk a xs n hu hr ho hv hl hz =>
      subst hu
      obtain ⟨om, hom⟩ := F.miss
      have hne : a ≠ X.P.miss := fun q => by
        have := i.rep.new j a _ hr (lsOf_some h1) rfl
        rw [q, hom] at this; cases this
      have ht : Value.type "list" ≠ Value.type "tuple" := by decide
      exact ⟨fun R E q => wpAny_is_ref_other hne ho (i.rep.keep _ _ hom) ht q, fun R E q => wpAny_isNot_ref_other hne ho (i.rep.keep _ _ hom) ht q⟩
  | ext w =>
    cases ha
    cases u with
    | ref k' =>
      have e : (if k' = X.P.miss then some true else Option.none) = some k := e
      split at e
      · rename_i hk
        cases e; rw [hk]
        exact ⟨fun R E q => wpAny_is_ref_self q, fun R E q => wpAny_isNot_ref_self q⟩
      · cases e
    | _ => cases e
  | _ => cases e
theorem op_is {X : Cx} {env : Env} {A : Around} {N : Nat} {ρ : List Addr} {s : Shared} {a b : AV} {u v : Value} {k : Bool} (F : Fx X) (i : Inv X sc env A N ρ bs σ s) (ha : VRep ρ a u) (hb : VRep ρ b v) (e : isV X.P.miss σ a b = some k) : IsAt (model X.prog X.w) A s u v k := by
  cases b with
  | none => cases hb; exact .plain (is_none ha e)
  | bool q => cases hb; exact is_bool ha e
  | ext w =>
    cases hb
    cases v with
    | ref m =>
      have hm : m = X.P.miss := Classical.byContradiction fun q => by
        have e : (if m = X.P.miss then _ else Option.none) = some k := e
        rw [if_neg q] at e; cases e
      subst hm
      exact is_miss F i ha (by rw [isV, if_pos rfl] at e; exact e)
    | _ => cases e
  | _ => cases e
theorem pv_is {a b : AV} {r : Bool} (h : isV P.miss σ a b = some r) : Pv (cmpV P.miss .Is a b : Mm P n sc AV) bs σ (.bool r) := pv_of fun Q q K ρ s iv u v hu hv =>
  wpN_any ((op_is K.F iv hu hv (by rw [K.hP]; exact h)).is _ _ (post_here iv q rfl))
theorem pv_isnot {a b : AV} {r : Bool} (h : isV P.miss σ a b = some r) : Pv (cmpV P.miss .IsNot a b : Mm P n sc AV) bs σ (.bool (!r)) := pv_of fun Q q K ρ s iv u v hu hv =>
  wpN_any ((op_is K.F iv hu hv (by rw [K.hP]; exact h)).isNot _ _ (post_here iv q rfl))
end Mine.H
end

section
namespace Mine
open PySem PySem.W PyProof.Rows PySem.Calls
inductive DcAt (X : Cx) (ρ : List Addr) (s : Shared) (i : Nat) (es : List (Int × AV)) (u : Value) : Prop
  | mk (a : Addr) (kvs : List (Int × Value)) (hu : u = .ref a) (ha : ρ[i]? = some a) (hd : s.heap.DictOf (intKind X.prog X.w) a kvs) (hr : DReps ρ es kvs) (hl : es.length ≤ 1000)
theorem dc_at {X : Cx} {sc : Scope} {env : Env} {A : Around} {n : Nat} {ρ : List Addr} {bs : Bs} {σ : Store} {s : Shared} {i : Nat} {es : List (Int × AV)} {u : Value} (iv : Inv X sc env A n ρ bs σ s) (e : σ[i]? = some (.dict es) ∨ σ[i]? = some (.fdict es)) (hu : VRep ρ (.ref i) u) : DcAt X ρ s i es u := by
  obtain ⟨a, ha, rfl⟩ := hu
  have key : ∃ o, s.heap.get? a = some o ∧ OR X ρ o (.dict es) := by
    rcases e with e | e
    · exact iv.rep.obj i a _ ha e
    · have h := iv.rep.obj i a (.fdict es) ha e
      exact h
  obtain ⟨o, ho, h1, ds, ep, kvs, h2, h3, h4, h5, h6, h7⟩ := key
  exact ⟨a, kvs, rfl, ha, ⟨o, ds, ep, ho, h1, h2, h3, h4, h5⟩, h6, h7⟩
theorem DReps.value {ρ : List Addr} : ∀ {es : List (Int × AV)} {kvs : List (Int × Value)}, DReps ρ es kvs → ∀ k, (∃ v u, dget es k = some v ∧ valueAt kvs k = some u ∧ VRep ρ v u) ∨ (dget es k = Option.none ∧ valueAt kvs k = Option.none)
  | [], [], _, k => .inr ⟨rfl, rfl⟩
  | (k', v) :: es, (k'', u) :: kvs, r, k => by
    obtain ⟨h1, h2, h3⟩ := r
    have h1 : k' = k'' := h1
    subst h1
    have ih := DReps.value h3 k
    unfold dget valueAt at ih ⊢
    rw [List.lookup_cons, List.find?_cons]
    by_cases hk : k = k'
    · subst hk
      exact .inl ⟨v, u, by rw [beq_self_eq_true], by simp, h2⟩
    · have hb : (k == k') = false := by simpa using hk
      have hb' : decide (k' = k) = false := by simpa using fun q : k' = k => hk q.symm
      rw [hb]
      simp only [hb']
      exact ih
  | [], _ :: _, r, _ => r.elim
  | _ :: _, [], r, _ => r.elim
theorem any_key (es : List (Int × AV)) (k : Int) : es.any (·.1 == k) = (dget es k).isSome := by
  induction es with
  | nil => rfl
  | cons e es ih =>
    obtain ⟨k', v⟩ := e
    unfold dget at ih ⊢
    rw [List.any_cons, List.lookup_cons, ih]
    by_cases h : k = k'
    · subst h; simp
    · have h1 : (k == k') = false := by simpa using h
      have h2 : (k' == k) = false := by simpa using fun q : k' = k => h q.symm
      simp [h1, h2]
theorem own_ne {X : Cx} {sc : Scope} {env : Env} {A : Around} {n : Nat} {ρ : List Addr} {bs : Bs} {σ : Store} {s : Shared} (i : Inv X sc env A n ρ bs σ s) {j : Nat} {a : Addr} {ao : AO} (ha : ρ[j]? = some a) (hao : σ[j]? = some ao) (hf : ao.frozen = false) {b : Addr} {o : Obj} (hb : X.h₀.get? b = some o) : a ≠ b := fun q => by
  rw [q] at ha
  rw [i.rep.new j b ao ha hao hf] at hb; cases hb
namespace H
variable {P : Prog} {n : Nat} {sc : Scope} {α β γ δ : Type} {bs bs' : Bs} {σ : Store} {Q : α → Bs → Store → Prop}
structure InAt (M : Model) (A : Around) (s : Shared) (u v : Value) (k : Bool) : Prop where
  isIn : ∀ (R : Value → Shared → Prop) (E : Value → Shared → Prop), (∀ s', s'.heap = s.heap → s'.gens = s.gens → s'.os = s.os → R (.bool k) s') → wpAny M A (compareOp .In u v) R E s
  notIn : ∀ (R : Value → Shared → Prop) (E : Value → Shared → Prop), (∀ s', s'.heap = s.heap → s'.gens = s.gens → s'.os = s.os → R (.bool (!k)) s') → wpAny M A (compareOp .NotIn u v) R E s
section
variable {X : Cx} {env : Env} {A : Around} {N : Nat} {ρ : List Addr} {s : Shared} {k : Int} {i : Nat} {u v : Value}
theorem in_list {ns : List Int} (iv : Inv X sc env A N ρ bs σ s) (e : σ[i]? = some (.list (ns.map AV.int))) (hu : VRep ρ (.int k) u) (hv : VRep ρ (.ref i) v) : InAt (model X.prog X.w) A s u v (ns.contains k) := by
  cases ls_at iv e hv with
  | mk a xs m hv' ha ho hr hl hz =>
    obtain ⟨t, rfl⟩ := hu
    subst hv'
    have he : ∀ y, y ∈ xs → SeqAt.EqAt A.in1 s y (.int k t) (intIs k y) := fun y hy => by
      obtain ⟨j, hj, rfl⟩ := Array.mem_iff_getElem.mp hy
      obtain ⟨m, t', h2, h3⟩ := ints_get hr (j := j) (x := xs[j]) (by simp)
      rw [h3]; exact SeqAt.EqAt.int_int _ _ _ _
    have hc : (xs.any (intIs k)) = ns.contains k := by
      rw [← ints_any hr, Array.any_toList]
    exact ⟨fun R E q => SeqAt.in_listAt _ (isList_of ho) he (by rw [hc]; exact q _ rfl rfl rfl), fun R E q => SeqAt.notIn_listAt _ (isList_of ho) he (by rw [hc]; exact q _ rfl rfl rfl)⟩
theorem in_set {xs : List Int} (iv : Inv X sc env A N ρ bs σ s) (e : σ[i]? = some (.set xs)) (hu : VRep ρ (.int k) u) (hv : VRep ρ (.ref i) v) : InAt (model X.prog X.w) A s u v (xs.contains k) := by
  obtain ⟨a, ha, rfl⟩ := hv
  obtain ⟨t, rfl⟩ := hu
  obtain ⟨o, ho, h1, h2⟩ := iv.rep.obj i a _ ha e
  have hS := h1.setOf ho (by unfold scanBound; lia)
  exact ⟨fun R E q => wpAny_inSet_of (intKind_is X.prog X.w k t) rfl hS (q _ rfl rfl rfl), fun R E q => wpAny_notInSet_of (intKind_is X.prog X.w k t) rfl hS (q _ rfl rfl rfl)⟩
theorem in_dict {es : List (Int × AV)} (F : Fx X) (iv : Inv X sc env A N ρ bs σ s) (e : σ[i]? = some (.dict es)) (hu : VRep ρ (.int k) u) (hv : VRep ρ (.ref i) v) : InAt (model X.prog X.w) A s u v (es.any (·.1 == k)) := by
  cases dc_at iv (.inl e) hv with
  | mk a kvs hv' ha hD hR hl =>
    obtain ⟨t, rfl⟩ := hu
    subst hv'
    obtain ⟨os, hos⟩ := F.sys
    have hne : (a == sysModules) = false := by simpa using own_ne iv ha e rfl hos
    have hk : (valueAt kvs k).isSome = es.any (·.1 == k) := by
      rw [any_key]
      rcases hR.value k with ⟨v, w, h1, h2, _⟩ | ⟨h1, h2⟩ <;> rw [h1, h2] <;> rfl
    exact ⟨fun R E q => wpAny_in_of (intKind_is X.prog X.w k t) hne hD.mapOf (by rw [hk]; exact q _ rfl rfl rfl), fun R E q => wpAny_notIn_of (intKind_is X.prog X.w k t) hne hD.mapOf (by rw [hk]; exact q _ rfl rfl rfl)⟩
end
section
variable {m : Addr} {i : Nat} {k : Int}
theorem pv_inL {ns : List Int} (e : σ[i]? = some (.list (ns.map AV.int))) : Pv (cmpV m .In (.int k) (.ref i) : Mm P n sc AV) bs σ (.bool (ns.contains k)) := pv_of fun Q q K ρ s iv u v hu hv => wpN_any ((in_list iv e hu hv).isIn _ _ fun s' h1 h2 h3 => post_same iv h1 h2 h3 q rfl)
theorem pv_notinL {ns : List Int} (e : σ[i]? = some (.list (ns.map AV.int))) : Pv (cmpV m .NotIn (.int k) (.ref i) : Mm P n sc AV) bs σ (.bool (!(ns.contains k))) := pv_of fun Q q K ρ s iv u v hu hv => wpN_any ((in_list iv e hu hv).notIn _ _ fun s' h1 h2 h3 => post_same iv h1 h2 h3 q rfl)
theorem pv_inS {xs : List Int} (e : σ[i]? = some (.set xs)) : Pv (cmpV m .In (.int k) (.ref i) : Mm P n sc AV) bs σ (.bool (xs.contains k)) := pv_of fun Q q K ρ s iv u v hu hv => wpN_any ((in_set iv e hu hv).isIn _ _ fun s' h1 h2 h3 => post_same iv h1 h2 h3 q rfl)
theorem pv_inD {es : List (Int × AV)} (e : σ[i]? = some (.dict es)) : Pv (cmpV m .In (.int k) (.ref i) : Mm P n sc AV) bs σ (.bool (es.any (·.1 == k))) := pv_of fun Q q K ρ s iv u v hu hv => wpN_any ((in_dict K.F iv e hu hv).isIn _ _ fun s' h1 h2 h3 => post_same iv h1 h2 h3 q rfl)
end
end H
end Mine
end

section
namespace Mine.H
open PySem PySem.W PyProof.Rows PySem.Calls
variable {P : Prog} {n : Nat} {sc : Scope} {α β γ δ : Type} {bs bs' : Bs} {σ : Store} {Q : α → Bs → Store → Prop}
noncomputable def isNm (sc : Scope) (x : Str) : Bool := (match sc.names.lookup x with | some .local => true | some .cell => true | some .free => true | _ => false) && !(x == ("__debug__" : Str)) && !(x == ("__classdict__" : Str))
noncomputable def isGl (sc : Scope) (x : Str) : Bool := (match sc.names.lookup x with | some .globalImplicit => true | _ => false) && !(x == ("__debug__" : Str)) && !(x == ("__classdict__" : Str))
theorem kind_of {X : Cx} {env : Env} {ρ : List Addr} {h : Heap} {x : Str} {k : NameKind} (f : InFr X sc env ρ bs h) (hx : sc.names.lookup x = some k) (hk : k ≠ .free) : env.kindOf x = some k := by
  rcases f.names x _ hx with h | h
  · exact h
  · exact absurd h.1 hk
theorem nm_split {x : Str} (hx : isNm sc x = true) : (sc.names.lookup x = some .local ∨ sc.names.lookup x = some .cell ∨ sc.names.lookup x = some .free) ∧ (x == ("__debug__" : Str)) = false ∧ (x == ("__classdict__" : Str)) = false := by
  unfold isNm at hx
  rw [Bool.and_eq_true, Bool.and_eq_true, Bool.not_eq_true', Bool.not_eq_true'] at hx
  refine ⟨?_, hx.1.2, hx.2⟩
  have h1 := hx.1.1
  cases h : sc.names.lookup x with
  | none => rw [h] at h1; cases h1
  | some k => rw [h] at h1; cases k <;> first | exact .inl rfl | exact .inr (.inl rfl) | exact .inr (.inr rfl) | cases h1
theorem gl_split {x : Str} (hx : isGl sc x = true) : sc.names.lookup x = some .globalImplicit ∧ (x == ("__debug__" : Str)) = false := by
  unfold isGl at hx
  rw [Bool.and_eq_true, Bool.and_eq_true, Bool.not_eq_true', Bool.not_eq_true'] at hx
  refine ⟨?_, hx.1.2⟩
  have h1 := hx.1.1
  cases h : sc.names.lookup x with
  | none => rw [h] at h1; cases h1
  | some k => rw [h] at h1; cases k <;> first | rfl | cases h1
theorem pv_name {x : Str} {p : Pos} {v : AV} (hx : isNm sc x = true) (e : bs.lookup x = some v) : Pv (ev P n sc (.Name x p)) bs σ v := pv_of fun Q q K ρ s i => by
  show wpN _ _ (PySem.eval _ _) _ _
  refine wpN_any ?_
  obtain ⟨hk, h1, h2⟩ := nm_split hx
  rcases hk with hk | hk | hk
  · obtain ⟨m, hm, hall⟩ := i.fr.ns
    obtain ⟨u, hu, hr⟩ := hall x _ hk e
    exact wpAny_Name (wpAny_loadName_local i.fr.kind (kind_of i.fr hk (by decide)) hm hu (post_here i q hr)) h1
  · obtain ⟨c, u, g1, g2, g3, g5⟩ := i.fr.cell x (.inl hk)
    obtain ⟨u', rfl, hr⟩ := g5 _ e
    exact wpAny_Name (wpAny_loadName_cell i.fr.kind (kind_of i.fr hk (by decide)) g1 g2 (post_here i q hr)) h1
  · obtain ⟨c, u, g1, g2, g3, g5⟩ := i.fr.cell x (.inr hk)
    obtain ⟨u', rfl, hr⟩ := g5 _ e
    rcases i.fr.names x _ hk with h | ⟨_, h⟩
    · exact wpAny_Name (wpAny_loadName_free i.fr.kind h g1 g2 (post_here i q hr) h2) h1
    · exact wpAny_Name (wpAny_loadName_cell i.fr.kind h g1 g2 (post_here i q hr)) h1
theorem pv_glob {x : Str} {p : Pos} {v : AV} (hx : isGl sc x = true) (e : P.glob x = some v) : Pv (ev P n sc (.Name x p)) bs σ v := pv_of fun Q q K ρ s i => by
  show wpN _ _ (PySem.eval _ _) _ _
  refine wpN_any ?_
  obtain ⟨hk, h1⟩ := gl_split hx
  obtain ⟨mg, mb, hmg, hmb, hall⟩ := K.F.glob
  obtain ⟨u, hu, hv⟩ := hall x v (by rw [K.hP]; exact e)
  have kg : s.heap.Ns K.env.globals mg := by rw [i.fr.glob]; exact hmg.keeps i.rep.keep
  have kb : s.heap.Ns K.env.builtins mb := by rw [i.fr.bi]; exact hmb.keeps i.rep.keep
  refine Name_function_global i.fr.kind (kind_of i.fr hk (by decide)) ?_ h1
  rcases hu with hu | ⟨hu, hu'⟩
  · exact loadGlobal_global kg hu (post_here i q (hv ρ))
  · exact loadGlobal_builtin kg hu kb hu' (post_here i q (hv ρ))
theorem marked_no {op : CmpOp} {r : Expr} (h : behindInMarks op r = false) (env : Env) : markedEach [op] [r] (evalEach [r] env) = [PySem.eval r env] := by
  show [markedBehindIn op r (PySem.eval r env)] = _
  unfold markedBehindIn
  rw [h]
theorem hx_cmp {l r : Expr} {op : CmpOp} {p : Pos} {Q : AV → Bs → Store → Prop} (hb : behindInMarks op r = false) (h : Hx (ev P n sc l) bs σ fun a bs' σ' => Hx (ev P n sc r) bs' σ' fun b bs'' σ'' => Hx (cmpV P.miss op a b : Mm P n sc AV) bs'' σ'' Q) : Hx (ev P n sc (.Compare l [op] [r] p)) bs σ Q := fun K ρ s iv => by
  show wpN _ _ (PySem.eval _ _) _ _
  rw [arm_eval_Compare, marked_no hb]
  refine thenP (h K ρ s iv) fun a _ _ ρ₁ u t₁ h i₁ p₁ hu => ?_
  show wpN _ _ (holding [u] (PySem.eval r K.env) >>= _) _ _
  refine thenP (wpN_holding (h K ρ₁ t₁ i₁)) fun b _ _ ρ₂ y t₂ h i₂ p₂ hy => ?_
  exact wpN_stand (wpN_operate (h K ρ₂ t₂ i₂ u y (hu.mono p₂) hy))
theorem pv_cmp {l r : Expr} {op : CmpOp} {p : Pos} {a b v : AV} (hb : behindInMarks op r = false) (h1 : Pv (ev P n sc l) bs σ a) (h2 : Pv (ev P n sc r) bs σ b) (h : Pv (cmpV P.miss op a b : Mm P n sc AV) bs σ v) : Pv (ev P n sc (.Compare l [op] [r] p)) bs σ v := hx_cmp hb (hx_pv h1 (hx_pv h2 h))
theorem op_truth {X : Cx} {env : Env} {A : Around} {N : Nat} {ρ : List Addr} {s : Shared} {a : AV} {u : Value} {r : Bool} {R : Bool → Shared → Prop} {E : Value → Shared → Prop} (i : Inv X sc env A N ρ bs σ s) (ha : VRep ρ a u) (e : truth σ a = some r)
    (h : ∀ s', s'.heap = s.heap → s'.gens = s.gens → s'.os = s.os → R r s') : wpAny (model X.prog X.w) A (truthy u) R E s := by
  cases a with
  | none => cases e; cases ha; exact truthy_none (h _ rfl rfl rfl)
  | bool b => cases e; cases ha; exact wpAny_truthy_bool (h _ rfl rfl rfl)
  | int k => cases e; obtain ⟨t, rfl⟩ := ha; exact truthy_int (h _ rfl rfl rfl)
  | ref j =>
    obtain ⟨vs, h1, rfl⟩ := Option.map_eq_some_iff.mp e
    cases ls_at i (lsOf_some h1) ha with
    | mk a xs m hu hr ho hv hl hz =>
      subst hu
      refine wpAny_truthy_list (isList_of ho) (by lia) ?_
      have : xs.isEmpty = vs.isEmpty := by rw [Array.isEmpty, hz]; cases vs <;> rfl
      rw [this]
      exact h _ rfl rfl rfl
  | _ => cases e
def boolV (_ : List Addr) (b c : Bool) : Prop := c = b
noncomputable def evT (P : Prog) (n : Nat) (sc : Scope) (e : Expr) : Mm P n sc Bool := tree (fun env => PySem.isTrue e env (PySem.eval e env)) boolV
noncomputable def evAll (P : Prog) (n : Nat) (sc : Scope) (op : BoolOp) (es : List Expr) : Mm P n sc Bool := tree (fun env => allTrue op es env) boolV
theorem hx_tNot {x : Expr} {p : Pos} {Q : Bool → Bs → Store → Prop} (h : Hx (evT P n sc x) bs σ fun b bs' σ' => Q (!b) bs' σ') : Hx (evT P n sc (.UnaryOp .Not x p)) bs σ Q := fun K ρ s iv => by
  show wpN _ _ (isTrue _ _ _) _ _
  rw [arm_isTrue_UnaryOp]
  refine thenP (h K ρ s iv) fun b _ _ ρ₁ u t₁ h i₁ p₁ hu => ?_
  cases hu
  exact wpN_pure (post_here i₁ h rfl)
theorem hx_tCmp {l r : Expr} {op : CmpOp} {p : Pos} {Q : Bool → Bs → Store → Prop} (hb : behindInMarks op r = false) (h : Hx (ev P n sc l) bs σ fun a bs' σ' => Hx (ev P n sc r) bs' σ' fun b bs' σ' => Hx (cmpV P.miss op a b : Mm P n sc AV) bs' σ' fun c bs' σ' => ∃ b, c = .bool b ∧ Q b bs' σ') : Hx (evT P n sc (.Compare l [op] [r] p)) bs σ Q := fun K ρ s iv => by
  show wpN _ _ (isTrue _ _ _) _ _
  rw [arm_isTrue_Compare, marked_no hb]
  refine thenP (h K ρ s iv) fun a _ _ ρ₁ u t₁ h i₁ p₁ hu => ?_
  show wpN _ _ (holding [u] (PySem.eval r K.env) >>= _) _ _
  refine thenP (wpN_holding (h K ρ₁ t₁ i₁)) fun b _ _ ρ₂ y t₂ h i₂ p₂ hy => ?_
  refine wpN_stand (thenP (wpN_operate (h K ρ₂ t₂ i₂ u y (hu.mono p₂) hy)) fun c _ _ ρ₃ z t₃ h i₃ p₃ hz => ?_)
  obtain ⟨d, rfl, h⟩ := h
  have hz : VRep ρ₃ (.bool d) z := hz
  exact wpN_holding (wpN_any (op_truth i₃ hz rfl fun s' e1 e2 e3 => post_same i₃ e1 e2 e3 h rfl))
noncomputable def plainT : Expr → Bool
  | .Name .. => true
  | .Call .. => true
  | .ListComp .. => true
  | .Subscript .. => true
  | .Constant .. => true
  | _ => false
theorem hx_tVal {e : Expr} {Q : Bool → Bs → Store → Prop} (he : plainT e = true) (h : Hx (ev P n sc e) bs σ fun v bs' σ' => ∃ b, truth σ' v = some b ∧ Q b bs' σ') : Hx (evT P n sc e) bs σ Q := fun K ρ s iv => by
  have harm : isTrue e K.env (PySem.eval e K.env) = (do let v ← PySem.eval e K.env; standAt e.pos; holding [v] (truthy v)) := by
    cases e <;> first | rfl | cases he
  show wpN _ _ (isTrue _ _ _) _ _
  rw [harm]
  refine thenP (h K ρ s iv) fun a _ _ ρ₁ u t₁ h i₁ p₁ hu => ?_
  obtain ⟨b, hb, h⟩ := h
  exact wpN_stand (wpN_holding (wpN_any (op_truth i₁ hu hb fun s' e1 e2 e3 => post_same i₁ e1 e2 e3 h rfl)))
theorem pv_tCmp {l r : Expr} {op : CmpOp} {p : Pos} {a b : AV} {c : Bool} (hb : behindInMarks op r = false) (h1 : Pv (ev P n sc l) bs σ a) (h2 : Pv (ev P n sc r) bs σ b) (h : Pv (cmpV P.miss op a b : Mm P n sc AV) bs σ (.bool c)) : Pv (evT P n sc (.Compare l [op] [r] p)) bs σ c :=
  hx_tCmp hb (hx_pv h1 (hx_pv h2 (hx_pv h ⟨c, rfl, rfl, rfl, rfl⟩)))
theorem pv_tVal {e : Expr} {v : AV} {b : Bool} (he : plainT e = true) (h : Pv (ev P n sc e) bs σ v) (hb : truth σ v = some b) : Pv (evT P n sc e) bs σ b := hx_tVal he (hx_pv h ⟨b, hb, rfl, rfl, rfl⟩)
theorem hx_tBool {op : BoolOp} {vs : List Expr} {p : Pos} {Q : Bool → Bs → Store → Prop} (h : Hx (evAll P n sc op vs) bs σ Q) : Hx (evT P n sc (.BoolOp op vs p)) bs σ Q := fun K ρ s iv => h K ρ s iv
theorem hx_allOr {Q : Bool → Bs → Store → Prop} (h : Q false bs σ) : Hx (evAll P n sc .Or []) bs σ Q := fun K ρ s iv => wpN_pure (post_here iv h rfl)
theorem hx_or {e : Expr} {r : List Expr} {Q : Bool → Bs → Store → Prop} (h : Hx (evT P n sc e) bs σ fun b bs' σ' => (b = true → Q true bs' σ') ∧ (b = false → Hx (evAll P n sc .Or r) bs' σ' Q)) : Hx (evAll P n sc .Or (e :: r)) bs σ Q := fun K ρ s iv => by
  show wpN _ _ (allTrue _ _ _) _ _
  rw [arm_allTrue_cons]
  refine thenP (h K ρ s iv) fun b _ _ ρ₁ u t₁ h i₁ p₁ hu => ?_
  cases hu
  cases b with
  | true => exact wpN_pure (post_here i₁ (h.1 rfl) rfl)
  | false => exact h.2 rfl K ρ₁ t₁ i₁
theorem truth_list {i : Nat} {vs : List AV} (h : σ[i]? = some (.list vs)) : truth σ (.ref i) = some (!vs.isEmpty) := by
  show (lsOf σ[i]?).map _ = _
  rw [h]; rfl
end Mine.H
end

section
namespace Mine.H
open PySem PySem.W PyProof.Rows PySem.Calls
variable {P : Prog} {n : Nat} {sc : Scope} {α β γ δ : Type} {bs bs' : Bs} {σ : Store} {Q : α → Bs → Store → Prop}
theorem lookup_bytes_getitem : typeLookup (.type "bytes") "__getitem__" = pure (some (.builtin "bytes.__getitem__")) := by rw [typeLookup_type, builtinLookup_eq_fast]; kernel_rfl
theorem lookup_dict_getitem : typeLookup (.type "dict") "__getitem__" = pure (some (.builtin "dict.__getitem__")) := by rw [typeLookup_type, builtinLookup_eq_fast]; kernel_rfl
theorem subscripted_plain {e : Expr} (h : notSlice e = true) (o i : Value) : subscripted e false o i = operate [o, i] (getItem o i) := by
  cases e <;> first | rfl | cases h
noncomputable def getItemV (a b : AV) : Mm P n sc AV := ⟨Value, fun K ρ s R => ∀ v i x y, notSlice i = true → VRep ρ a x → VRep ρ b y → wpN K.M K.A (subscriptTail v i x y) R s, fun d h v i x y hi hx hy => wpN_mono (d v i x y hi hx hy) h, VRep⟩
section
variable {i : Nat} {j : Int} {vs : List AV} {v : AV} {es : List (Int × AV)}
theorem pv_itemL (h : σ[i]? = some (.list vs)) (hj : j.natAbs < 2 ^ 62) (e : (place j vs.length).bind (vs[·]?) = some v) : Pv (getItemV (.ref i) (.int j) : Mm P n sc AV) bs σ v := pv_of fun Q q K ρ s iv val sl u w hsl hu hw => by
  obtain ⟨t, rfl⟩ := hw
  cases ls_at iv h hu with
  | mk a xs m hu' ha ho hv hl hz =>
    subst hu'
    obtain ⟨pl, hpl, hvs⟩ := Option.bind_eq_some_iff.mp e
    obtain ⟨x, hx, hr⟩ := hv.get hvs
    have hx' : xs[pl]? = some x := by rw [← Array.getElem?_toList]; exact hx
    refine wpN_any (tail_any (isList_of ho).typeIs slot_list_getitem.lookup ?_ (subscripted_plain hsl _ _))
    unfold place at hpl
    by_cases h0 : 0 ≤ j
    · rw [if_pos h0] at hpl
      by_cases h1 : j < vs.length
      · rw [if_pos h1] at hpl
        cases hpl
        exact wpAny_getItem_list (isList_of ho) (by lia) (by lia) hx' (post_here iv q hr)
      · rw [if_neg h1] at hpl; cases hpl
    · rw [if_neg h0] at hpl
      by_cases h1 : 0 ≤ j + vs.length
      · rw [if_pos h1] at hpl
        cases hpl
        exact wpAny_getItem_list_neg (isList_of ho) (by lia) (by lia) (by lia) (by rw [hz]; exact hx') (post_here iv q hr)
      · rw [if_neg h1] at hpl; cases hpl
theorem pv_itemN {j : Nat} (h : σ[i]? = some (.list vs)) (hj : j < 2 ^ 62) (e : vs[j]? = some v) : Pv (getItemV (.ref i) (.int j) : Mm P n sc AV) bs σ v := by
  refine pv_itemL h (by lia) ?_
  have hl : j < vs.length := (List.getElem?_eq_some_iff.mp e).1
  unfold place
  rw [if_pos (by lia), if_pos (by lia)]
  exact e
theorem item_dict (h : σ[i]? = some (.dict es) ∨ σ[i]? = some (.fdict es)) (e : dget es j = some v) : Pv (getItemV (.ref i) (.int j) : Mm P n sc AV) bs σ v := pv_of fun Q q K ρ s iv val sl u w hsl hu hw => by
  obtain ⟨t, rfl⟩ := hw
  cases dc_at iv h hu with
  | mk a kvs hu' ha hD hR hl =>
    subst hu'
    rcases hR.value j with ⟨v', x, h1, h2, h3⟩ | ⟨h1, h2⟩
    · rw [e] at h1; cases h1
      exact wpN_any (tail_any hD.typeIs lookup_dict_getitem (wpAny_getItem_of (intKind_is K.X.prog K.X.w j t) hD.mapOf h2 (post_same iv rfl rfl rfl q h3)) (subscripted_plain hsl _ _))
    · rw [e] at h1; cases h1
theorem pv_itemD (h : σ[i]? = some (.dict es)) (e : dget es j = some v) : Pv (getItemV (.ref i) (.int j) : Mm P n sc AV) bs σ v := item_dict (.inl h) e
theorem pv_itemFD (h : σ[i]? = some (.fdict es)) (e : dget es j = some v) : Pv (getItemV (.ref i) (.int j) : Mm P n sc AV) bs σ v := item_dict (.inr h) e
theorem pv_itemB {b : List UInt8} {u : UInt8} (h : 0 ≤ j ∧ b.length ≤ 1000000) (e : b[j.toNat]? = some u) : Pv (getItemV (.bytes b) (.int j) : Mm P n sc AV) bs σ (.int u.toNat) := pv_of fun Q q K ρ s iv val sl x y hsl hx hy => by
  obtain ⟨t, rfl⟩ := hx
  obtain ⟨t', rfl⟩ := hy
  have hlt := (List.getElem?_eq_some_iff.mp e).1
  refine wpN_any (tail_any (T := "bytes") rfl lookup_bytes_getitem (getItem_bytes (by lia) h.1 (by lia) (post_same iv rfl rfl rfl q ⟨s.toks, ?_⟩)) (subscripted_plain hsl _ _))
  rw [List.getD_eq_getElem?_getD, e]; rfl
end
theorem hx_item {o i : Expr} {p : Pos} {Q : AV → Bs → Store → Prop} (hs : notSlice i = true) (h : Hx (ev P n sc o) bs σ fun a bs' σ' => Hx (ev P n sc i) bs' σ' fun b bs'' σ'' => Hx (getItemV a b : Mm P n sc AV) bs'' σ'' Q) : Hx (ev P n sc (.Subscript o i p)) bs σ Q := fun K ρ s iv => by
  show wpN _ _ (PySem.eval _ _) _ _
  rw [arm_eval_Subscript]
  refine thenP (h K ρ s iv) fun a _ _ ρ₁ u t₁ h i₁ p₁ hu => ?_
  refine thenP (wpN_holding (h K ρ₁ t₁ i₁)) fun b _ _ ρ₂ y t₂ h i₂ p₂ hy => ?_
  exact wpN_stand (h K ρ₂ t₂ i₂ o i u y hs (hu.mono p₂) hy)
theorem pv_item {o i : Expr} {p : Pos} {a b v : AV} (hs : notSlice i = true) (h1 : Pv (ev P n sc o) bs σ a) (h2 : Pv (ev P n sc i) bs σ b) (h : Pv (getItemV a b : Mm P n sc AV) bs σ v) : Pv (ev P n sc (.Subscript o i p)) bs σ v := hx_item hs (hx_pv h1 (hx_pv h2 h))
theorem hx_neg {x : Expr} {p : Pos} {Q : AV → Bs → Store → Prop} (h : Hx (ev P n sc x) bs σ fun a bs' σ' => ∃ i, a = .int i ∧ Q (.int (-i)) bs' σ') : Hx (ev P n sc (.UnaryOp .USub x p)) bs σ Q := fun K ρ s iv => by
  show wpN _ _ (PySem.eval _ _) _ _
  rw [arm_eval_UnaryOp]
  refine thenP (h K ρ s iv) fun a _ _ ρ₁ u t₁ h i₁ p₁ hu => ?_
  obtain ⟨i, rfl, h⟩ := h
  obtain ⟨t, rfl⟩ := hu
  exact wpN_stand (wpN_holding (wpN_any (neg_int (post_same i₁ rfl rfl rfl h ⟨_, rfl⟩))))
theorem pv_neg {x : Expr} {p : Pos} {i : Int} (h : Pv (ev P n sc x) bs σ (.int i)) : Pv (ev P n sc (.UnaryOp .USub x p)) bs σ (.int (-i)) := hx_neg (hx_pv h ⟨i, rfl, rfl, rfl, rfl⟩)
end Mine.H
end

section
namespace Mine.H
open PySem PySem.W PyProof.Rows PySem.Calls
variable {P : Prog} {n : Nat} {sc : Scope} {α β γ δ : Type} {bs bs' : Bs} {σ : Store} {Q : α → Bs → Store → Prop}
def SliceD (K : Cfg P n sc) (s : Shared) (u vl vh vk : Value) (R : Value → Shared → Prop) : Prop :=
  ∀ value lo hi stp sp, wpN K.M K.A (newFields "slice" [vl, vh, vk]) (fun sv s₁ => wpN K.M K.A (subscriptTail value (.Slice lo hi stp sp) u sv) R s₁) s
theorem SliceD.mono {K : Cfg P n sc} {s : Shared} {u vl vh vk : Value} {R R' : Value → Shared → Prop} (d : SliceD K s u vl vh vk R) (h : ∀ u s', R u s' → R' u s') : SliceD K s u vl vh vk R' := fun value lo hi stp sp => wpN_mono (d value lo hi stp sp) fun sv s₁ h₁ => wpN_mono h₁ h
noncomputable def sliceV (a l h k : AV) : Mm P n sc AV := ⟨Value, fun K ρ s R => ∀ u vl vh vk, VRep ρ a u → VRep ρ l vl → VRep ρ h vh → VRep ρ k vk → SliceD K s u vl vh vk R, fun d h u vl vh vk h1 h2 h3 h4 => (d u vl vh vk h1 h2 h3 h4).mono h, VRep⟩
structure RowAt (ρ : List Addr) (s : Shared) (vs : List AV) (u : Value) (xs : Array Value) : Prop where
  isList : ∃ a, u = .ref a ∧ s.heap.IsList a xs
  reps : VReps ρ vs xs.toList
  size : xs.size = vs.length
  small : vs.length ≤ 1000000
noncomputable def sliceL (vs : List AV) (l h k : AV) : Mm P n sc AV := ⟨Value, fun K ρ s R => ∀ u xs vl vh vk, RowAt ρ s vs u xs → VRep ρ l vl → VRep ρ h vh → VRep ρ k vk → SliceD K s u vl vh vk R, fun d h u xs vl vh vk h1 h2 h3 h4 => (d u xs vl vh vk h1 h2 h3 h4).mono h, VRep⟩
noncomputable def sliceF (ns : List Int) (l h k : AV) : Mm P n sc AV := sliceL (ns.map .int) l h k
noncomputable def evOpt (P : Prog) (n : Nat) (sc : Scope) (e : Option Expr) : Mm P n sc AV := tree (fun env => valueOrNone (evalOpt e env)) VRep
theorem pv_opt {e : Expr} {v : AV} (h : Pv (ev P n sc e) bs σ v) : Pv (evOpt P n sc (some e)) bs σ v := fun K ρ s iv => h K ρ s iv
theorem pv_opt0 : Pv (evOpt P n sc Option.none) bs σ .none := fun K ρ s iv => wpN_pure (post_here iv ⟨rfl, rfl, rfl⟩ rfl)
section
variable {i : Nat} {vs : List AV} {ns : List Int} {l h k : AV} {Q : AV → Bs → Store → Prop}
theorem hx_sliceL (e : σ[i]? = some (.list vs)) (q : Hx (sliceL vs l h k : Mm P n sc AV) bs σ Q) : Hx (sliceV (.ref i) l h k : Mm P n sc AV) bs σ Q := fun K ρ s iv u vl vh vk hu h1 h2 h3 => by
  cases ls_at iv e hu with
  | mk a xs m hu' ha ho hv hl hz => exact q K ρ s iv u xs vl vh vk ⟨⟨a, hu', isList_of ho⟩, hv, hz, hl⟩ h1 h2 h3
theorem hx_sliceF (e : σ[i]? = some (.flist ns)) (q : Hx (sliceF ns l h k : Mm P n sc AV) bs σ Q) : Hx (sliceV (.ref i) l h k : Mm P n sc AV) bs σ Q := fun K ρ s iv u vl vh vk hu h1 h2 h3 => by
  obtain ⟨a, ha, rfl⟩ := hu
  obtain ⟨o, ho, ⟨xs, m, hoc, hv⟩, hlen⟩ := iv.rep.obj i a _ ha e
  exact q K ρ s iv (.ref a) xs vl vh vk ⟨⟨a, rfl, o, ho, hoc.1, m, hoc.2⟩, hv, by rw [← hv.length]; simp, by rw [List.length_map]; exact hlen⟩ h1 h2 h3
end
theorem hx_slice {o : Expr} {lo hi st : Option Expr} {sp p : Pos} {Q : AV → Bs → Store → Prop} (h : Hx (ev P n sc o) bs σ fun a bs' σ' => Hx (evOpt P n sc lo) bs' σ' fun l bs' σ' => Hx (evOpt P n sc hi) bs' σ' fun h bs' σ' => Hx (evOpt P n sc st) bs' σ' fun k bs' σ' => Hx (sliceV a l h k : Mm P n sc AV) bs' σ' Q) :
    Hx (ev P n sc (.Subscript o (.Slice lo hi st sp) p)) bs σ Q := fun K ρ s iv => by
  show wpN _ _ (PySem.eval _ _) _ _
  rw [arm_eval_Subscript, arm_eval_Slice]
  refine thenP (h K ρ s iv) fun a _ _ ρ₁ u t₁ h i₁ p₁ hu => ?_
  refine wpN_bind (wpN_holding (wpN_bind (wpN_mono (h K ρ₁ t₁ i₁) fun vl t₂ d₂ => ?_)))
  cases d₂ with
  | mk l b₂ σ₂ ρ₂ h i₂ g₂ hl =>
  refine wpN_bind (wpN_holding (wpN_mono (h K ρ₂ t₂ i₂) fun vh t₃ d₃ => ?_))
  cases d₃ with
  | mk m b₃ σ₃ ρ₃ h i₃ g₃ hm =>
  refine wpN_bind (wpN_holding (wpN_mono (h K ρ₃ t₃ i₃) fun vk t₄ d₄ => ?_))
  cases d₄ with
  | mk k b₄ σ₄ ρ₄ h i₄ g₄ hk =>
  have d := h K ρ₄ t₄ i₄ u vl vh vk (hu.mono (g₂.pre.trans (g₃.pre.trans g₄.pre))) (hl.mono (g₃.pre.trans g₄.pre)) (hm.mono g₄.pre) hk o lo hi st sp
  exact wpN_mono d fun sv t₅ h5 => wpN_stand (wpN_mono h5 fun x t₆ d => ((d.trans g₄).trans g₃).trans g₂)
theorem VReps.ints {ρ : List Addr} : ∀ {ns : List Int} {xs : List Value}, VReps ρ (ns.map .int) xs → IntsAre xs ns
  | [], [], _ => .nil
  | _ :: _, _ :: _, r => by obtain ⟨⟨t, rfl⟩, r2⟩ := r; exact .cons _ _ (VReps.ints r2)
  | [], _ :: _, r => r.elim
  | _ :: _, [], r => r.elim
theorem VReps.of_ints {ρ : List Addr} {xs : List Value} {ns : List Int} (h : IntsAre xs ns) : VReps ρ (ns.map .int) xs := by
  induction h with
  | nil => trivial
  | cons n t _ ih => exact ⟨⟨t, rfl⟩, ih⟩
theorem slice_tail {K : Cfg P n sc} {ρ : List Addr} {s : Shared} {vs ys : List AV} {u vl vh vk : Value} {xs : Array Value} {l h k : Option Int} {Q : AV → Bs → Store → Prop} (i : K.I ρ bs σ s) (hr : RowAt ρ s vs u xs) (pl : IsPart vl l) (ph : IsPart vh h) (pk : IsPart vk k) (h0 : k ≠ some 0)
    (hl : ys.length ≤ 1000000) (hv : VReps ρ ys (slicePick xs l h k).toList) (q : Q (.ref σ.length) bs (σ ++ [.list ys])) : SliceD K s u vl vh vk (PostK K ρ s VRep Q) := fun value lo hi stp sp => by
  obtain ⟨a, rfl, ho⟩ := hr.isList
  have hz : xs.size ≤ 1000000 := hr.size ▸ hr.small
  unfold newFields
  refine wpN_any (wpAny_newObj_type (wpN_any ?_))
  have hs : ∃ ops, subscripted (.Slice lo hi stp sp) false (.ref a) (.ref s.heap.objs.size) = operate ops (getItem (.ref a) (.ref s.heap.objs.size)) := by
    cases stp with
    | none => exact ⟨_, rfl⟩
    | some _ => exact ⟨_, rfl⟩
  obtain ⟨ops, hops⟩ := hs
  obtain ⟨lo, l1, l2⟩ := ho
  have ho' : (s.heap.push { cls := .type "slice", data := .fields #[vl, vh, vk] }).IsList a xs := ⟨lo, push_keeps s.heap { cls := .type "slice", data := .fields #[vl, vh, vk] } a _ l1, l2⟩
  refine tail_any (s := { s with heap := s.heap.push { cls := .type "slice", dict := Option.none, data := .fields [vl, vh, vk].toArray } }) ho'.typeIs slot_list_getitem.lookup ?_ hops
  refine wpAny_getItem_list_slice (s := { s with heap := s.heap.push { cls := .type "slice", dict := Option.none, data := .fields [vl, vh, vk].toArray } }) ho' (Heap.IsSliceOf.new ..) pl ph pk h0 ?_ (by rw [sizeLine_eq]; lia)
  refine post_alloc (ao := .list ys) i (fun b o e => push_keeps _ _ b o (push_keeps _ _ b o e)) ?_ (Heap.get?_push_size _ rfl) ⟨⟨_, _, rfl, ?_⟩, hl⟩ rfl rfl q (vrep_new i _)
  · exact Heap.noneOf (by show _ ≤ (s.heap.push _).objs.size; rw [Heap.size_push]; exact Nat.le_succ _)
  · exact hv.mono (List.prefix_append ..)
section
variable {vs : List AV} {Q : AV → Bs → Store → Prop}
theorem hx_rev (hl : vs.length ≤ 1000000) (h : Q (.ref σ.length) bs (σ ++ [.list vs.reverse])) : Hx (sliceL vs .none .none (.int (-1)) : Mm P n sc AV) bs σ Q := fun K ρ s iv u xs vl vh vk hr h1 h2 h3 => by
  cases h1
  cases h2
  obtain ⟨t, rfl⟩ := h3
  refine slice_tail iv hr .none .none (.int _ t) (by simp) (by rwa [List.length_reverse]) ?_ h
  rw [krv_pick]; exact hr.reps.reverse
theorem hx_upto {b : Int} (hb : b.natAbs < 2 ^ 60) (hl : vs.length ≤ 1000000) (h : Q (.ref σ.length) bs (σ ++ [.list (vs.take (clamp b vs.length))])) : Hx (sliceL vs .none (.int b) .none : Mm P n sc AV) bs σ Q := fun K ρ s iv u xs vl vh vk hr h1 h2 h3 => by
  cases h1
  cases h3
  obtain ⟨t, rfl⟩ := h2
  refine slice_tail iv hr .none (.int b t) .none (by simp) (by rw [List.length_take]; lia) ?_ h
  unfold clamp
  by_cases h0 : 0 ≤ b
  · rw [if_pos h0]
    obtain ⟨c, rfl⟩ := Int.eq_ofNat_of_zero_le h0
    have e5 : slicePick xs Option.none (some (c : Int)) Option.none = (xs.toList.take c).toArray := slicePick_upto' xs c
    rw [e5]
    show VReps ρ (vs.take (min (c : Int).toNat vs.length)) (xs.toList.take c)
    have : xs.toList.take c = xs.toList.take (min (c : Int).toNat vs.length) := by
      rw [← hr.size, ← Array.length_toList, Int.toNat_natCast, List.take_eq_take_iff]; lia
    rw [this]; exact hr.reps.take _
  · rw [if_neg h0]
    obtain ⟨c, hc⟩ : ∃ c : Nat, b = -(c : Int) := ⟨(-b).toNat, by lia⟩
    subst hc
    rw [slicePick_butLast xs c (by lia), hr.size]
    have : (-(c : Int) + (vs.length : Int)).toNat = vs.length - c := by lia
    rw [this]; exact hr.reps.take _
theorem hx_from {a : Int} (ha : a.natAbs < 2 ^ 60) (hl : vs.length ≤ 1000000) (h : Q (.ref σ.length) bs (σ ++ [.list (vs.drop (clamp a vs.length))])) : Hx (sliceL vs (.int a) .none .none : Mm P n sc AV) bs σ Q := fun K ρ s iv u xs vl vh vk hr h1 h2 h3 => by
  cases h2
  cases h3
  obtain ⟨t, rfl⟩ := h1
  refine slice_tail iv hr (.int a t) .none .none (by simp) (by rw [List.length_drop]; lia) ?_ h
  unfold clamp
  by_cases h0 : 0 ≤ a
  · rw [if_pos h0]
    obtain ⟨c, rfl⟩ := Int.eq_ofNat_of_zero_le h0
    have e5 : slicePick xs (some (c : Int)) Option.none Option.none = (xs.toList.drop c).toArray := slicePick_from' xs c
    rw [e5]
    show VReps ρ (vs.drop (min (c : Int).toNat vs.length)) (xs.toList.drop c)
    have : xs.toList.drop c = xs.toList.drop (min (c : Int).toNat vs.length) := by
      rw [← hr.size, ← Array.length_toList, Int.toNat_natCast]
      rcases Nat.le_total c xs.toList.length with q | q
      · rw [Nat.min_eq_left q]
      · rw [Nat.min_eq_right q, List.drop_eq_nil_of_le q, List.drop_eq_nil_of_le (Nat.le_refl _)]
    rw [this]; exact hr.reps.drop _
  · rw [if_neg h0]
    obtain ⟨c, hc⟩ : ∃ c : Nat, a = -(c : Int) := ⟨(-a).toNat, by lia⟩
    subst hc
    rw [slicePick_last xs c (by lia), hr.size]
    have : (-(c : Int) + (vs.length : Int)).toNat = vs.length - c := by lia
    rw [this]; exact hr.reps.drop _
theorem hx_nums {ns : List Int} {a c : Int} (hc : 0 ≤ a ∧ a < 100 ∧ 0 < c ∧ c < 100) (hz : (pickNums ns (some a) Option.none (some c)).length ≤ 1000000) (h : Q (.ref σ.length) bs (σ ++ [.list ((pickNums ns (some a) Option.none (some c)).map AV.int)])) : Hx (sliceF ns (.int a) .none (.int c) : Mm P n sc AV) bs σ Q := fun K ρ s iv u xs vl vh vk hr h1 h2 h3 => by
  cases h2
  obtain ⟨t, rfl⟩ := h1
  obtain ⟨t', rfl⟩ := h3
  refine slice_tail iv hr (.int a t) .none (.int c t') (by simp; lia) (by rwa [List.length_map]) ?_ h
  have := (VReps.ints hr.reps).pick (some a) Option.none (some c)
  exact VReps.of_ints (by simpa using this)
end
end Mine.H
end

section
namespace Mine
open PySem PySem.W
open Sem (wp)

theorem ba_mro : mroOf (.type "bytearray") = pure [.type "bytearray", .type "object"] := by rw [mroOf_type]; kernel_rfl
theorem ba_lookup_new : typeLookup (.type "bytearray") "__new__" = pure (some (.builtin "bytearray.__new__")) := by rw [typeLookup_type, builtinLookup_eq_fast]; kernel_rfl
theorem ba_slot_init : Slot "bytearray" "__init__" "bytearray.__init__" :=
  .of (owner := "bytearray") (n := "__init__") (by rw [typeLookup_type, builtinLookup_eq_fast]; kernel_rfl) (by decide +kernel) (by decide +kernel) (by decide +kernel)
    (by first | exact .inl (by decide +kernel) | exact .inr (by decide +kernel)) (by rw [isSubtype_type]; kernel_rfl)
theorem ba_slot_setitem : Slot "bytearray" "__setitem__" "bytearray.__setitem__" :=
  .of (owner := "bytearray") (n := "__setitem__") (by rw [typeLookup_type, builtinLookup_eq_fast]; kernel_rfl) (by decide +kernel) (by decide +kernel) (by decide +kernel)
    (by first | exact .inl (by decide +kernel) | exact .inr (by decide +kernel)) (by rw [isSubtype_type]; kernel_rfl)
theorem ba_called : TypeCalled "bytearray" "bytearray.__new__" "bytearray.__init__" :=
  ⟨by decide +kernel, by decide +kernel, ⟨_, _, ba_mro⟩, madeBy_type ba_mro ba_lookup_new (by decide +kernel), by decide +kernel, by rw [isSubtype_type]; kernel_rfl, ba_slot_init⟩
theorem ba_typeCall (a : Value) : checkTypeCall "bytearray" ⟨[a], []⟩ = pure () := by kernel_rfl
theorem ba_newCall (a : Value) : checkBuiltinCall "bytearray.__new__" ⟨[.type "bytearray", a], []⟩ = pure () := by kernel_rfl
theorem ba_entry_new : entryFor table "bytearray.__new__" = some Builtin.«list.__new__» := entryFor_alias (id' := "list.__new__") (by kernel_rfl) rfl (by decide +kernel) (by kernel_rfl)
theorem ba_entry_init : entryFor table "bytearray.__init__" = some Builtin.«bytearray.__init__» := by first | exact entryFor_of_fast (by kernel_rfl) | exact entryFor_of_tree (by kernel_rfl)
theorem ba_entry_setitem : entryFor table "bytearray.__setitem__" = some Builtin.«bytearray.__setitem__» := by first | exact entryFor_of_fast (by kernel_rfl) | exact entryFor_of_tree (by kernel_rfl)
theorem ba_args_init (a b : Value) : argsOk "bytearray.__init__" ⟨[a, b], []⟩ := by unfold argsOk; kernel_rfl
theorem ba_args_setitem (a b c : Value) : argsOk "bytearray.__setitem__" ⟨[a, b, c], []⟩ := by unfold argsOk; kernel_rfl
theorem ba_bind (v : Value) : Builtin.Bytes.bindOptional "bytearray.__init__" "bytearray" ["source", "encoding", "errors"] [v] [] = pure [some v, none, none] := by kernel_rfl
theorem ba_no_release : typeLookup (.type "bytearray") "__release_buffer__" = pure (some (.builtin "bytearray.__release_buffer__")) := by rw [typeLookup_type, builtinLookup_eq_fast]; kernel_rfl
theorem ba_buffer : typeLookup (.type "bytearray") "__buffer__" = pure (some (.builtin "bytearray.__buffer__")) := by rw [typeLookup_type, builtinLookup_eq_fast]; kernel_rfl
theorem ba_no_bytes : typeLookup (.type "bytearray") "__bytes__" = pure none := by rw [typeLookup_type, builtinLookup_eq_fast]; kernel_rfl
theorem ba_no_index : typeLookup (.type "bytearray") "__index__" = pure none := by rw [typeLookup_type, builtinLookup_eq_fast]; kernel_rfl
theorem int_index : typeLookup (.type "int") "__index__" = pure (some (.builtin "int.__index__")) := by rw [typeLookup_type, builtinLookup_eq_fast]; kernel_rfl
theorem ba_sub : isSubtype (.type "bytearray") (.type "bytearray") = pure true := by rw [isSubtype_type]; kernel_rfl
set_option maxHeartbeats 4000000 in
theorem ba_owner : ("bytearray.__new__".splitOn ".__new__").headD "" = "bytearray" := by simp +decide [String.splitOn, String.splitOnAux]

section
variable {prog : Program} {w : World} {A : Around} {s : Shared}

theorem wpN_callType {T newId initId : String} {args : List Value} {Q Q₁ : Value → Shared → Prop} (ft : TypeCalled T newId initId) (hct : checkTypeCall T ⟨args, []⟩ = pure ())
    (hnew : wpN (model prog w) A.in1 (call (.builtin newId) (.type T :: args)) Q₁ s)
    (hnext : ∀ obj s₁, Q₁ obj s₁ → s₁.TypeIs obj T ∧ wpN (model prog w) A.in1 (call (.builtin initId) (obj :: args)) (fun r s₂ => r = .none ∧ Q obj s₂) s₁) :
    wpN (model prog w) A (call (.type T) args) Q s := by
  obtain ⟨c, tl, hmro⟩ := ft.mro
  refine wpN_call (codeN_tree rfl ?_)
  show wpN _ _ (callAny (.type T) _) _ _
  refine wpN_pure ⟨Code.quiet_builtin _ (by decide +kernel), codeN_builtin (by decide +kernel) F.entry_type_call ?_⟩
  rw [Around.under_plain (weight_type_call_type T args []) rfl]
  unfold Builtin.«type.__call__»
  have h1 := ft.notType
  have h2 := ft.canCreate
  dsimp only
  refine wpN_false h1 ?_
  refine wpN_false h2 ?_
  refine wpN_bind (wpN_of_eq hct ?_)
  refine wpN_bind (wpN_of_eq hmro ?_)
  refine wpN_false rfl ?_
  refine wpN_bind (wpN_of_eq ft.made ?_)
  refine wpN_bind (wpN_pure ?_)
  refine wpN_bind (wpN_holding (wpN_mono hnew fun obj s₁ h₁ => ?_))
  obtain ⟨hT, hi⟩ := hnext obj s₁ h₁
  refine wpN_bind (wpN_any (wpAny_isInstance hT ft.sub ?_))
  refine wpN_false rfl ?_
  refine wpN_bind (wpN_holding ?_)
  unfold callSpecial?
  refine wpN_bind (wpN_any (wpAny_specialOf hT ft.init.lookup ?_))
  refine wpN_holding (wpN_bind (wpN_of_eq (ft.init.bind _) (wpN_bind (wpN_mono hi fun r s₂ h₂ => wpN_pure ?_))))
  obtain ⟨rfl, hq⟩ := h₂
  exact wpN_pure hq

theorem ba_new {a : Value} {Q₁ : Value → Shared → Prop} (h : Q₁ (.ref s.heap.objs.size) { s with heap := s.heap.push { cls := .type "bytearray", data := .bytearray #[] } }) :
    wpN (model prog w) A (call (.builtin "bytearray.__new__") [.type "bytearray", a]) Q₁ s := by
  refine wpN_any (wpAny_call (codeAny_of_tree ?_))
  show wpAny _ A.in1 (do checkBuiltinCall "bytearray.__new__" ⟨[.type "bytearray", a], []⟩; again (.builtin "bytearray.__new__" ⟨[.type "bytearray", a], []⟩)) _ _ s
  refine wpAny_bind (wpAny_of_eq (ba_newCall a) (wpAny_pure ⟨plainId_quiet (by decide +kernel) _, codeAny_builtin_stack ba_entry_new rfl fun p st => ?_⟩))
  rw [Around.under_plainId (by decide +kernel) _]
  have hsub := ba_sub
  have hown := ba_owner
  obtain ⟨hp, g, d, tk, os⟩ := s
  simp only [hown]
  wp_walk
  exact h
end
end Mine
end

section
namespace Mine
open PySem PySem.W
open Sem (wp)
section
variable {prog : Program} {w : World} {A : Around} {s : Shared}

theorem wpN_call_entry {T : String} {name : Str} {id : String} {b : Builtin} {self : Value} {rest : List Value} {Q : Value → Shared → Prop} (h : Slot T name id) (hf : heldIds.contains id = false) (hT : s.TypeIs self T) (hb : entryFor table id = some b)
    (ha : argsOk id ⟨self :: rest, []⟩) (hc : wpN (model prog w) A.in1 (b ⟨self :: rest, []⟩) (fun fin s' => ∃ v, fin = .done (.ret v) ∧ Q v s') s) :
    wpN (model prog w) A (call (.builtin id) (self :: rest)) Q s := by
  refine wpN_call (codeN_tree rfl ?_)
  show wpN _ A.in1 (do checkBuiltinCall id ⟨self :: rest, []⟩; again (.builtin id ⟨self :: rest, []⟩)) _ s
  refine wpN_bind (wpN_any (h.check _ _ _ _ _ _ _ _ hT ha (wpN_pure ⟨plainId_quiet h.plain _, codeN_builtin hf hb ?_⟩)))
  rw [Around.under_plainId h.plain _]
  refine wpN_mono hc fun fin s' h' => ?_
  obtain ⟨v, rfl, hv⟩ := h'; exact hv

theorem ba_ownRelease {S : Addr} {Q : Bool → Shared → Prop} (hT : s.TypeIs (.ref S) "bytearray") (h : Q false s) : wpAny (model prog w) A (Builtin.Bytes.ownRelease (.ref S)) Q (fun _ _ => False) s := by
  unfold Builtin.Bytes.ownRelease Builtin.Bytes.slotIsOwn
  refine wpAny_bind (wpAny_bind (wpAny_specialOf hT ba_no_release ?_))
  dsimp only
  refine wpAny_ite_split (fun hab => absurd hab (by decide +kernel)) (fun _ => ?_)
  have e : "bytearray.__release_buffer__".dropRight ("__release_buffer__".length + 1) = "bytearray" := by decide +kernel
  rw [e]
  refine wpAny_isInstance hT ba_sub ?_
  exact wpAny_pure h

theorem not_held {id : String} {as : Args} (h : codeFree (.builtin id as) = true) {k : String} (hk : heldIds.contains k = true) : id ≠ k := fun q => by
  subst q
  have h : (!heldIds.contains id) = true := h
  rw [hk] at h
  cases h
theorem ba_exported {S : Value} {Q : Bool → Shared → Prop} (h : Q false s) : wpN (model prog w) A (Builtin.Bytes.exported S) Q s := by
  unfold Builtin.Bytes.exported
  refine wpN_bind (wpN_stack fun st hst => wpN_pure ?_)
  refine (congrArg (fun b => Q b s) (?_ : _ = false)).mpr h
  rw [List.any_eq_false]
  intro x hx
  have hc := hst x hx
  refine Bool.eq_false_iff.mp ?_
  clear hx h hst
  obtain ⟨c, p⟩ := x
  cases c with
  | builtin id args =>
    obtain ⟨pos, kw⟩ := args
    have hm : Builtin.Bytes.decodersThatHold.contains id = false := by
      have hc : (!heldIds.contains id) = true := hc
      rw [Bool.not_eq_true', List.contains_eq_mem, decide_eq_false_iff_not] at hc
      rw [List.contains_eq_mem, decide_eq_false_iff_not]
      exact fun h => hc (List.mem_append_right _ h)
    delta Builtin.Bytes.exported.match_1
    dsimp only
    refine Eq.trans (dif_neg (not_held (k := "bytearray.__contains__") hc (by decide +kernel))) ?_
    refine Eq.trans (dif_neg (not_held (k := "bytearray.__mod__") hc (by decide +kernel))) ?_
    refine Eq.trans (dif_neg (not_held (k := "bytearray.__rmod__") hc (by decide +kernel))) ?_
    refine Eq.trans (dif_neg (not_held (k := "_struct.pack_into.held") hc (by decide +kernel))) ?_
    refine Eq.trans (dif_neg (not_held (k := "bytearray.find.held") hc (by decide +kernel))) ?_
    cases pos with
    | nil => rfl
    | cons v l => exact (congrArg (_ && ·) hm).trans (Bool.and_false _)
  | _ => rfl

theorem ba_write {S : Addr} {b : Array UInt8} {f : Array UInt8 → Array UInt8} {Q : Unit → Shared → Prop} (hS : s.heap.get? S = some { cls := .type "bytearray", data := .bytearray b }) (hz : (f b).size ≤ sizeLine)
    (h : ∀ h', (∀ a o, a ≠ S → s.heap.get? a = some o → h'.get? a = some o) → h'.get? S = some { cls := .type "bytearray", data := .bytearray (f b) } → Q () { s with heap := h' }) :
    wpAny (model prog w) A (Builtin.Bytes.write (.ref S) f) Q (fun _ _ => False) s := by
  show wpAny _ _ (updateBytearray S f) _ _ _
  unfold updateBytearray
  refine wpAny_bind (wpAny_load hS ?_)
  show wpAny _ _ (update S (Obj.mapBytearray f) >>= fun _ => lookBehind S) _ _ _
  refine wpAny_bind (wpAny_update hS ?_)
  have hS₂ : (s.heap.update S (Obj.mapBytearray f)).get? S = some { cls := .type "bytearray", data := .bytearray (f b) } := Heap.get?_update_self (Obj.mapBytearray f) hS rfl
  refine wpAny_lookBehind hS₂ ?_ ?_
  · show (if (f b).size > sizeLine then some "bytearray:memory" else none) = none
    rw [if_neg (Nat.not_lt.mpr hz)]
  · exact h _ (fun a o ha e => (Heap.get?_update_other _ _ (Ne.symm ha)).trans e) hS₂

theorem ba_init {S : Addr} {n : Int} {t : Tok} {Q : Value → Shared → Prop} (hS : s.heap.get? S = some { cls := .type "bytearray", data := .bytearray #[] }) (h0 : 0 ≤ n) (h1 : n ≤ 1000000)
    (h : ∀ h', (∀ a o, a ≠ S → s.heap.get? a = some o → h'.get? a = some o) → h'.get? S = some { cls := .type "bytearray", data := .bytearray (Array.replicate n.toNat 0) } → Q .none { s with heap := h' }) :
    wpN (model prog w) A (call (.builtin "bytearray.__init__") [.ref S, .int n t]) Q s := by
  have hT : s.TypeIs (.ref S) "bytearray" := ⟨_, hS, rfl⟩
  refine wpN_call_entry ba_slot_init (by decide +kernel) hT ba_entry_init (ba_args_init _ _) ?_
  unfold Builtin.«bytearray.__init__»
  refine wpN_bind (wpN_any (ba_ownRelease hT ?_))
  refine wpN_false rfl ?_
  refine wpN_bind (wpN_of_eq (ba_bind _) ?_)
  refine wpN_bind (wpN_of_eq (a := ()) rfl ?_)
  refine wpN_bind (wpN_of_eq (a := ()) rfl ?_)
  refine wpN_bind ?_
  unfold orM
  refine wpN_bind (ba_exported ?_)
  show wpN _ _ (Builtin.Bytes.exportsOf (.ref S) >>= _) _ _
  refine wpN_bind ?_
  show wpN _ _ (load S >>= _) _ _
  refine wpN_bind (wpN_any (wpAny_load hS (wpN_pure (wpN_pure ?_))))
  refine wpN_false (by decide) ?_
  refine wpN_bind (wpN_any (ba_write (f := fun _ => #[]) hS (Nat.zero_le _) fun h' hk hS' => ?_))
  dsimp only
  refine wpN_bind (wpN_of_eq (a := none) rfl ?_)
  refine wpN_false rfl ?_
  refine wpN_bind (wpN_of_eq (a := ()) rfl ?_)
  refine wpN_bind (wpN_any (wpAny_specialOf (typeIs_int _ _ _) int_index ?_))
  refine wpN_true rfl ?_
  refine wpN_bind (wpN_attempt (wpN_of_eq (rfl : asIndex (.int n t) = pure n) ?_))
  dsimp only
  refine wpN_false (by simp only [Builtin.Bytes.fitsIndex, Bool.not_eq_false', Bool.and_eq_true, decide_eq_true_eq]; lia) ?_
  refine wpN_neg (by lia) ?_
  refine wpN_false (by simp only [beq_eq_false_iff_ne]; lia) ?_
  refine wpN_false (by simp only [Builtin.Bytes.tooLong, decide_eq_false_iff_not]; rw [sizeLine_eq]; lia) ?_
  refine wpN_bind (wpN_rule ?_)
  by_cases hn : n > 0
  · rw [if_pos hn]
    refine wpN_bind (wpN_any (ba_write (s := { s with heap := h' }) (f := fun _ => Array.replicate n.toNat 0) hS' (by simp only [Array.size_replicate]; rw [sizeLine_eq]; lia) fun h2 hk2 hS2 => wpN_pure ⟨_, rfl, h h2 (fun a o ha e => hk2 a o ha (hk a o ha e)) hS2⟩))
  · rw [if_neg hn]
    have : n = 0 := by lia
    subst this
    exact wpN_pure ⟨_, rfl, h h' hk hS'⟩

theorem call_bytearray {n : Int} {t : Tok} {Q : Value → Shared → Prop} (h0 : 0 ≤ n) (h1 : n ≤ 1000000)
    (h : ∀ h', (∀ a o, s.heap.get? a = some o → h'.get? a = some o) → h'.get? s.heap.objs.size = some { cls := .type "bytearray", data := .bytearray (Array.replicate n.toNat 0) } → Q (.ref s.heap.objs.size) { s with heap := h' }) :
    wpN (model prog w) A (call (.type "bytearray") [.int n t]) Q s := by
  refine wpN_callType ba_called (ba_typeCall _) (Q₁ := fun obj s₁ => obj = .ref s.heap.objs.size ∧ s₁ = { s with heap := s.heap.push { cls := .type "bytearray", data := .bytearray #[] } }) (ba_new ⟨rfl, rfl⟩) fun obj s₁ h₁ => ?_
  obtain ⟨rfl, rfl⟩ := h₁
  have hS : (s.heap.push { cls := .type "bytearray", data := .bytearray #[] }).get? s.heap.objs.size = some { cls := .type "bytearray", data := .bytearray #[] } := Heap.get?_push_size _ rfl
  refine ⟨⟨_, hS, rfl⟩, ba_init (s := { s with heap := s.heap.push { cls := .type "bytearray", data := .bytearray #[] } }) hS h0 h1 fun h' hk hS' => ⟨rfl, h h' (fun a o e => hk a o (Nat.ne_of_lt (Heap.lt_size e)) (Heap.get?_push_of_some _ e)) hS'⟩⟩

theorem ba_set {S : Addr} {b : Array UInt8} {i u : Int} {t t' : Tok} {Q : Unit → Shared → Prop} (hS : s.heap.get? S = some { cls := .type "bytearray", data := .bytearray b }) (h0 : 0 ≤ i) (h1 : i < b.size) (hb : b.size ≤ 1000000) (u0 : 0 ≤ u) (u1 : u < 256)
    (h : ∀ h', (∀ a o, a ≠ S → s.heap.get? a = some o → h'.get? a = some o) → h'.get? S = some { cls := .type "bytearray", data := .bytearray (b.setIfInBounds i.toNat u.toNat.toUInt8) } → Q () { s with heap := h' }) :
    wpAny (model prog w) A (setItem (.ref S) (.int i t) (.int u t')) Q (fun _ _ => False) s := by
  have hT : s.TypeIs (.ref S) "bytearray" := ⟨_, hS, rfl⟩
  unfold setItem
  refine wpAny_holding ?_
  refine wpAny_bind (wpAny_sequenceKey hT (by decide) ?_)
  refine wpAny_bind (wpAny_callSpecial?_slot (name := Str.ofString "__setitem__") hT ba_slot_setitem (wpAny_call_entry ba_slot_setitem hT ba_entry_setitem ?_ (ba_args_setitem _ _ _)))
  unfold Builtin.«bytearray.__setitem__»
  dsimp only
  refine bm_if_false rfl ?_
  refine wpAny_bind ?_
  unfold Builtin.Bytes.subscript?
  refine wpAny_bind (wpAny_specialOf (typeIs_int _ _ _) int_index ?_)
  refine bm_if_false rfl ?_
  refine wpAny_bind (wpAny_of_eq (rfl : asIndex (.int i t) = pure i) ?_)
  refine bm_if_false (by simp only [Builtin.Bytes.fitsIndex, Bool.not_eq_false', Bool.and_eq_true, decide_eq_true_eq]; lia) ?_
  refine wpAny_pure ?_
  dsimp only
  refine wpAny_bind ?_
  unfold Builtin.Bytes.byteValue
  refine wpAny_bind (wpAny_of_eq (rfl : asIndex (.int u t') = pure u) ?_)
  refine bm_if_false (by simp only [Bool.or_eq_false_iff, decide_eq_false_iff_not]; lia) ?_
  refine wpAny_pure ?_
  refine wpAny_bind ?_
  unfold Builtin.Bytes.payload Builtin.Bytes.payload?
  refine wpAny_bind (wpAny_bind (wpAny_load hS ?_))
  refine wpAny_pure (wpAny_pure ?_)
  have hk : seqIndex? i b.size = some i.toNat := by
    have hn : ¬ i < 0 := by lia
    simp [seqIndex?, hn, h0, h1]
  rw [hk]
  dsimp only
  refine wpAny_bind (ba_write (f := fun x => x.setIfInBounds i.toNat u.toNat.toUInt8) hS (by simp only [Array.size_setIfInBounds]; rw [sizeLine_eq]; lia) fun h' hk' hS' => ?_)
  exact wpAny_pure ⟨_, rfl, wpAny_pure (h h' hk' hS')⟩

theorem call_bytes_ba {S : Addr} {b : Array UInt8} {Q : Value → Shared → Prop} (hS : s.heap.get? S = some { cls := .type "bytearray", data := .bytearray b }) (hb : b.size ≤ 1000000)
    (h : ∀ t k, Q (.bytes b t) { s with toks := k }) : wpAny (model prog w) A (call (.type "bytes") [.ref S]) Q (fun _ _ => False) s := by
  have hT : s.TypeIs (.ref S) "bytearray" := ⟨_, hS, rfl⟩
  refine callType_codes (Q₁ := fun obj s₁ => s₁.TypeIs obj "bytes" ∧ Q obj s₁) F.bm_called (F.bm_typeCall _) F.entry_object_init ?_ fun obj s₁ h₁ =>
    ⟨h₁.1, F.args_object_init_2 obj _, object_init_meets F.bm_called.init.lookup F.bm_called.made (by decide) prog w A.in1 _ s₁ ⟨h₁.1, rfl, h₁.2⟩⟩
  refine codeAny_of_tree ?_
  show wpAny _ A.in1.in1 (do checkBuiltinCall "bytes.__new__" ⟨[.type "bytes", .ref S], []⟩; again (.builtin "bytes.__new__" ⟨[.type "bytes", .ref S], []⟩)) _ _ s
  refine wpAny_bind (wpAny_of_eq (F.bm_newCall _) (wpAny_pure ⟨plainId_quiet F.bm_plain _, codeAny_builtin F.bm_entry ?_⟩))
  rw [Around.under_plainId F.bm_plain _]
  unfold Builtin.«bytes.__new__»
  refine wpAny_bind (wpAny_of_eq (a := true) rfl ?_)
  refine bm_if_false rfl ?_
  refine wpAny_bind (wpAny_of_eq F.bm_sub ?_)
  refine bm_if_false rfl ?_
  refine wpAny_bind (wpAny_of_eq (F.bm_bind _) ?_)
  refine wpAny_bind (wpAny_of_eq (a := ()) rfl ?_)
  refine wpAny_bind (wpAny_of_eq (a := ()) rfl ?_)
  refine bm_if_false rfl ?_
  refine wpAny_bind (wpAny_specialOf hT ba_no_bytes ?_)
  refine wpAny_bind (wpAny_bind ?_)
  show wpAny _ _ (load S >>= _) _ _ _
  refine wpAny_bind (wpAny_load hS ?_)
  refine wpAny_pure (wpAny_pure ?_)
  refine bm_if_false rfl ?_
  refine wpAny_bind (wpAny_specialOf hT ba_no_index ?_)
  refine bm_if_true rfl ?_
  show wpAny _ _ (Builtin.Bytes.buffer? "bytes.__new__" (.ref S) true >>= _) _ _ _
  refine wpAny_bind ?_
  unfold Builtin.Bytes.buffer?
  refine wpAny_bind (wpAny_specialOf hT ba_buffer ?_)
  show wpAny _ _ (Builtin.Bytes.slotIsOwn (.ref S) "__buffer__" >>= _) _ _ _
  refine wpAny_bind ?_
  unfold Builtin.Bytes.slotIsOwn
  refine wpAny_bind (wpAny_specialOf hT ba_buffer ?_)
  dsimp only
  refine wpAny_ite_split (fun hab => absurd hab (by decide +kernel)) (fun _ => ?_)
  have e : "bytearray.__buffer__".dropRight ("__buffer__".length + 1) = "bytearray" := by decide +kernel
  rw [e]
  refine wpAny_isInstance hT ba_sub ?_
  refine bm_if_false rfl ?_
  refine wpAny_bind (wpAny_specialOf hT ba_buffer ?_)
  show wpAny _ _ (Builtin.Bytes.ownRelease (.ref S) >>= _) _ _ _
  refine wpAny_bind (ba_ownRelease hT ?_)
  refine bm_if_false rfl ?_
  refine wpAny_bind ?_
  unfold Builtin.Bytes.payload Builtin.Bytes.payload?
  refine wpAny_bind (wpAny_bind (wpAny_load hS ?_))
  refine wpAny_pure (wpAny_pure (wpAny_pure ?_))
  dsimp only
  refine wpAny_bind (wpAny_rule ?_)
  refine wpAny_bind (wpAny_mkBytes ?_ (by rw [sizeLine_eq]; lia))
  show wpAny _ _ (if (Value.type "bytes" == Value.type "bytes") = true then _ else _) _ _ _
  refine bm_if_true (by decide) ?_
  first
    | exact wpAny_pure ⟨typeIs_bytes _ _ _, h _ _⟩
    | exact wpAny_bind (wpAny_pure (wpAny_pure ⟨typeIs_bytes _ _ _, h _ _⟩))
end
end Mine
end

section
namespace Mine
open PySem PySem.W PyProof.Rows PySem.Calls
theorem dput_stored {ρ : List Addr} {k : Int} {v : AV} {u : Value} (hv : VRep ρ v u) : ∀ {es : List (Int × AV)} {kvs : List (Int × Value)}, (kvs.map (·.1)).Nodup → DReps ρ es kvs → DReps ρ (dput es k v) (stored kvs k u)
  | [], [], _, _ => ⟨rfl, hv, trivial⟩
  | (k', w) :: es, (k'', x) :: kvs, hn, r => by
    obtain ⟨h1, h2, h3⟩ := r
    have h1 : k' = k'' := h1
    subst h1
    rw [List.map_cons, List.nodup_cons] at hn
    have ih := dput_stored (k := k) hv hn.2 h3
    unfold stored at ih ⊢
    simp only [dput, List.any_cons]
    by_cases hk : k = k'
    · subst hk
      simp only [if_true, decide_true, Bool.true_or, List.map_cons]
      refine ⟨rfl, hv, ?_⟩
      have : kvs.map (fun kv => if kv.1 = k then (kv.1, u) else kv) = kvs := by
        conv => rhs; rw [← List.map_id kvs]
        refine List.map_congr_left fun kv hkv => ?_
        have : kv.1 ≠ k := fun q => hn.1 (List.mem_map.mpr ⟨kv, hkv, q⟩)
        simp [this]
      rw [this]; exact h3
    · have hk' : ¬ k' = k := fun q => hk q.symm
      simp only [hk, hk', if_false, decide_false, Bool.false_or]
      by_cases hany : (kvs.any fun x => decide (x.1 = k)) = true
      · rw [if_pos hany] at ih ⊢
        simp only [List.map_cons, hk', if_false]
        exact ⟨rfl, h2, ih⟩
      · rw [if_neg hany] at ih ⊢
        exact ⟨rfl, h2, ih⟩
  | [], _ :: _, _, r => r.elim
  | _ :: _, [], _, r => r.elim
theorem dput_length (es : List (Int × AV)) (k : Int) (v : AV) : (dput es k v).length ≤ es.length + 1 := by
  induction es with
  | nil => exact Nat.le_refl _
  | cons e es ih =>
    obtain ⟨k', w⟩ := e
    simp only [dput]
    by_cases hk : k = k'
    · rw [if_pos hk]; exact Nat.le_succ _
    · rw [if_neg hk]; exact Nat.succ_le_succ ih
theorem dictOf_obj {X : Cx} {ρ : List Addr} {h : Heap} {a : Addr} {kvs : List (Int × Value)} (hD : h.DictOf (intKind X.prog X.w) a kvs) {es : List (Int × AV)} (hR : DReps ρ es kvs) (hl : es.length ≤ 1000) : ∃ o, h.get? a = some o ∧ OR X ρ o (.dict es) := by
  obtain ⟨o, ds, ep, ho, h1, h2, h3, h4, h5⟩ := hD
  exact ⟨o, ho, h1, ds, ep, kvs, h2, h3, h4, h5, hR, hl⟩
theorem ddel_without {ρ : List Addr} {k : Int} : ∀ {es : List (Int × AV)} {kvs : List (Int × Value)}, DReps ρ es kvs → DReps ρ (ddel es k) (without kvs k)
  | [], [], _ => trivial
  | (k', w) :: es, (k'', x) :: kvs, r => by
    obtain ⟨h1, h2, h3⟩ := r
    have h1 : k' = k'' := h1
    subst h1
    have ih := ddel_without (k := k) h3
    unfold ddel without at ih ⊢
    rw [List.filter_cons, List.filter_cons]
    by_cases hk : k' = k
    · subst hk; simpa using ih
    · have e1 : (k' != k) = true := by simpa using hk
      have e2 : decide (k' ≠ k) = true := by simpa using hk
      simp only [e1, e2, if_true]
      exact ⟨rfl, h2, ih⟩
  | [], _ :: _, r => r.elim
  | _ :: _, [], r => r.elim
namespace H
variable {P : Prog} {n : Nat} {sc : Scope} {α β γ δ : Type} {bs bs' : Bs} {σ : Store} {Q : α → Bs → Store → Prop}
def noV (_ : List Addr) (_ : Unit) (_ : Unit) : Prop := True
noncomputable def setItemV (o k v : AV) : Mm P n sc Unit := ⟨Unit, fun K ρ s R => ∀ x y z, VRep ρ o x → VRep ρ k y → VRep ρ v z → wpN K.M K.A (setItem x y z) R s, fun d h x y z h1 h2 h3 => wpN_mono (d x y z h1 h2 h3) h, noV⟩
section
variable {i : Nat} {j : Int} {v : AV} {es : List (Int × AV)} {Q : Unit → Bs → Store → Prop}
theorem hx_setitemD (e : σ[i]? = some (.dict es)) (hl : es.length < 1000) (h : Q () bs (σ.set i (.dict (dput es j v)))) : Hx (setItemV (.ref i) (.int j) v : Mm P n sc Unit) bs σ Q := fun K ρ s iv x y z hx hy hz => by
  obtain ⟨t, rfl⟩ := hy
  cases dc_at iv (.inl e) hx with
  | mk a kvs hu' ha hD hR hl' =>
  subst hu'
  refine wpN_any (wpAny_setItem_pairs (intKind_is K.X.prog K.X.w j t) hD (fun h' hm hs => ?_) (by rw [hR.length, sizeLine_eq]; lia))
  obtain ⟨o', ho', hr'⟩ := dictOf_obj hm (dput_stored (k := j) hz (let ⟨_, _, _, _, _, _, _, _, hn⟩ := hD; hn) hR) (Nat.le_trans (dput_length ..) (by lia))
  exact post_put (s' := { s with heap := h', toks := s.toks + 1 }) iv ha e rfl (fun b ob hb eb => hs.extBut b ob hb eb) ho' hr' rfl rfl h trivial
theorem hx_setitemB {u : Int} {b : List UInt8} (e : σ[i]? = some (.bytearray b)) (hc : 0 ≤ j ∧ j < b.length ∧ 0 ≤ u ∧ u < 256 ∧ b.length < 1000000) (h : Q () bs (σ.set i (.bytearray (b.set j.toNat (UInt8.ofNat u.toNat))))) : Hx (setItemV (.ref i) (.int j) (.int u) : Mm P n sc Unit) bs σ Q := fun K ρ s iv x y z hx hy hz => by
  obtain ⟨a, ha, rfl⟩ := hx
  obtain ⟨t, rfl⟩ := hy
  obtain ⟨t', rfl⟩ := hz
  obtain ⟨o, ho, q⟩ := iv.rep.obj i a _ ha e
  cases q
  refine wpN_any (wpAny_mono (ba_set ho hc.1 (by simpa using hc.2.1) (by have := hc.2.2.2.2; simp; lia) hc.2.2.1 hc.2.2.2.1 fun h' k' hS' => ?_) (fun _ _ x => x) fun _ _ x => x.elim)
  refine post_put (s' := { s with heap := h' }) iv ha e rfl k' hS' ?_ rfl rfl h trivial
  show _ = _
  congr 2
  apply Array.ext'
  simp
end
theorem op_delItem {X : Cx} {env : Env} {A A' : Around} {N : Nat} {ρ : List Addr} {s : Shared} {E : Value → Shared → Prop} {i : Nat} {j : Int} {es : List (Int × AV)} {x y : Value} {Q : Unit → Shared → Prop} (iv : Inv X sc env A N ρ bs σ s) (hx : VRep ρ (.ref i) x) (hy : VRep ρ (.int j) y) (e : σ[i]? = some (.dict es)) (hk : es.any (·.1 == j) = true)
    (h : ∀ s', Inv X sc env A N ρ bs (σ.set i (.dict (ddel es j))) s' → Grow (Own sc env) ρ s ρ s' → Q () s') : wpAny (model X.prog X.w) A' (delItem x y) Q E s := by
  obtain ⟨t, rfl⟩ := hy
  cases dc_at iv (.inl e) hx with
  | mk a kvs hu' ha hD hR hl' =>
  subst hu'
  have hsome : (valueAt kvs j).isSome = true := by
    rw [any_key] at hk
    rcases hR.value j with ⟨v, w, h1, h2, _⟩ | ⟨h1, h2⟩
    · rw [h2]; rfl
    · rw [h1] at hk; cases hk
  unfold delItem
  refine wpAny_holding ?_
  refine wpAny_bind (wpAny_sequenceKey hD.typeIs (by decide) ?_)
  refine wpAny_bind (wpAny_callSpecial?_slot (name := Str.ofString "__delitem__") hD.typeIs PySem.F.slot_dict_delitem
    (call_meetsIn PySem.F.slot_dict_delitem hD.typeIs PySem.F.entry_dict_delitem (PySem.F.args_dict_delitem_2 _ _) (meets_dict_delitem_pairs (intKind X.prog X.w) a (intKind_is X.prog X.w j t)) ⟨kvs, hD, (by rw [hR.length, sizeLine_eq]; lia), hsome, fun h' hmm hs => ?_⟩))
  obtain ⟨o', ho', hr'⟩ := dictOf_obj hmm (ddel_without (k := j) hR) (Nat.le_trans (List.length_filter_le ..) hl')
  have kp : ∀ b o, b ≠ a → s.heap.get? b = some o → h'.get? b = some o := fun b ob hb eb => hs.extBut b ob hb eb
  have g : ∀ {own : Addr → Prop}, Grow own ρ s ρ { s with heap := h', toks := s.toks + 1 } := Grow.put (List.mem_of_getElem? ha) kp ⟨_, ho'⟩ rfl rfl
  exact wpAny_pure (h { s with heap := h', toks := s.toks + 1 } (iv.step g (iv.rep.put ha e rfl kp ho' hr')) g)
end H
end Mine
end

section
namespace Mine
open PySem PySem.W PyProof.Rows PySem.Calls
theorem ints_items {xs : List Value} {ns : List Int} (h : IntsAre xs ns) : ∃ ps : List (Int × Tok), xs = ps.map (fun p => Value.int p.1 p.2) ∧ ns = ps.map (·.1) := by
  induction h with
  | nil => exact ⟨[], rfl, rfl⟩
  | cons k t _ ih => obtain ⟨ps, h1, h2⟩ := ih; exact ⟨(k, t) :: ps, by rw [h1]; rfl, by rw [h2]; rfl⟩
theorem insertI_perm (x : Int) : ∀ l, (insertI x l).Perm (x :: l)
  | [] => .refl _
  | y :: r => by
    unfold insertI
    by_cases h : x ≤ y
    · rw [if_pos h]
    · rw [if_neg h]; exact ((insertI_perm x r).cons y).trans (.swap x y r)
theorem sortI_perm : ∀ l, (sortI l).Perm l
  | [] => .refl _
  | x :: r => (insertI_perm x _).trans ((sortI_perm r).cons x)
theorem insertI_sorted (x : Int) : ∀ l : List Int, l.Pairwise (· ≤ ·) → (insertI x l).Pairwise (· ≤ ·)
  | [], _ => List.pairwise_singleton ..
  | y :: r, h => by
    unfold insertI
    by_cases hxy : x ≤ y
    · rw [if_pos hxy]
      refine List.Pairwise.cons (fun z hz => ?_) h
      rcases List.mem_cons.mp hz with rfl | hz
      · exact hxy
      · exact Int.le_trans hxy ((List.pairwise_cons.mp h).1 z hz)
    · rw [if_neg hxy]
      refine List.Pairwise.cons (fun z hz => ?_) (insertI_sorted x r (List.pairwise_cons.mp h).2)
      rcases List.mem_cons.mp ((insertI_perm x r).mem_iff.mp hz) with rfl | hz
      · lia
      · exact (List.pairwise_cons.mp h).1 z hz
theorem sortI_sorted : ∀ l : List Int, (sortI l).Pairwise (· ≤ ·)
  | [] => .nil
  | x :: r => insertI_sorted x _ (sortI_sorted r)
theorem sort_unique {a b : List Int} (hp : a.Perm b) (ha : a.Pairwise (· ≤ ·)) (hb : b.Pairwise (· ≤ ·)) : a = b :=
  hp.eq_of_pairwise (fun _ _ _ _ h1 h2 => Int.le_antisymm h1 h2) ha hb
theorem VReps.one {ρ : List Addr} {v : AV} : ∀ {xs : List Value}, VReps ρ [v] xs → ∃ x, xs = [x] ∧ VRep ρ v x
  | [x], r => ⟨x, rfl, r.1⟩
  | [], r => r.elim
  | _ :: _ :: _, r => r.2.elim
theorem VReps.two {ρ : List Addr} {v u : AV} : ∀ {xs : List Value}, VReps ρ [v, u] xs → ∃ x y, xs = [x, y] ∧ VRep ρ v x ∧ VRep ρ u y
  | [x, y], r => ⟨x, y, rfl, r.1, r.2.1⟩
  | [], r => r.elim
  | [_], r => r.2.elim
  | _ :: _ :: _ :: _, r => r.2.2.elim
theorem VReps.three {ρ : List Addr} {v u z : AV} : ∀ {xs : List Value}, VReps ρ [v, u, z] xs → ∃ x y k, xs = [x, y, k] ∧ VRep ρ v x ∧ VRep ρ u y ∧ VRep ρ z k
  | [x, y, k], r => ⟨x, y, k, rfl, r.1, r.2.1, r.2.2.1⟩
  | [], r => r.elim
  | [_], r => r.2.elim
  | [_, _], r => r.2.2.elim
  | _ :: _ :: _ :: _ :: _, r => r.2.2.2.elim
inductive TpAt (ρ : List Addr) (s : Shared) (i : Nat) (vs : List AV) (u : Value) : Prop
  | mk (a : Addr) (xs : Array Value) (m : Nat) (hu : u = .ref a) (ha : ρ[i]? = some a) (ho : s.heap.get? a = some { cls := .type "tuple", data := .seq xs m }) (hv : VReps ρ vs xs.toList) (hl : vs.length ≤ 1000000) (hz : xs.size = vs.length)
theorem tp_at {X : Cx} {sc : Scope} {env : Env} {A : Around} {n : Nat} {ρ : List Addr} {bs : Bs} {σ : Store} {s : Shared} {i : Nat} {vs : List AV} {u : Value} (iv : Inv X sc env A n ρ bs σ s) (e : σ[i]? = some (.tuple vs)) (hu : VRep ρ (.ref i) u) : TpAt ρ s i vs u := by
  obtain ⟨a, ha, rfl⟩ := hu
  obtain ⟨o, ho, ⟨xs, m, rfl, hv⟩, hl⟩ := iv.rep.obj i a _ ha e
  exact ⟨a, xs, m, rfl, ha, ho, hv, hl, by rw [← hv.length]; simp⟩
theorem special_next {s : Shared} {A : Around} {it l : Addr} {k : Nat} {items : Array Value} {x : Value} {prog : Program} {w : World} {E : Value → Shared → Prop} {Q : Option Value → Shared → Prop} (hit : s.heap.IsListIter it l k)
    (hl : s.heap.IsList l items) (hx : items[k]? = some x)
    (hQ : ∀ h', h'.IsListIter it l (k + 1) → Heap.SameBut it s.heap h' → Q (some x) { s with heap := h' }) :
    wpAny (model prog w) A (callSpecial? (.ref it) (Str.ofString "__next__")) Q E s := by
  obtain ⟨o, ho, hc, hd⟩ := id hit
  obtain ⟨ol, hol, _, nl, hdl⟩ := hl
  refine wpAny_callSpecial?_slot (name := Str.ofString "__next__") hit.typeIs slot_listiter_next
    (wpAny_call_entry slot_listiter_next hit.typeIs entry_listiter_next ?_ (args_listiter_next _))
  show wpAny _ _ (field (.ref it) 0 >>= _) _ _ s
  refine wpAny_bind (wpAny_field ho hd (x := .ref l) rfl ?_)
  show wpAny _ _ (if (Value.ref l == Value.none) = true then _ else _) _ _ s
  rw [if_neg (show ¬ ((Value.ref l == Value.none) = true) from Bool.false_ne_true)]
  show wpAny _ _ (field (.ref it) 1 >>= _) _ _ s
  refine wpAny_bind (wpAny_field ho hd (x := .int k 0) rfl ?_)
  show wpAny _ _ (seqItems? (.ref l) >>= _) _ _ s
  refine wpAny_bind (wpAny_seqItems hol hdl ?_)
  simp only [Int.toNat_natCast, hx]
  refine wpAny_bind (wpAny_setField ho hd (by simp) (wpAny_pure ⟨x, rfl, (hQ _ ?_ (Heap.SameBut.update ..))⟩))
  exact ⟨_, Heap.get?_update_self _ ho (Obj.isFreed_of_fields (Obj.data_mapFields hd _)), (Obj.cls_mapFields ..).trans hc, by
    rw [Obj.data_mapFields hd]; simp [rawInt]⟩
namespace H
variable {P : Prog} {n : Nat} {sc : Scope} {α β γ δ : Type} {bs bs' : Bs} {σ : Store} {Q : α → Bs → Store → Prop}
noncomputable def calls (f : Value) (args : List AV) : Mm P n sc AV := ⟨Value, fun K ρ s R => ∀ vals, VReps ρ args vals → wpN K.M K.A (call f vals) R s, fun d h vals hv => wpN_mono (d vals hv) h, VRep⟩
noncomputable def builtinV (id : String) (args : List AV) : Mm P n sc AV := calls (.builtin id) args
noncomputable def typeV (T : String) (args : List AV) : Mm P n sc AV := calls (.type T) args
noncomputable def methB (id : String) (args : List AV) : Mm P n sc AV := calls (.builtin id) args
theorem calls1 {f : Value} {a : AV} {Q : AV → Bs → Store → Prop} (h : ∀ (K : Cfg P n sc) (ρ : List Addr) (s : Shared), K.I ρ bs σ s → ∀ x, VRep ρ a x → wpN K.M K.A (call f [x]) (PostK K ρ s VRep Q) s) : Hx (calls f [a] : Mm P n sc AV) bs σ Q := fun K ρ s i vals hv => by
  obtain ⟨x, rfl, hx⟩ := hv.one
  exact h K ρ s i x hx
theorem calls2 {f : Value} {a b : AV} {Q : AV → Bs → Store → Prop} (h : ∀ (K : Cfg P n sc) (ρ : List Addr) (s : Shared), K.I ρ bs σ s → ∀ x y, VRep ρ a x → VRep ρ b y → wpN K.M K.A (call f [x, y]) (PostK K ρ s VRep Q) s) : Hx (calls f [a, b] : Mm P n sc AV) bs σ Q := fun K ρ s i vals hv => by
  obtain ⟨x, y, rfl, hx, hy⟩ := hv.two
  exact h K ρ s i x y hx hy
theorem dict_ne {X : Cx} {env : Env} {A : Around} {N : Nat} {ρ : List Addr} {s : Shared} (F : Fx X) (i : Inv X sc env A N ρ bs σ s) {j : Nat} {a : Addr} {ao : AO} (ha : ρ[j]? = some a) (hao : σ[j]? = some ao) (hf : ao.frozen = false) : (a == sysModules) = false := by
  obtain ⟨os, hos⟩ := F.sys
  simpa using own_ne i ha hao hf hos
section
variable {i j : Nat} {vs : List AV} {ns : List Int} {es : List (Int × AV)} {b : List UInt8} {Q : AV → Bs → Store → Prop}
theorem pv_lenL (h1 : σ[i]? = some (.list vs)) : Pv (builtinV "len" [.ref i] : Mm P n sc AV) bs σ (.int vs.length) := pv_of fun Q q => calls1 fun K ρ s iv x hx => by
  cases ls_at iv h1 hx with
  | mk a xs m hu ha ho hv hl hz => subst hu; exact wpN_any (Calls.call_len_list (isList_of ho) (by lia) (post_same iv rfl rfl rfl q ⟨s.toks + 1, by rw [hz]⟩))
theorem pv_lenT (h1 : σ[i]? = some (.tuple vs)) : Pv (builtinV "len" [.ref i] : Mm P n sc AV) bs σ (.int vs.length) := pv_of fun Q q => calls1 fun K ρ s iv x hx => by
  cases tp_at iv h1 hx with
  | mk a xs m hu ha ho hv hl hz => subst hu; exact wpN_any (PySem.P.len_tuple ho (by lia) (post_same iv rfl rfl rfl q ⟨s.toks + 1, by rw [hz]⟩))
theorem pv_lenD (h1 : σ[i]? = some (.dict es)) : Pv (builtinV "len" [.ref i] : Mm P n sc AV) bs σ (.int es.length) := pv_of fun Q q => calls1 fun K ρ s iv x hx => by
  cases dc_at iv (.inl h1) hx with
  | mk a kvs hu ha hD hR hl =>
    subst hu
    have hz := hR.length
    exact wpN_any (call_len_dict (dict_ne K.F iv ha h1 rfl) hD (by lia) (post_same iv rfl rfl rfl q ⟨s.toks + 1, by rw [hz]⟩))
theorem pv_lenB (h : b.length ≤ 1000000) : Pv (builtinV "len" [.bytes b] : Mm P n sc AV) bs σ (.int b.length) := pv_of fun Q q => calls1 fun K ρ s iv x hx => by
  obtain ⟨t, rfl⟩ := hx
  exact wpN_any (len_bytes (by simp; lia) (post_same iv rfl rfl rfl q ⟨s.toks + 1, by simp⟩))
theorem pv_sum (h1 : σ[i]? = some (.list vs)) (hn : asInts vs = some ns) : Pv (builtinV "sum" [.ref i] : Mm P n sc AV) bs σ (.int ns.sum) := pv_of fun Q q => calls1 fun K ρ s iv x hx => by
  cases ls_at iv h1 hx with
  | mk a xs m hu ha ho hv hl hz =>
    subst hu
    rw [asInts_eq hn] at hv
    obtain ⟨ps, h2, h3⟩ := ints_items (VReps.ints hv)
    have hxs : xs = intItems ps.toArray := by
      apply Array.ext'
      rw [h2]; simp [intItems]
    subst hxs
    refine wpN_any (sum_intListG iv.ok.handled (isList_of ho) fun h' tk t' k => ?_)
    rw [preSum_eq, List.take_of_length_le (by simp)]
    exact post_ext iv k rfl rfl q ⟨t', by rw [h3]⟩
theorem hx_sorted (h1 : σ[i]? = some (.list vs)) (hn : asInts vs = some ns) (hl : ns.length < 64) (hl2 : ((sortI ns).map AV.int).length ≤ 1000000) (h : Q (.ref σ.length) bs (σ ++ [.list ((sortI ns).map .int)])) : Hx (builtinV "sorted" [.ref i] : Mm P n sc AV) bs σ Q := calls1 fun K ρ s iv x hx => by
  cases ls_at iv h1 hx with
  | mk a xs m hu ha ho hv hl hz =>
    subst hu
    rw [asInts_eq hn] at hv
    have hi := VReps.ints hv
    refine wpN_any (sorted_ints (vs := xs.toList) (isList_of ho) hi (by have := hi.length; lia) fun out ns' h1 h2 h3 => ?_)
    have hq : ns' = sortI ns := sort_unique (h2.trans (sortI_perm ns).symm) h3 (sortI_sorted ns)
    subst hq
    obtain ⟨eo, hat⟩ := sortedAll_at s.heap xs.toList out
    exact post_alloc (ao := .list ((sortI ns).map .int)) (s' := { s with heap := sortedAll s.heap xs.toList out }) iv (fun b o e => sortedAll_old e) (Heap.noneOf (Nat.le_succ _)) hat ⟨⟨out, eo, rfl, VReps.of_ints h1⟩, hl2⟩ rfl rfl h (vrep_new iv _)
theorem pv_isT (h1 : σ[i]? = some (.tuple vs)) : Pv (builtinV "isinstance" [.ref i, .ext (.type "tuple")] : Mm P n sc AV) bs σ (.bool true) := pv_of fun Q q => calls2 fun K ρ s iv x y hx hy => by
  cases hy
  cases tp_at iv h1 hx with
  | mk a xs m hu ha ho hv hl hz => subst hu; exact wpN_any (call_isinstance (isinstance_true (Tx := "tuple") F.isi_meta_tuple F.sub_tuple_tuple) ⟨⟨_, ho, rfl⟩, post_here iv q rfl⟩)
theorem pv_isB : Pv (builtinV "isinstance" [.bytes b, .ext (.type "bytes")] : Mm P n sc AV) bs σ (.bool true) := pv_of fun Q q => calls2 fun K ρ s iv x y hx hy => by
  cases hy
  obtain ⟨t, rfl⟩ := hx
  exact wpN_any (call_isinstance (isinstance_true (Tx := "bytes") F.isi_meta_bytes F.sub_bytes_bytes) ⟨typeIs_bytes _ _ _, post_here iv q rfl⟩)
theorem hx_iter (h1 : σ[i]? = some (.list vs)) (h : Q (.ref σ.length) bs (σ ++ [.iter i 0])) : Hx (builtinV "iter" [.ref i] : Mm P n sc AV) bs σ Q := calls1 fun K ρ s iv x hx => by
  cases ls_at iv h1 hx with
  | mk a xs m hu ha ho hv hl hz =>
    subst hu
    refine wpN_any (Calls.call_function_entry (by decide +kernel) (by decide +kernel) kdk_entry_iter (kdk_args_iter _) ?_)
    unfold Builtin.«iter»
    refine wpAny_bind (m := someArgs "iter" 1 2 _) (wpAny_of_eq (a := [Value.ref a]) (by first | rfl | kernel_rfl!) ?_)
    show wpAny _ _ (pyIter (.ref a) >>= _) _ _ _
    refine wpAny_bind (wpAny_pyIter_list (isList_of ho) ?_)
    exact wpAny_pure ⟨_, rfl, post_push (ao := .iter i 0) iv rfl ⟨a, pre_get (List.prefix_append ..) ha, rfl, rfl, fun _ => rfl⟩ h (vrep_new iv _)⟩
theorem hx_nextB {l k : Nat} {v : AV} (h1 : σ[i]? = some (.iter l k)) (h2 : σ[l]? = some (.list vs)) (h3 : vs[k]? = some v) (h : Q v bs (σ.set i (.iter l (k + 1)))) : Hx (builtinV "next" [.ref i] : Mm P n sc AV) bs σ Q := calls1 fun K ρ s iv x hx => by
  obtain ⟨a, ha, rfl⟩ := hx
  obtain ⟨o, ho, la, hla, hc, hd, _⟩ := iv.rep.obj i a _ ha h1
  have hit : s.heap.IsListIter a la k := ⟨o, ho, hc, hd⟩
  cases ls_at iv h2 ⟨la, hla, rfl⟩ with
  | mk a₂ xs m hu ha2 hol hv hl hz =>
    cases hu
    obtain ⟨y, hy, hvy⟩ := hv.get h3
    refine wpN_any (Calls.call_function_entry (by decide +kernel) (by decide +kernel) kdk_entry_next (kdk_args_next _) ?_)
    unfold Builtin.«next»
    refine wpAny_bind (m := someArgs "next" 1 2 _) (wpAny_of_eq (a := [Value.ref a]) (by first | rfl | kernel_rfl!) ?_)
    dsimp only
    refine wpAny_bind (wpAny_specialOf (name := Str.ofString "__next__") hit.typeIs slot_listiter_next.lookup ?_)
    refine wpAny_ite_split (fun hab => absurd hab (by decide)) (fun _ => ?_)
    refine wpAny_bind (special_next hit (isList_of hol) (x := y) (by rw [← Array.getElem?_toList]; exact hy) fun h' hit' hs => ?_)
    obtain ⟨o', ho', hc', hd'⟩ := hit'
    exact wpAny_pure ⟨_, rfl, post_put (ao' := .iter l (k + 1)) (s' := { s with heap := h' }) iv ha h1 rfl (fun b o hb e => hs.extBut b o hb e) ho' ⟨_, ha2, hc', hd', fun q => by lia⟩ rfl rfl h hvy⟩
end
end H
end Mine
end

section
namespace Mine
open PySem PySem.W PySem.W.KBw
open Sem (wp)
section
variable {prog : Program} {w : World} {A : Around} {s : Shared} {b : Array UInt8} {t : Tok}

theorem lb_sub : isSubtype (.type "bytes") (.type "bytes") = pure true := by rw [isSubtype_type]; kernel_rfl
theorem lb_hint {Q : Bool → Shared → Prop} {E : Value → Shared → Prop} (h : ∀ r k, Q r { s with toks := k }) (hb : b.size ≤ 1000000) : wpAny (model prog w) A (Builtin.List.listLengthHint (.bytes b t)) Q E s := by
  unfold Builtin.List.listLengthHint
  refine wpAny_bind (wpAny_specialOf (typeIs_bytes _ _ _) FB.slot_bytes_len.lookup ?_)
  dsimp only
  have e : splitId "bytes.__len__" = some ("bytes", "__len__") := by decide +kernel
  rw [e]
  dsimp only
  refine wpAny_bind (wpAny_isInstance (T := "bytes") (b := true) (typeIs_bytes _ _ _) lb_sub ?_)
  refine wpAny_ite_split (fun hab => absurd hab (by decide)) (fun _ => ?_)
  refine wpAny_ite_split (fun _ => ?_) (fun hab => absurd (by decide +kernel) hab)
  refine wpAny_bind (wpAny_typeOf (typeIs_bytes _ _ _) ?_)
  exact wpAny_pure (h false s.toks)

theorem lb_extend {R : Result → Shared → Prop} (hh : A.handled = none) (hb : b.size ≤ 1000000) (S : Addr) (res : Value) (c₀ : Nat) (hS : s.heap.get? S = some { cls := .type "list", data := .seq #[] c₀ })
    (hR : ∀ h' tk acc' c', (∀ b o, b ≠ S → s.heap.get? b = some o → h'.get? b = some o) → h'.get? S = some { cls := .type "list", dict := none, data := .seq acc' c', slots := #[] } →
      ItemsOf (fun i v => ∃ c u, b[i]? = some c ∧ v = .int (c.toNat : Int) u) acc' b.size → R (.ok (.ret res)) { s with heap := h', toks := tk }) :
    wpAny (model prog w) A.in1 (Builtin.List.listExtendWith (.ref S) (.bytes b t) res)
      (fun fin s' => match fin with | .done f => R (.ok f) s' | .again c' => c'.quiet = true ∧ codeAny (model prog w) A c' R s') (fun e s' => R (.error e) s') s := by
  have hSlt : S < s.heap.objs.size := Heap.lt_size hS
  have hSI : S ≠ s.heap.objs.size := Nat.ne_of_lt hSlt
  have hSf : S ∉ [s.heap.objs.size] := fun hm => hSI (List.mem_singleton.mp hm)
  have W := (KBw.walks (prog := prog) (w := w) (A := A.in1) hh s.heap.objs.size b t).toS
  have key : ∀ (h : Heap) (c₁ tk : Nat), IsBytesIter h s.heap.objs.size b t 0 → (∀ b o, b ≠ S → s.heap.get? b = some o → h.get? b = some o) →
      h.get? S = some { cls := .type "list", data := .seq #[] c₁ } → codeAny (model prog w) A (.builtin "list.extend.loop" ⟨[.ref S, .ref s.heap.objs.size, res], []⟩) R { s with heap := h, toks := tk } := by
    intro h c₁ tk hit hk hS₁
    refine codeAny_extend_loopS W (by rw [sizeLine_eq]; lia) S hSf res b.size 0 _ #[] c₁ rfl (Nat.zero_le _) hit hS₁ (ItemsOf.nil _) fun s' acc' c' hm hS' hacc => ?_
    rw [Moved.eq_with hm]
    refine hR s'.heap s'.toks acc' c' (fun b o hb e => hm.heap b o (fun hmem => ?_) (hk b o hb e)) hS' hacc
    rcases List.mem_cons.mp hmem with e' | hmem
    · exact hb e'
    · exact absurd (Heap.lt_size e) (by rw [List.mem_singleton.mp hmem]; exact Nat.lt_irrefl _)
  unfold Builtin.List.listExtendWith
  refine wpAny_bind (wpAny_typeOf (typeIs_bytes _ _ _) ?_)
  have h1 : Builtin.List.listSameRef (.ref S) (.bytes b t) = false := rfl
  have h2 : (Value.type "bytes" == Value.type "list") = false := by decide
  have h3 : (Value.type "bytes" == Value.type "tuple") = false := by decide
  simp only [h1, h2, h3, Bool.or_false, Bool.false_eq_true, if_false]
  refine wpAny_bind (pyIter_bytes ?_)
  refine wpAny_bind (wpAny_holding (lb_hint (fun r k => ?_) hb))
  have hit₁ : IsBytesIter (s.heap.push { cls := .type "bytes_iterator", data := .fields #[.bytes b t, .int 0 0] }) s.heap.objs.size b t 0 := ⟨_, Heap.get?_push_size _ rfl, rfl, rfl⟩
  have hS₁ := Heap.get?_push_of_some { cls := .type "bytes_iterator", data := .fields #[.bytes b t, .int 0 0] } hS
  refine wpAny_ite_split (fun _ => ?_) (fun _ => wpAny_pure ⟨plainId_quiet F.plain_extend_loop _, key _ c₀ _ hit₁ (fun b o _ e => Heap.get?_push_of_some _ e) hS₁⟩)
  refine wpAny_bind (wpAny_rule ?_)
  refine wpAny_bind ?_
  show wpAny _ _ (updateSeq S (·.push .none) >>= fun _ => updateSeq S (·.pop)) _ _ _
  refine wpAny_bind (wpAny_updateSeq hS₁ rfl ?_)
  have hS₂ := Heap.get?_update_self (Obj.mapSeq (·.push Value.none)) hS₁ rfl
  refine wpAny_updateSeq (hz := by seq_fits) hS₂ rfl ?_
  have hS₃ := Heap.get?_update_self (Obj.mapSeq (·.pop)) hS₂ rfl
  refine wpAny_pure ⟨plainId_quiet F.plain_extend_loop _, key _ _ _ ?_ (fun b o hb e => ?_) hS₃⟩
  · obtain ⟨o, ho, hr⟩ := hit₁
    exact ⟨o, (Heap.get?_update_other _ _ hSI).trans ((Heap.get?_update_other _ _ hSI).trans ho), hr⟩
  · exact (Heap.get?_update_other _ _ (Ne.symm hb)).trans ((Heap.get?_update_other _ _ (Ne.symm hb)).trans (Heap.get?_push_of_some _ e))

theorem call_list_bytes {Q : Value → Shared → Prop} {E : Value → Shared → Prop} (hh : A.handled = none) (hb : b.size ≤ 1000000)
    (hQ : ∀ h' tk acc' c', (∀ b o, s.heap.get? b = some o → h'.get? b = some o) → h'.get? s.heap.objs.size = some { cls := .type "list", dict := none, data := .seq acc' c', slots := #[] } →
      ItemsOf (fun i v => ∃ c u, b[i]? = some c ∧ v = .int (c.toNat : Int) u) acc' b.size → Q (.ref s.heap.objs.size) { s with heap := h', toks := tk }) :
    wpAny (model prog w) A (call (.type "list") [.bytes b t]) Q E s := by
  refine callType_codes (Q₁ := fun obj s₁ => obj = .ref s.heap.objs.size ∧ s₁ = { s with heap := s.heap.push { cls := .type "list", data := .seq #[] } }) F.called_list (F.typeCall_list_1 _) F.entry_list_init
    (code_list_new _ ⟨rfl, rfl⟩) fun obj s₁ h₁ => ?_
  obtain ⟨rfl, rfl⟩ := h₁
  have hS : (s.heap.push { cls := .type "list", data := .seq #[] }).get? s.heap.objs.size = some { cls := .type "list", data := .seq #[] } := Heap.get?_push_size _ rfl
  refine ⟨⟨_, hS, rfl⟩, F.args_list_init_2 _ _, ?_⟩
  generalize hs1 : ({ s with heap := s.heap.push { cls := .type "list", data := .seq #[] } } : Shared) = s₁
  have hS1 : s₁.heap.get? s.heap.objs.size = some { cls := .type "list", data := .seq #[] } := by rw [← hs1]; exact hS
  show wpAny _ _ (do let old ← Builtin.List.listItems (.ref s.heap.objs.size); Builtin.List.listUpdate (.ref s.heap.objs.size) (fun _ => #[]); letGo old.toList.reverse; Builtin.List.listExtendWith (.ref s.heap.objs.size) (.bytes b t) .none) _ _ s₁
  refine wpAny_bind ?_
  unfold Builtin.List.listItems
  refine wpAny_bind (wpAny_seqItems hS1 rfl (wpAny_pure ?_))
  show wpAny _ _ (updateSeq s.heap.objs.size (fun _ => #[]) >>= fun _ => letGo (#[] : Array Value).toList.reverse >>= fun _ => Builtin.List.listExtendWith (.ref s.heap.objs.size) (.bytes b t) .none) _ _ s₁
  refine wpAny_bind (wpAny_updateSeq hS1 rfl ?_)
  have hS₂ := Heap.get?_update_self (Obj.mapSeq (fun _ => (#[] : Array Value))) hS1 rfl
  have oth : ∀ a o, a ≠ s.heap.objs.size → s₁.heap.get? a = some o → (s₁.heap.update s.heap.objs.size (Obj.mapSeq (fun _ => (#[] : Array Value)))).get? a = some o :=
    fun a o ha e => (Heap.get?_update_other _ _ (Ne.symm ha)).trans e
  refine wpAny_bind (wpAny_letGo ?_)
  refine lb_extend (A := A.in1) hh hb _ .none _ hS₂ fun h' tk acc' c' hk hS' hacc => ⟨rfl, ?_⟩
  have := hQ h' tk acc' c' (fun a o e => by
    have ha : a ≠ s.heap.objs.size := Nat.ne_of_lt (Heap.lt_size e)
    exact hk a o ha (oth a o ha (by rw [← hs1]; exact Heap.get?_push_of_some _ e))) hS' hacc
  subst hs1
  exact this
end
end Mine
end

section
namespace Mine
open PySem PySem.W PyProof.Rows PySem.Calls
theorem asOctets_ints {ρ : List Addr} : ∀ {vs : List AV} {b : List UInt8} {xs : List Value}, asOctets vs = some b → VReps ρ vs xs → ∃ ns, IntsAre xs ns ∧ (∀ n ∈ ns, 0 ≤ n ∧ n < 256) ∧ byteArr ns = b.toArray
  | [], b, [], e, _ => by cases e; exact ⟨[], .nil, (fun _ h => by cases h), rfl⟩
  | v :: vs, b, x :: xs, e, r => by
    cases v with
    | int k =>
      have e : (if 0 ≤ k ∧ k < 256 then (asOctets vs).map (UInt8.ofNat k.toNat :: ·) else Option.none) = some b := e
      by_cases hk : 0 ≤ k ∧ k < 256
      · rw [if_pos hk] at e
        obtain ⟨ms, e', rfl⟩ := Option.map_eq_some_iff.mp e
        obtain ⟨t, hx⟩ := r.1
        subst hx
        obtain ⟨ns, h1, h2, h3⟩ := asOctets_ints e' r.2
        refine ⟨k :: ns, .cons k t h1, fun n hn => ?_, ?_⟩
        · rcases List.mem_cons.mp hn with rfl | hn
          · exact hk
          · exact h2 n hn
        · unfold byteArr at h3 ⊢
          have h4 := congrArg Array.toList h3
          simp only at h4
          rw [List.map_cons, h4]
      · rw [if_neg hk] at e; cases e
    | _ => cases e
  | [], _, _ :: _, _, r => r.elim
  | _ :: _, _, [], _, r => r.elim
theorem items_bytes {ρ : List Addr} {b : List UInt8} {acc : Array Value} (h : ItemsOf (fun i v => ∃ c u, b.toArray[i]? = some c ∧ v = .int (c.toNat : Int) u) acc b.toArray.size) : VReps ρ (b.map fun u => AV.int u.toNat) acc.toList := by
  obtain ⟨hz, hv⟩ := h
  have key : ∀ (b : List UInt8) (l : List Value), l.length = b.length → (∀ (j : Nat) (v : Value), l[j]? = some v → ∃ c u, b[j]? = some c ∧ v = .int (c.toNat : Int) u) → VReps ρ (b.map fun u => AV.int u.toNat) l := by
    intro b
    induction b with
    | nil => intro l hl _; cases l with
      | nil => trivial
      | cons _ _ => simp at hl
    | cons c b ih =>
      intro l hl hv
      cases l with
      | nil => simp at hl
      | cons x l =>
        obtain ⟨c', u, hc, rfl⟩ := hv 0 x rfl
        simp at hc; subst hc
        refine ⟨⟨u, rfl⟩, ih l (by simpa using hl) fun j v hj => ?_⟩
        have := hv (j + 1) v (by simpa using hj)
        simpa using this
  refine key b acc.toList (by simpa using hz) fun j v hj => ?_
  obtain ⟨c, u, hc, e⟩ := hv j v (by simpa using hj)
  exact ⟨c, u, by simpa using hc, e⟩
theorem bool_new_list (l : Addr) (items : Array Value) (hz : items.size ≤ 1000000) :
    Meets (Builtin.«bool.__new__» ⟨[.type "bool", .ref l], []⟩) (fun _ R s => s.heap.IsList l items ∧ R (.ok (.ret (.bool (!items.isEmpty)))) { s with toks := s.toks + 1 + 1 }) :=
  Meets.of_wp fun prog w A R s hs => by
    obtain ⟨hl, hs⟩ := hs
    obtain ⟨hp, g, d, tk, os⟩ := s
    have f1 := F.conv_sub_bool
    have hfit : (items.size : Int) < 2 ^ 63 := by lia
    repeat (any_goals (first | assumption | (with_reducible refine wpAny_truthy_list hl hfit ?_) | wp_step))
    all_goals first | exact ⟨_, rfl, hs⟩ | exact hs | skip
theorem meets_bool_list {s : Shared} {l : Addr} {items : Array Value} {A : Around} {Q : Value → Shared → Prop} {E : Value → Shared → Prop} {prog : Program} {w : World} (hl : s.heap.IsList l items) (hz : items.size ≤ 1000000) (h : ∀ k, Q (.bool (!items.isEmpty)) { s with toks := k }) :
    wpAny (model prog w) A (call (.type "bool") [.ref l]) Q E s :=
  call_bool_1 (bool_new_list l items hz) ⟨hl, show wants (fun obj s₁ => s₁.TypeIs obj "bool" ∧ Q obj s₁) E _ _ from ⟨rfl, h _⟩⟩
theorem upd_keeps {h : Heap} {a : Addr} (f : Obj → Obj) : ∀ b o, b ≠ a → h.get? b = some o → (h.update a f).get? b = some o := fun b o hb e => (Heap.get?_update_other _ _ (Ne.symm hb)).trans e
theorem upd_seq {h : Heap} {a : Addr} {xs : Array Value} {m : Nat} (f : Array Value → Array Value) (e : h.get? a = some { cls := .type "list", data := .seq xs m }) : ∃ m', (h.update a (Obj.mapSeq f)).get? a = some { cls := .type "list", data := .seq (f xs) m' } :=
  ⟨_, Heap.get?_update_self (Obj.mapSeq f) e rfl⟩
namespace H
variable {P : Prog} {n : Nat} {sc : Scope} {α β γ δ : Type} {bs bs' : Bs} {σ : Store} {Q : α → Bs → Store → Prop}
section
variable {i j : Nat} {vs : List AV} {ns : List Int} {es : List (Int × AV)} {b : List UInt8} {Q : AV → Bs → Store → Prop}
theorem hx_range1 {b : Int} (hb : small b = true) (h : Q (.ref σ.length) bs (σ ++ [.range 0 b 1])) : Hx (typeV "range" [.int b] : Mm P n sc AV) bs σ Q := calls1 fun K ρ s iv x hx => by
  obtain ⟨t, rfl⟩ := hx
  exact wpN_any (call_range_1 (post_push (ao := .range 0 b 1) iv rfl ⟨_, _, _, rfl⟩ h (vrep_new iv _)))
theorem hx_range2 {a b : Int} (hb : (small a && small b) = true) (h : Q (.ref σ.length) bs (σ ++ [.range a b 1])) : Hx (typeV "range" [.int a, .int b] : Mm P n sc AV) bs σ Q := calls2 fun K ρ s iv x y hx hy => by
  obtain ⟨t, rfl⟩ := hx
  obtain ⟨t', rfl⟩ := hy
  exact wpN_any (call_range_2 (post_push (ao := .range a b 1) iv rfl ⟨_, _, _, rfl⟩ h (vrep_new iv _)))
theorem hx_range3 {a b c : Int} (hb : (small a && small b && small c && c != 0) = true) (h : Q (.ref σ.length) bs (σ ++ [.range a b c])) : Hx (typeV "range" [.int a, .int b, .int c] : Mm P n sc AV) bs σ Q := fun K ρ s iv vals hv => by
  obtain ⟨x, y, z, rfl, ⟨t, rfl⟩, ⟨t', rfl⟩, ⟨t'', rfl⟩⟩ := hv.three
  simp only [small, Bool.and_eq_true, decide_eq_true_eq, bne_iff_ne, ne_eq] at hb
  exact wpN_any (call_range_3 hb.2 (post_push (ao := .range a b c) iv rfl ⟨_, _, _, rfl⟩ h (vrep_new iv _)) (.inl (pylong_no (by lia))))
theorem hx_listT (h1 : σ[i]? = some (.tuple vs)) (hl' : vs.length ≤ 1000000) (h : Q (.ref σ.length) bs (σ ++ [.list vs])) : Hx (typeV "list" [.ref i] : Mm P n sc AV) bs σ Q := calls1 fun K ρ s iv x hx => by
  cases tp_at iv h1 hx with
  | mk a xs m hu ha ho hv hl hz =>
    subst hu
    refine wpN_any (call_list_seq a (.inr rfl) ho rfl rfl (fun h' c' k hg => ?_) (by rw [sizeLine_eq]; lia))
    exact post_alloc (ao := .list vs) (s' := { s with heap := h' }) iv k (Heap.noneOf (Nat.le_refl _)) hg ⟨⟨xs, c', rfl, hv.mono (List.prefix_append ..)⟩, hl⟩ rfl rfl h (vrep_new iv _)
theorem hx_listB (hl : (b.map fun u => AV.int u.toNat).length ≤ 1000000) (h : Q (.ref σ.length) bs (σ ++ [.list (b.map fun u => .int u.toNat)])) : Hx (typeV "list" [.bytes b] : Mm P n sc AV) bs σ Q := calls1 fun K ρ s iv x hx => by
  obtain ⟨t, rfl⟩ := hx
  refine wpN_any (call_list_bytes iv.ok.handled (by simpa using hl) fun h' tk acc c' k hg hI => ?_)
  exact post_alloc (ao := .list (b.map fun u => .int u.toNat)) (s' := { s with heap := h', toks := tk }) iv k (Heap.noneOf (Nat.le_refl _)) hg ⟨⟨acc, c', rfl, items_bytes hI⟩, hl⟩ rfl rfl h (vrep_new iv _)
theorem hx_tupleL (h1 : σ[i]? = some (.list vs)) (hl' : vs.length ≤ 1000000) (h : Q (.ref σ.length) bs (σ ++ [.tuple vs])) : Hx (typeV "tuple" [.ref i] : Mm P n sc AV) bs σ Q := calls1 fun K ρ s iv x hx => by
  cases ls_at iv h1 hx with
  | mk a xs m hu ha ho hv hl hz =>
    subst hu
    refine wpN_any (call_tuple_list (isList_of ho) (fun h' k => ?_) (by rw [sizeLine_eq]; lia))
    have hn : s.heap.get? h'.objs.size = Option.none := by
      cases h0 : s.heap.get? h'.objs.size with
      | none => rfl
      | some o => exact absurd (Heap.lt_size (k _ _ h0)) (Nat.lt_irrefl _)
    exact post_alloc (ao := .tuple vs) (s' := { s with heap := h'.push { cls := .type "tuple", data := .seq xs } }) iv (fun b o e => Heap.get?_push_of_some _ (k b o e)) hn (Heap.get?_push_size _ rfl) ⟨⟨xs, _, rfl, hv.mono (List.prefix_append ..)⟩, hl⟩ rfl rfl h (vrep_new iv _)
theorem pv_bytesL (h1 : σ[i]? = some (.list vs)) (hb : asOctets vs = some b) (hl' : b.length ≤ 1000000) : Pv (typeV "bytes" [.ref i] : Mm P n sc AV) bs σ (.bytes b) := pv_of fun Q q => calls1 fun K ρ s iv x hx => by
  cases ls_at iv h1 hx with
  | mk a xs m hu ha ho hv hl hz =>
    subst hu
    obtain ⟨ns, h1, h2, h3⟩ := asOctets_ints hb hv
    refine wpN_any (call_bytes_ints (vs := xs.toList) (isList_of ho) h1 h2 (by rw [sizeLine_eq]; simp; lia) iv.ok.handled fun h' t k hk => ?_)
    exact post_ext iv hk rfl rfl q ⟨t, by rw [h3]⟩
theorem pv_bytesA (h1 : σ[i]? = some (.bytearray b)) (hl : b.length ≤ 1000000) : Pv (typeV "bytes" [.ref i] : Mm P n sc AV) bs σ (.bytes b) := pv_of fun Q q => calls1 fun K ρ s iv x hx => by
  obtain ⟨a, ha, rfl⟩ := hx
  obtain ⟨o, ho, r⟩ := iv.rep.obj i a _ ha h1
  cases r
  exact wpN_any (wpAny_mono (call_bytes_ba ho (by simpa using hl) fun t k => post_same iv rfl rfl rfl q ⟨t, rfl⟩) (fun _ _ x => x) fun _ _ x => x.elim)
theorem hx_bytearray {k : Int} (hk : 0 ≤ k ∧ k < 1000000) (h : Q (.ref σ.length) bs (σ ++ [.bytearray (List.replicate k.toNat 0)])) : Hx (typeV "bytearray" [.int k] : Mm P n sc AV) bs σ Q := calls1 fun K ρ s iv x hx => by
  obtain ⟨t, rfl⟩ := hx
  refine call_bytearray hk.1 (by lia) fun h' hk' hg => ?_
  exact post_alloc (ao := .bytearray (List.replicate k.toNat 0)) (s' := { s with heap := h' }) iv hk' (Heap.noneOf (Nat.le_refl _)) hg (by show _ = _; simp) rfl rfl h (vrep_new iv _)
theorem hx_setE (h : Q (.ref σ.length) bs (σ ++ [.set []])) : Hx (typeV "set" [] : Mm P n sc AV) bs σ Q := fun K ρ s iv vals hv => by
  cases vals with
  | cons _ _ => exact hv.elim
  | nil => exact wpN_any (call_set_0 fun led => post_push (ao := .set []) iv rfl ⟨setObjOf_fresh led, Nat.zero_le _⟩ h (vrep_new iv _))
theorem pv_boolL (h1 : σ[i]? = some (.list vs)) : Pv (typeV "bool" [.ref i] : Mm P n sc AV) bs σ (.bool (!vs.isEmpty)) := pv_of fun Q q => calls1 fun K ρ s iv x hx => by
  cases ls_at iv h1 hx with
  | mk a xs m hu ha ho hv hl hz =>
    subst hu
    have : xs.isEmpty = vs.isEmpty := by rw [Array.isEmpty, hz]; cases vs <;> rfl
    exact wpN_any (meets_bool_list (isList_of ho) (by lia) fun k => post_same iv rfl rfl rfl q (by rw [this]; rfl))
theorem hx_mAppend {v : AV} (h1 : σ[i]? = some (.list vs)) (hl' : (vs ++ [v]).length ≤ 1000000) (h : Q .none bs (σ.set i (.list (vs ++ [v])))) : Hx (methB "list.append" [.ref i, v] : Mm P n sc AV) bs σ Q := calls2 fun K ρ s iv x y hx hy => by
  cases ls_at iv h1 hx with
  | mk a xs m hu ha ho hv hl hz =>
    subst hu
    refine wpN_any (call_meets slot_list_append ⟨_, ho, rfl⟩ entry_list_append (args_list_append _ _) (list_append a xs m y (by rw [sizeLine_eq]; lia)) ⟨ho, ?_⟩)
    obtain ⟨m', hg⟩ := upd_seq (·.push y) ho
    exact post_put (ao' := .list (vs ++ [v])) (s' := { s with heap := s.heap.update a (Obj.mapSeq (·.push y)) }) iv ha h1 rfl (upd_keeps _) hg ⟨⟨_, _, rfl, by rw [Array.toList_push]; exact hv.append ⟨hy, trivial⟩⟩, hl'⟩ rfl rfl h rfl
theorem hx_mClear (h1 : σ[i]? = some (.list vs)) (h : Q .none bs (σ.set i (.list []))) : Hx (methB "list.clear" [.ref i] : Mm P n sc AV) bs σ Q := calls1 fun K ρ s iv x hx => by
  cases ls_at iv h1 hx with
  | mk a xs m hu ha ho hv hl hz =>
    subst hu
    refine wpN_any (call_meets PySem.F.slot_list_clear ⟨_, ho, rfl⟩ PySem.F.entry_list_clear (PySem.F.args_list_clear_1 _) (AutoSeq1.list_clear_list_0 a xs m (by rw [sizeLine_eq]; lia)) ⟨ho, ?_⟩)
    obtain ⟨m', hg⟩ := upd_seq (fun _ => #[]) ho
    exact post_put (ao' := .list []) (s' := { s with heap := s.heap.update a (Obj.mapSeq (fun _ => #[])) }) iv ha h1 rfl (upd_keeps _) hg ⟨⟨_, _, rfl, trivial⟩, Nat.zero_le _⟩ rfl rfl h rfl
theorem hx_mGet {k : Int} (h1 : σ[i]? = some (.dict es)) (h : Q ((dget es k).getD .none) bs σ) : Hx (methB "dict.get" [.ref i, .int k] : Mm P n sc AV) bs σ Q := calls2 fun K ρ s iv x y hx hy => by
  obtain ⟨t, rfl⟩ := hy
  cases dc_at iv (.inl h1) hx with
  | mk a kvs hu ha hD hR hl =>
    subst hu
    refine wpN_any (call_meetsIn PySem.F.slot_dict_get hD.typeIs PySem.F.entry_dict_get (PySem.F.args_dict_get_2 _ _) (meets_dict_get (intKind K.X.prog K.X.w) a (intKind_is K.X.prog K.X.w k t) (dict_ne K.F iv ha h1 rfl)) ⟨_, hD.mapOf, post_same iv rfl rfl rfl h ?_⟩)
    rcases hR.value k with ⟨v, w, h1, h2, h3⟩ | ⟨h1, h2⟩
    · rw [h1, h2]; exact h3
    · rw [h1, h2]; rfl
theorem hx_mItems (h1 : σ[i]? = some (.dict es)) (h : Q (.ref σ.length) bs (σ ++ [.items i])) : Hx (methB "dict.items" [.ref i] : Mm P n sc AV) bs σ Q := calls1 fun K ρ s iv x hx => by
  cases dc_at iv (.inl h1) hx with
  | mk a kvs hu ha hD hR hl =>
    subst hu
    refine wpN_any (call_meetsIn PySem.F.slot_dict_items hD.typeIs PySem.F.entry_dict_items (PySem.F.args_dict_items_1 _) (meets_dict_items (intKind K.X.prog K.X.w) a (dict_ne K.F iv ha h1 rfl)) ⟨⟨kvs, hD⟩, ?_⟩)
    exact post_push (ao := .items i) iv rfl ⟨a, pre_get (List.prefix_append ..) ha, rfl, rfl, rfl⟩ h (vrep_new iv _)
theorem hx_mValues (h1 : σ[i]? = some (.dict es)) (h : Q (.ref σ.length) bs (σ ++ [.values i])) : Hx (methB "dict.values" [.ref i] : Mm P n sc AV) bs σ Q := calls1 fun K ρ s iv x hx => by
  cases dc_at iv (.inl h1) hx with
  | mk a kvs hu ha hD hR hl =>
    subst hu
    refine wpN_any (call_meetsIn PySem.F.slot_dict_values hD.typeIs PySem.F.entry_dict_values (PySem.F.args_dict_values_1 _) (meets_dict_values (intKind K.X.prog K.X.w) a (dict_ne K.F iv ha h1 rfl)) ⟨⟨kvs, hD⟩, ?_⟩)
    exact post_push (ao := .values i) iv rfl ⟨a, pre_get (List.prefix_append ..) ha, rfl, rfl, rfl⟩ h (vrep_new iv _)
theorem hx_mAdd {xs : List Int} {k : Int} (h1 : σ[i]? = some (.set xs)) (hlen : xs.length < 1000) (h : Q .none bs (σ.set i (.set (if xs.contains k then xs else xs ++ [k])))) : Hx (methB "set.add" [.ref i, .int k] : Mm P n sc AV) bs σ Q := calls2 fun K ρ s iv x y hx hy => by
  obtain ⟨t, rfl⟩ := hy
  obtain ⟨a, ha, rfl⟩ := hx
  obtain ⟨o, ho, hso, hl⟩ := iv.rep.obj i a _ ha h1
  have hS := hso.setOf ho (by unfold scanBound; lia)
  refine wpN_any (call_set_add (intKind_is K.X.prog K.X.w k t) rfl hS (by unfold scanBound; lia) fun h' hs hS' => ?_)
  have hfun : (fun k' => xs.contains k' || decide (k' = k)) = fun k' => (if xs.contains k then xs else xs ++ [k]).contains k' := by
    funext k'
    by_cases hk : xs.contains k = true
    · rw [if_pos hk]
      by_cases hkk : k' = k
      · subst hkk; rw [hk]; simp
      · simp [hkk]
    · rw [if_neg hk]
      by_cases hkk : k' = k
      · subst hkk; simp
      · simp [hkk, List.contains_eq_mem]
  have hlen' : (if xs.contains k then xs.length else xs.length + 1) = (if xs.contains k then xs else xs ++ [k]).length := by split <;> simp
  rw [hfun, hlen'] at hS'
  obtain ⟨o', ho', hr'⟩ := hS'.objOf
  exact post_put (ao' := .set (if xs.contains k then xs else xs ++ [k])) (s' := { s with heap := h', toks := s.toks + 1 }) iv ha h1 rfl (fun b o hb e => hs.extBut b o hb e) ho' ⟨hr', by rw [← hlen']; split <;> lia⟩ rfl rfl h rfl
end
end H
end Mine
end

section
namespace Mine
open PySem PySem.W PyProof.Rows PySem.Calls

theorem gn_slot : Slot "list_iterator" "__getattribute__" "object.__getattribute__" :=
  .of (owner := "object") (n := "__getattribute__") (by rw [typeLookup_type, builtinLookup_eq_fast]; kernel_rfl) (by decide +kernel) (by decide +kernel) (by decide +kernel)
    (by first | exact .inl (by decide +kernel) | exact .inr (by decide +kernel)) (by rw [isSubtype_type]; kernel_rfl)
theorem gn_args (a b : Value) : argsOk "object.__getattribute__" ⟨[a, b], []⟩ := by unfold argsOk; kernel_rfl
theorem gn_nohook : typeLookup (.type "list_iterator") "__getattr__" = pure none := by rw [typeLookup_type, builtinLookup_eq_fast]; kernel_rfl
theorem gn_next : typeLookup (.type "list_iterator") "__next__" = pure (some (.builtin "list_iterator.__next__")) := by rw [typeLookup_type, builtinLookup_eq_fast]; kernel_rfl
theorem gn_type : typeOf (.builtin "list_iterator.__next__") = pure (.type "wrapper_descriptor") := by show builtinType _ = _; rw [builtinType_eq_fast]; kernel_rfl
theorem gn_get : typeLookup (.type "wrapper_descriptor") "__get__" = pure (some (.builtin "wrapper_descriptor.__get__")) := by rw [typeLookup_type, builtinLookup_eq_fast]; kernel_rfl
theorem gn_set : typeLookup (.type "wrapper_descriptor") "__set__" = pure none := by rw [typeLookup_type, builtinLookup_eq_fast]; kernel_rfl
theorem gn_del : typeLookup (.type "wrapper_descriptor") "__delete__" = pure none := by rw [typeLookup_type, builtinLookup_eq_fast]; kernel_rfl
theorem gn_static : isSubtype (.type "list_iterator") (.type "staticmethod") = pure false := by rw [isSubtype_type]; kernel_rfl
theorem gn_classm : isSubtype (.type "list_iterator") (.type "classmethod") = pure false := by rw [isSubtype_type]; kernel_rfl
theorem gn_sub : isSubtype (.type "list_iterator") (.type "list_iterator") = pure true := by rw [isSubtype_type]; kernel_rfl
theorem gn_gslot : Slot "wrapper_descriptor" "__get__" "wrapper_descriptor.__get__" :=
  .of (owner := "wrapper_descriptor") (n := "__get__") (by rw [typeLookup_type, builtinLookup_eq_fast]; kernel_rfl) (by decide +kernel) (by decide +kernel) (by decide +kernel)
    (by first | exact .inl (by decide +kernel) | exact .inr (by decide +kernel)) (by rw [isSubtype_type]; kernel_rfl)
theorem gn_gentry : entryFor table "wrapper_descriptor.__get__" = some Builtin.«wrapper_descriptor.__get__» := entryFor_of_tree (by kernel_rfl)
theorem gn_gargs (a b c : Value) : argsOk "wrapper_descriptor.__get__" ⟨[a, b, c], []⟩ := by unfold argsOk; kernel_rfl

section
variable {prog : Program} {w : World} {A : Around} {E : Value → Shared → Prop} {s : Shared} {it : Addr}

theorem gn_bind {l : Addr} {k : Nat} {sl : Array (Option Value)} {Q : Fin → Shared → Prop} (ho : s.heap.get? it = some { cls := .type "list_iterator", dict := none, data := .fields #[.ref l, .int k 0], slots := sl })
    (hq : Q (.done (.ret (.ref s.heap.objs.size))) { s with heap := s.heap.push { cls := .type "method-wrapper", data := .fields #[.builtin "list_iterator.__next__", .ref it] } }) :
    wpAny (model prog w) A (Builtin.«wrapper_descriptor.__get__» ⟨[.builtin "list_iterator.__next__", .ref it, .type "list_iterator"], []⟩) Q E s := by
  unfold Builtin.«wrapper_descriptor.__get__»
  refine wpAny_bind (wpAny_of_eq (a := (.builtin "list_iterator.__next__", some (.ref it), some (.type "list_iterator"))) (by first | rfl | kernel_rfl) ?_)
  refine wpAny_bind (wpAny_bind (wpAny_of_eq (a := (Str.ofString "__next__", Value.type "list_iterator")) (by kernel_rfl) ?_))
  refine wpAny_bind (wpAny_isInstance (T := "list_iterator") (b := true) ⟨_, ho, rfl⟩ gn_sub ?_)
  refine wpAny_pure ?_
  exact wpAny_bind (wpAny_newObj_type (wpAny_pure hq))

theorem gn_object {tk : Tok} {h : Heap} {g : Array GenState} {d : Drawn} {t : Nat} {os : OsState} {l : Addr} {k : Nat} {sl : Array (Option Value)} {Q : Fin → Shared → Prop} (ho : h.get? it = some { cls := .type "list_iterator", dict := none, data := .fields #[.ref l, .int k 0], slots := sl })
    (hq : Q (.done (.ret (.ref h.objs.size))) ⟨h.push { cls := .type "method-wrapper", data := .fields #[.builtin "list_iterator.__next__", .ref it] }, g, d, t, os⟩) : wpAny (model prog w) A (Builtin.«object.__getattribute__» ⟨[.ref it, .str "__next__" tk], []⟩) Q E ⟨h, g, d, t, os⟩ := by
  have hT : (⟨h, g, d, t, os⟩ : Shared).TypeIs (.ref it) "list_iterator" := ⟨_, ho, rfl⟩
  have f1 := gn_next
  have f2 := gn_type
  have f3 := gn_get
  have f4 := gn_set
  have f5 := gn_del
  have f6 := gn_static
  have f7 := gn_classm
  unfold Builtin.«object.__getattribute__»
  repeat (any_goals (first | assumption | wp_step))
  exact codeAny_call_builtin gn_gslot.plain gn_gentry (gn_gslot.check _ _ _ _ _ _ _ _ f2 (gn_gargs _ _ _) (gn_bind ho (wpAny_pure hq)))

theorem gn_getAttr {l : Addr} {k : Nat} {o : Obj} {ex : Bool} {Q : Value → Shared → Prop} (ho : s.heap.get? it = some o) (hc : o.cls = .type "list_iterator") (hdt : o.data = .fields #[.ref l, .int k 0]) (hdd : o.dict = none)
    (hq : Q (.ref s.heap.objs.size) { s with heap := s.heap.push { cls := .type "method-wrapper", data := .fields #[.builtin "list_iterator.__next__", .ref it] }, toks := s.toks + 1 }) :
    wpAny (model prog w) A (getAttr (.ref it) "__next__" ex) Q E s := by
  obtain ⟨c, dd, dt, sl⟩ := o
  simp only at hc hdt hdd
  subst hc hdt hdd
  obtain ⟨h, g, d, t, os⟩ := s
  have hT : ∀ t, (⟨h, g, d, t, os⟩ : Shared).TypeIs (.ref it) "list_iterator" := fun _ => ⟨_, ho, rfl⟩
  have f1 := gn_slot.lookup
  have f2 := gn_nohook
  have f4 := gn_slot.bind (.ref it)
  cases ex
  all_goals (
    unfold getAttr getAttrBy
    repeat (any_goals (first | assumption | exact hT _ | (rw [if_neg (show ¬ (true && onTheHeap (Value.builtin "object.__getattribute__")) = true by decide)]) | wp_step)))
  all_goals exact codeAny_call_builtin gn_slot.plain F.entry_object_getattribute (gn_slot.check _ _ _ _ _ _ _ _ (hT _) (gn_args _ _) (gn_object ho (wpAny_pure hq)))
end
end Mine
end

section
namespace Mine
open PySem PySem.W PyProof.Rows PySem.Calls Builtin Builtin.ObjectAttr Builtin.Getset_descriptor
theorem NReps.find {ρ : List Addr} {x : Str} {v : AV} : ∀ {fs : List (Str × AV)} {es : List DictEntry}, NReps ρ fs es → fs.lookup x = some v → ∃ e, es.find? (·.key.isStr x) = some e ∧ VRep ρ v e.val
  | [], [], _, h => by cases h
  | (k, w) :: fs, e :: es, r, h => by
    obtain ⟨⟨t, hk⟩, hv, r⟩ := r
    rw [List.lookup_cons] at h
    rw [List.find?_cons]
    have hb : e.key.isStr x = (k == x) := by rw [hk]; rfl
    rw [hb]
    by_cases hkx : x = k
    · subst hkx
      simp only [beq_self_eq_true] at h ⊢
      cases h
      exact ⟨e, rfl, hv⟩
    · have h1 : (x == k) = false := by simpa using hkx
      have h2 : (k == x) = false := by simpa using fun q => hkx q.symm
      rw [h1] at h; rw [h2]
      exact NReps.find r h
  | [], _ :: _, r, _ => r.elim
  | _ :: _, [], r, _ => r.elim

theorem NReps.put {ρ : List Addr} {x : Str} {v : AV} {u : Value} {hs : Int} {t : Tok} (hv : VRep ρ v u) : ∀ {fs : List (Str × AV)} {es : List DictEntry}, NReps ρ fs es → NReps ρ (fput fs x v) (putIn (·.key.isStr x) (fun e => { e with val := u }) ⟨hs, .str x t, u⟩ es)
  | [], [], _ => ⟨⟨t, rfl⟩, hv, trivial⟩
  | (k, w) :: fs, e :: es, r => by
    obtain ⟨⟨t', hk⟩, hw, r⟩ := r
    have hb : e.key.isStr x = (k == x) := by rw [hk]; rfl
    by_cases hkx : x = k
    · subst hkx
      rw [putIn_hit _ _ _ _ _ (by rw [hb]; simp)]
      simp only [fput, if_true]
      exact ⟨⟨t', hk⟩, hv, r⟩
    · rw [putIn_miss _ _ _ _ _ (by rw [hb]; simpa using fun q => hkx q.symm)]
      simp only [fput, hkx, if_false]
      exact ⟨⟨t', hk⟩, hw, NReps.put hv r⟩
  | [], _ :: _, r => r.elim
  | _ :: _, [], r => r.elim
theorem NReps.noRef {ρ : List Addr} : ∀ {fs : List (Str × AV)} {es : List DictEntry}, NReps ρ fs es → es.any (·.refKey) = false
  | [], [], _ => rfl
  | _ :: _, e :: es, r => by
    obtain ⟨⟨t, hk⟩, _, r⟩ := r
    rw [List.any_cons, NReps.noRef r, Bool.or_false]
    unfold DictEntry.refKey
    rw [hk]
  | [], _ :: _, r => r.elim
  | _ :: _, [], r => r.elim
theorem NReps.length {ρ : List Addr} : ∀ {fs : List (Str × AV)} {es : List DictEntry}, NReps ρ fs es → es.length = fs.length
  | [], [], _ => rfl
  | _ :: _, _ :: _, r => by rw [List.length_cons, List.length_cons, NReps.length r.2.2]
  | [], _ :: _, r => r.elim
  | _ :: _, [], r => r.elim
theorem fput_length (fs : List (Str × AV)) (x : Str) (v : AV) : (fput fs x v).length ≤ fs.length + 1 := by
  induction fs with
  | nil => simp [fput]
  | cons f fs ih =>
    obtain ⟨k, w⟩ := f
    unfold fput
    by_cases h : x = k
    · rw [if_pos h]; exact Nat.le_succ _
    · rw [if_neg h]; exact Nat.succ_le_succ ih
theorem fput_keys (fs : List (Str × AV)) (x : Str) (v : AV) : ((fs.map (·.1)).Nodup) → ((fput fs x v).map (·.1)).Nodup ∧ ∀ y ∈ (fput fs x v).map (·.1), y ∈ fs.map (·.1) ∨ y = x := by
  induction fs with
  | nil => intro _; simp [fput]
  | cons f fs ih =>
    intro h
    rw [List.map_cons, List.nodup_cons] at h
    obtain ⟨i1, i2⟩ := ih h.2
    unfold fput
    split
    · rename_i hx
      simp only [List.map_cons]
      refine ⟨List.nodup_cons.mpr h, fun y hy => .inl (by simpa using hy)⟩
    · rename_i hx
      simp only [List.map_cons]
      refine ⟨List.nodup_cons.mpr ⟨fun hm => ?_, i1⟩, fun y hy => ?_⟩
      · rcases i2 _ hm with h1 | h1
        · exact h.1 h1
        · exact hx h1.symm
      · rcases List.mem_cons.mp hy with rfl | hy
        · exact .inl (List.mem_cons_self ..)
        · rcases i2 y hy with h1 | h1
          · exact .inl (List.mem_cons_of_mem _ h1)
          · exact .inr h1

theorem handed_of {ρ : List Addr} {v : AV} {u : Value} (h : VRep ρ v u) (hn : notExt v = true) : handedIn u = true := by
  cases v with
  | ext x => cases hn
  | none => cases h; rfl
  | bool b => cases h; rfl
  | int k => obtain ⟨t, rfl⟩ := h; rfl
  | bytes b => obtain ⟨t, rfl⟩ := h; rfl
  | ref j => obtain ⟨a, _, rfl⟩ := h; rfl

section
variable {prog : Program} {w : World} {A : Around} {s : Shared} {K : Frag} {x C : Addr} {ox : Obj} {R : Result → Shared → Prop}

theorem hs_dict {od od' : Obj} {dx : Addr} {name : Str} {tk : Tok} {v : Value} {es es' : List DictEntry} {n n' : Nat} (X : K.In s.heap)
    (I : InstAt s.heap x ox C (some od)) (hd : ox.dict = some dx) (hp : plainOver K C = true) (ht : takerIn K C name = some none) (hh : (clsIn K C).any (·.hasDict) = true)
    (e0 : od.data = .dict es.toArray n) (hl : es.any (·.refKey) = false)
    (e : Obj.putName name (PyData.keyHash w.params name) (.str name s.toks) v od = od') (e' : od'.data = .dict es'.toArray n') (hz : es'.length ≤ 1000)
    (h : ∀ h', (∀ b o, b ≠ dx → s.heap.get? b = some o → h'.get? b = some o) → h'.get? dx = some od' → R (.ok (.ret .none)) { s with heap := h', toks := s.toks + 1 }) :
    codeAny (model prog w) A (.call (.builtin "object.__setattr__") ⟨[.ref x, .str name tk, v], []⟩) R s := by
  refine osa_open X I hp ht fun b => ?_
  obtain ⟨cd, hc, hd'⟩ := any_some hh
  obtain ⟨hx, hcl, hn, hD⟩ := I
  rw [hd] at hD
  dsimp only at hD
  obtain ⟨oc, odi, oda, osl⟩ := ox
  dsimp only at hcl hd
  subst hcl hd
  have hf : od'.isFreed = false := by obtain ⟨_, _, dd, _⟩ := od'; cases e'; rfl
  have D' : (s.heap.update dx (Obj.putName name (PyData.keyHash w.params name) (.str name s.toks) v)).get? dx = some od' := by
    have := Heap.get?_update_self (Obj.putName name (PyData.keyHash w.params name) (.str name s.toks) v) hD (by rw [e]; exact hf)
    rw [this, e]
  refine wpAny_bind (wpAny_pure (wpAny_bind (wpAny_bind (wpAny_loadPart hx (wpAny_bind ((looks_clsIn X hc).here ?_))))))
  rw [hd']
  refine wpAny_pure (a := some dx) (wpAny_bind (wpAny_pure (wpAny_bind ?_)))
  unfold nsSet
  refine wpAny_bind (wpAny_bind (wpAny_askSetting (wpAny_pure (wpAny_bind (wpAny_mkText (wpAny_bind (wpAny_loadPart hD ?_)))))))
  rw [e0]
  dsimp only
  have c : (!(es.toArray).any (·.key.isStr name) && (es.toArray).any (·.refKey)) = false := by
    rw [← Array.any_toList (as := es.toArray) (p := (·.refKey))]
    simp only [hl, Bool.and_false]
  rw [aRefKeyMayBeTheName_at, c]
  refine wpAny_updatePart hD ?_
  refine wpAny_bind (wpAny_lookBehind D' (by rw [e']; exact pastItsLine_dict (by rw [List.size_toArray, sizeLine_eq]; lia)) ?_)
  exact wpAny_pure (h _ (fun b o hb eb => (Heap.get?_update_other _ _ (Ne.symm hb)).trans eb) D')

theorem hs_slot {od : Option Obj} {v : Value} {p i : Nat} (X : K.In s.heap) (I : InstAt s.heap x ox C od) (hp : slotIn K p C = some i) (hi : i < 1000)
    (hf : ({ ox with slots := (ox.slots ++ Array.replicate (i + 1 - ox.slots.size) none).setIfInBounds i (some v) } : Obj).isFreed = false)
    (h : ∀ h', (∀ b o, b ≠ x → s.heap.get? b = some o → h'.get? b = some o) → h'.get? x = some { ox with slots := (ox.slots ++ Array.replicate (i + 1 - ox.slots.size) none).setIfInBounds i (some v) } → R (.ok (.ret .none)) { s with heap := h' }) :
    codeAny (model prog w) A (.call (.builtin "member_descriptor.__set__") ⟨[.ref p, .ref x, v], []⟩) R s := by
  obtain ⟨n, tn, owner, behind, tb, d, sl, cd, ho, hc, hm, hb, rfl⟩ := slot_of X hp
  have hx := I.at_
  have U := Heap.get?_update_self (fun o : Obj => { o with slots := (o.slots ++ Array.replicate (cd.slotNames.length - 1 - behind.toNat + 1 - o.slots.size) none).setIfInBounds (cd.slotNames.length - 1 - behind.toNat) (some v) }) hx hf
  have U' : ∀ b o, b ≠ x → s.heap.get? b = some o → (s.heap.update x (fun o : Obj => { o with slots := (o.slots ++ Array.replicate (cd.slotNames.length - 1 - behind.toNat + 1 - o.slots.size) none).setIfInBounds (cd.slotNames.length - 1 - behind.toNat) (some v) })).get? b = some o :=
    fun b o hb eb => (Heap.get?_update_other _ _ (Ne.symm hb)).trans eb
  obtain ⟨hh, g, dr, t, os⟩ := s
  have L0 := I.type (M := model prog w)
  have L1 := looks_mroIn (M := model prog w) X hm
  have L2 : Looks (model prog w) hh (Slots.slotNamesOf (.ref C)) cd.slotNames := (looks_clsIn X hc).andThen .now
  dsimp only at ho hx L0 L1
  have f0 := looks_field (M := model prog w) ho 0 (v := .str n tn) rfl
  have f1 := looks_field (M := model prog w) ho 1 (v := owner) rfl
  have f3 := looks_field (M := model prog w) ho 3 (v := .builtin "proto.slot#set") rfl
  have f4 := looks_field (M := model prog w) ho 4 (v := .int behind tb) rfl
  refine codeAny_call_builtin KF.slot_mset.plain KF.entry_mset (KF.slot_mset.check _ _ _ _ _ _ _ _ ⟨_, ho, rfl⟩ (KF.args_mset _ _ _) ?_)
  unfold Builtin.«member_descriptor.__set__» descrSet descrStoreThrough descrCheckInstance descrNameAndClass isInstance
  have f5 : Looks (model prog w) hh (descrItself (.ref p)) [.ref p] := ((Looks.ld (part := none) ho).andThen .now).andThen (Looks.of_pure (by kernel_rfl))
  repeat lk
  refine ⟨Code.quiet_builtin _ (by decide +kernel), codeAny_builtin KF.entry_slotset ?_⟩
  unfold Builtin.«proto.slot#set» Slots.target
  repeat lk
  rw [if_neg hb]
  refine wpAny_pure (wpAny_bind ?_)
  unfold setSlotAt
  dsimp only
  rw [if_neg (by rw [sizeLine_eq]; lia)]
  exact wpAny_updatePart hx (wpAny_pure (h _ U' U))
end

theorem slots_put {ρ : List Addr} {vs : List (Option AV)} {sl : Array (Option Value)} {k : Nat} {v : AV} {u : Value} (h : SReps ρ vs sl) (hk : k < vs.length) (hv : VRep ρ v u) :
    SReps ρ (vs.set k (some v)) ((sl ++ Array.replicate (k + 1 - sl.size) none).setIfInBounds k (some u)) := by
  intro j
  have hsz : k < (sl ++ Array.replicate (k + 1 - sl.size) (none : Option Value)).size := by simp; lia
  by_cases hjk : j = k
  · subst hjk
    rw [List.getElem?_set_self hk, Array.getElem?_setIfInBounds_self_of_lt hsz]
    exact ⟨u, rfl, hv⟩
  · rw [List.getElem?_set_ne (Ne.symm hjk), Array.getElem?_setIfInBounds_ne (Ne.symm hjk)]
    have := h j
    rw [Array.getElem?_append]
    split
    · exact this
    · rename_i hj
      rw [Array.getElem?_eq_none (by lia)] at this
      have hnone : ((Array.replicate (k + 1 - sl.size) (none : Option Value))[j - sl.size]?).join = none := by
        rw [Array.getElem?_replicate]; split <;> rfl
      rw [hnone]; exact this

namespace H
variable {P : Prog} {n : Nat} {sc : Scope} {α β γ δ : Type} {bs bs' : Bs} {σ : Store} {Q : α → Bs → Store → Prop}
noncomputable def getAttrV (P : Prog) (o : AV) (x : Str) : Mm P n sc AV := op1 (fun u => getAttr u x true) o
noncomputable def setAttrV (P : Prog) (o : AV) (x : Str) (v : AV) : Mm P n sc Unit := ⟨Unit, fun K ρ s R => ∀ u y, VRep ρ o u → VRep ρ v y → wpN K.M K.A (setAttr u x y) R s, fun d h u y h1 h2 => wpN_mono (d u y h1 h2) h, noV⟩
inductive InstOf (X : Cx) (ρ : List Addr) (s : Shared) (j d : Nat) (C : Addr) (fs : List (Str × AV)) (u : Value) : Prop
  | mk (a da : Addr) (es : Array DictEntry) (ep : Nat) (hu : u = .ref a) (ha : ρ[j]? = some a) (hda : ρ[d]? = some da) (hN : NReps ρ fs es.toList) (hn : (fs.map (·.1)).Nodup) (hl : fs.length ≤ 100)
      (I : InstAt s.heap a { cls := .ref C, dict := some da, data := .plain } C (some ⟨.type "dict", Option.none, .dict es ep, #[]⟩))
theorem inst_of {X : Cx} {env : Env} {A : Around} {N : Nat} {ρ : List Addr} {s : Shared} (i : Inv X sc env A N ρ bs σ s) {j d : Nat} {C : Addr} {fs : List (Str × AV)} {u : Value} (e : σ[j]? = some (.inst C d)) (e' : σ[d]? = some (.ns fs)) (hu : VRep ρ (.ref j) u) : InstOf X ρ s j d C fs u := by
  obtain ⟨a, ha, rfl⟩ := hu
  obtain ⟨o, ho, da, hda, rfl⟩ := i.rep.obj j a _ ha e
  obtain ⟨od, hod, h1, h2, h3, ⟨es, ep, h4, h5⟩, h6, h7⟩ := i.rep.obj d da _ hda e'
  obtain ⟨c, dd, dt, sl⟩ := od
  cases h1
  cases h2
  cases h3
  cases h4
  exact ⟨a, da, es, ep, rfl, ha, hda, h5, h6, h7, ⟨ho, rfl, rfl, hod⟩⟩
inductive SlotOf (X : Cx) (ρ : List Addr) (s : Shared) (j : Nat) (C : Addr) (vs : List (Option AV)) (u : Value) : Prop
  | mk (a da : Addr) (oa od : Obj) (hu : u = .ref a) (ha : ρ[j]? = some a) (ho : s.heap.get? a = some oa) (hr : ∀ vs', SReps ρ vs' oa.slots → True) (h1 : oa.cls = .ref C) (h2 : oa.dict = some da) (h3 : oa.data = .plain) (h4 : SReps ρ vs oa.slots) (I : InstAt s.heap a oa C (some od))
theorem slot_of {X : Cx} {env : Env} {A : Around} {N : Nat} {ρ : List Addr} {s : Shared} (i : Inv X sc env A N ρ bs σ s) {j d : Nat} {C : Addr} {vs : List (Option AV)} {fs : List (Str × AV)} {u : Value} (e : σ[j]? = some (.slots C d vs)) (e' : σ[d]? = some (.ns fs)) (hu : VRep ρ (.ref j) u) : ∃ da, ρ[d]? = some da ∧ SlotOf X ρ s j C vs u ∧ ∀ a oa, ρ[j]? = some a → s.heap.get? a = some oa → oa.dict = some da := by
  obtain ⟨a, ha, rfl⟩ := hu
  obtain ⟨oa, ho, da, hda, h1, h2, h3, h4⟩ := i.rep.obj j a _ ha e
  obtain ⟨od, hod, _⟩ := i.rep.obj d da _ hda e'
  refine ⟨da, hda, ⟨a, da, oa, od, rfl, ha, ho, fun _ _ => trivial, h1, h2, h3, h4, ⟨ho, h1, by unfold notCls; rw [h3], by rw [h2]; exact hod⟩⟩, fun a' oa' q1 q2 => ?_⟩
  rw [ha] at q1; cases q1
  rw [ho] at q2; cases q2
  exact h2
theorem kin_here {X : Cx} {env : Env} {A : Around} {N : Nat} {ρ : List Addr} {s : Shared} (F : Fx X) (i : Inv X sc env A N ρ bs σ s) : X.K.In s.heap := F.kin.keeps i.rep.keep
section
variable {i d : Nat} {C : Addr} {fs : List (Str × AV)} {xs : List Str} {vs : List (Option AV)} {x : Str} {v : AV}
theorem pv_attrI (h1 : σ[i]? = some (.inst C d)) (h2 : σ[d]? = some (.ns fs)) (h3 : fs.lookup x = some v) (h4 : P.isCls C = true ∧ P.slotsOf C = Option.none ∧ x ∈ P.attrs C ∧ notExt v = true) : Pv (getAttrV P (.ref i) x : Mm P n sc AV) bs σ v := pv_of fun Q q K ρ s iv u hu => by
  obtain ⟨hC, hsl, hx, hne⟩ := h4
  cases inst_of iv h1 h2 hu with
  | mk a da es ep hu' ha hda hN hnd hl I =>
    subst hu'
    have C' := K.F.cls C (by rw [K.hP]; exact hC)
    obtain ⟨hd, hat⟩ := C'.own (by rw [K.hP]; exact hsl)
    obtain ⟨en, hfind, hv⟩ := hN.find h3
    have hl : lookIn x ⟨.type "dict", Option.none, .dict es ep, #[]⟩ = some (some en.val) := by
      unfold lookIn; dsimp only; rw [hfind]
    have hf : findObj K.X.K C (some ⟨.type "dict", Option.none, .dict es ep, #[]⟩) x = some (.value en.val) := by
      obtain ⟨cd, hcd⟩ := Option.isSome_iff_exists.mp C'.isc
      have hdd : cd.hasDict = true := by rw [hcd] at hd; simpa using hd
      unfold findObj
      rw [hcd, Option.bind_some, hat x (by rw [K.hP]; exact hx), Option.bind_some]
      simp only [Option.bind_some, W.ownOf, hdd, if_true, hl]
    exact wpN_any (get_value (kin_here K.F iv) I C'.ga hf (handed_of hv hne) (post_same iv rfl rfl rfl q hv))
theorem pv_attrS (h1 : σ[i]? = some (.slots C d vs)) (h2 : σ[d]? = some (.ns fs)) (hs : P.slotsOf C = some xs) (h3 : (vs[xs.idxOf x]?).join = some v) (h4 : P.isCls C = true ∧ x ∈ xs ∧ notExt v = true) : Pv (getAttrV P (.ref i) x : Mm P n sc AV) bs σ v := pv_of fun Q q K ρ s iv u hu => by
  obtain ⟨hC, hx, hne⟩ := h4
  obtain ⟨_, _, hS, _⟩ := slot_of iv h1 h2 hu
  cases hS with
  | mk a da oa od hu' ha ho _ g1 g2 g3 g4 I =>
    subst hu'
    have C' := K.F.cls C (by rw [K.hP]; exact hC)
    obtain ⟨p, p1, p2, p3, p4, p5, p6⟩ := C'.slots xs (by rw [K.hP]; exact hs) x hx
    have hs4 := g4 (xs.idxOf x)
    rw [h3] at hs4
    obtain ⟨y, hy, hvy⟩ := hs4
    have Kh := kin_here K.F iv
    exact wpN_any (get_bind Kh I C'.ga (findObj_data C'.isc p1 p2 p3) C'.gattr (wpAny_call (slot_get (s := { s with toks := s.toks + 1 }) Kh I p5 hy (handed_on (handed_of hvy hne) (post_same iv rfl rfl rfl q hvy)))))
theorem hx_attrN {l : Nat} {Q : AV → Bs → Store → Prop} (h1 : σ[i]? = some (.iter l 0)) (h : Q (.ref σ.length) bs (σ ++ [.nextOf i])) : Hx (getAttrV P (.ref i) "__next__" : Mm P n sc AV) bs σ Q := fun K ρ s iv u hu => by
  obtain ⟨a, ha, rfl⟩ := hu
  obtain ⟨oi, hoi, al, hal, hci, hdi, hdd⟩ := iv.rep.obj i a _ ha h1
  refine wpN_any (gn_getAttr hoi hci hdi (hdd rfl) ?_)
  exact post_push (ao := .nextOf i) iv rfl ⟨a, pre_get (List.prefix_append ..) ha, rfl⟩ h (vrep_new iv _)
theorem hx_setI {Q : Unit → Bs → Store → Prop} (h1 : σ[i]? = some (.inst C d)) (h2 : σ[d]? = some (.ns fs)) (h4 : P.isCls C = true ∧ P.slotsOf C = Option.none ∧ x ∈ P.attrs C ∧ fs.length < 100) (h : Q () bs (σ.set d (.ns (fput fs x v)))) : Hx (setAttrV P (.ref i) x v : Mm P n sc Unit) bs σ Q := fun K ρ s iv u y hu hy => by
  obtain ⟨hC, hsl, hx, hz⟩ := h4
  cases inst_of iv h1 h2 hu with
  | mk a da es ep hu' ha hda hN hnd hl I =>
    subst hu'
    have C' := K.F.cls C (by rw [K.hP]; exact hC)
    obtain ⟨hd, hat⟩ := C'.own (by rw [K.hP]; exact hsl)
    have Kh := kin_here K.F iv
    have ht : takerIn K.X.K C x = some Option.none := by unfold takerIn; rw [hat x (by rw [K.hP]; exact hx)]; rfl
    refine wpN_any (set_plain Kh I C'.sa ?_)
    have hput := NReps.put (x := x) (hs := PyData.keyHash K.X.w.params x) (t := s.toks + 1) hy hN
    refine hs_dict (s := { s with toks := s.toks + 1 }) (od' := ⟨.type "dict", Option.none, .dict (putIn (·.key.isStr x) (fun e => { e with val := y }) ⟨PyData.keyHash K.X.w.params x, .str x (s.toks + 1), y⟩ es.toList).toArray (if es.toList.any (·.key.isStr x) then ep else ep + 1), #[]⟩)
      (es := es.toList) (n := ep) Kh I rfl C'.over ht hd rfl hN.noRef (putName_eq ..) rfl (by rw [hput.length]; have := fput_length fs x v; lia) fun h' k hg => ?_
    refine post_put (ao' := .ns (fput fs x v)) (s' := { s with heap := h', toks := s.toks + 1 + 1 }) iv hda h2 rfl k hg ⟨rfl, rfl, rfl, ⟨_, _, rfl, hput⟩, (fput_keys fs x v hnd).1, ?_⟩ rfl rfl h trivial
    have := fput_length fs x v; lia
theorem hx_setS {Q : Unit → Bs → Store → Prop} (h1 : σ[i]? = some (.slots C d vs)) (h2 : σ[d]? = some (.ns fs)) (hs : P.slotsOf C = some xs) (h4 : P.isCls C = true ∧ x ∈ xs ∧ vs.length = xs.length)
    (h : Q () bs (σ.set i (.slots C d (vs.set (xs.idxOf x) (some v))))) : Hx (setAttrV P (.ref i) x v : Mm P n sc Unit) bs σ Q := fun K ρ s iv u y hu hy => by
  obtain ⟨hC, hx, hz⟩ := h4
  obtain ⟨db, hdb, hS, hdd⟩ := slot_of iv h1 h2 hu
  cases hS with
  | mk a da oa od hu' ha ho _ g1 g2 g3 g4 I =>
    subst hu'
    have C' := K.F.cls C (by rw [K.hP]; exact hC)
    have Kh := kin_here K.F iv
    obtain ⟨p, p1, p2, p3, p4, p5, p6⟩ := C'.slots xs (by rw [K.hP]; exact hs) x hx
    have ht : takerIn K.X.K C x = some (some (.ref p)) := by unfold takerIn; rw [p1, Option.bind_some]; simp only [p3]; rfl
    have hlt' : xs.idxOf x < vs.length := by rw [hz]; exact List.idxOf_lt_length_iff.mpr hx
    refine wpN_any (set_plain Kh I C'.sa (osa_descr (s := { s with toks := s.toks + 1 }) KF.slot_mset Kh I C'.over ht p4 (hs_slot (s := { s with toks := s.toks + 1 }) Kh I p5 p6 ?_ fun h' k hg => ?_)))
    · obtain ⟨c, dd, dt, sl⟩ := oa
      cases g3; cases g1; rfl
    · have hdb' : oa.dict = some db := hdd _ _ ha ho
      exact post_put (ao' := .slots C d (vs.set (xs.idxOf x) (some v))) (s' := { s with heap := h', toks := s.toks + 1 }) iv ha h1 rfl k hg ⟨db, hdb, g1, hdb', g3, slots_put g4 hlt' hy⟩ rfl rfl h trivial
end
theorem hx_attr {o : Expr} {x : Str} {p : Pos} {Q : AV → Bs → Store → Prop} (hb : notBare o = true) (h : Hx (ev P n sc o) bs σ fun a bs' σ' => Hx (getAttrV P a x : Mm P n sc AV) bs' σ' Q) : Hx (ev P n sc (.Attribute o x p)) bs σ Q := fun K ρ s iv => by
  have hb : attributeBase o x K.env (PySem.eval o K.env) = PySem.eval o K.env := by
    unfold attributeBase
    split
    · cases hb
    · rfl
  show wpN _ _ (PySem.eval _ _) _ _
  rw [arm_eval_Attribute, hb]
  refine thenP (h K ρ s iv) fun a _ _ ρ₁ u t₁ h i₁ p₁ hu => ?_
  refine wpN_stand ?_
  refine thenP (wpN_holding (h K ρ₁ t₁ i₁ u hu)) fun b _ _ ρ₂ y t₂ h i₂ p₂ hy => ?_
  exact wpN_bind (wpN_any (wpAny_letTemporaryGo (wpN_pure (post_here i₂ h hy))))
theorem pv_attr {o : Expr} {x : Str} {p : Pos} {a v : AV} (hb : notBare o = true) (h : Pv (ev P n sc o) bs σ a) (h2 : Pv (getAttrV P a x : Mm P n sc AV) bs σ v) : Pv (ev P n sc (.Attribute o x p)) bs σ v := hx_attr hb (hx_pv h h2)
end H
end Mine
end

section
namespace Mine
open PySem PySem.W PyProof.Rows PySem.Calls
noncomputable def MK.val : MK → Value
  | .bi id => .builtin id
  | .fn a => .ref a

theorem NReps.miss {ρ : List Addr} {x : Str} : ∀ {fs : List (Str × AV)} {es : List DictEntry}, NReps ρ fs es → fs.lookup x = Option.none → es.find? (·.key.isStr x) = Option.none
  | [], [], _, _ => rfl
  | (k, w) :: fs, e :: es, r, h => by
    obtain ⟨⟨t, hk⟩, hv, r⟩ := r
    rw [List.lookup_cons] at h
    rw [List.find?_cons]
    have hb : e.key.isStr x = (k == x) := by rw [hk]; rfl
    rw [hb]
    by_cases hkx : x = k
    · subst hkx; simp at h
    · have h1 : (x == k) = false := by simpa using hkx
      have h2 : (k == x) = false := by simpa using fun q => hkx q.symm
      rw [h1] at h; rw [h2]
      exact NReps.miss r h
  | [], _ :: _, r, _ => r.elim
  | _ :: _, [], r, _ => r.elim

theorem slot_list_count : Slot "list" "count" "list.count" := PySem.F.slot_list_count
theorem ty_append : typeOf (.builtin "list.append") = pure (.type "method_descriptor") := by kernel_rfl
theorem ty_clear : typeOf (.builtin "list.clear") = pure (.type "method_descriptor") := by kernel_rfl
theorem ty_count : typeOf (.builtin "list.count") = pure (.type "method_descriptor") := by kernel_rfl
theorem ty_get : typeOf (.builtin "dict.get") = pure (.type "method_descriptor") := by kernel_rfl
theorem ty_items : typeOf (.builtin "dict.items") = pure (.type "method_descriptor") := by kernel_rfl
theorem ty_values : typeOf (.builtin "dict.values") = pure (.type "method_descriptor") := by kernel_rfl
namespace H
variable {P : Prog} {n : Nat} {sc : Scope} {α β γ δ : Type} {bs bs' : Bs} {σ : Store} {Q : α → Bs → Store → Prop}
structure MethAt (M : Model) (A : Around) (s : Shared) (u : Value) (x : Str) (k : MK) : Prop where
  meth : ∀ (pl : Sem Bool) (Q : Value × List Value → Shared → Prop) (E : Value → Shared → Prop), Q (k.val, [u]) s → wpAny M A (getMethod u x pl) Q E s
  bound : ∀ (f : Addr) (ex : Bool) (Q : Value → Shared → Prop) (E : Value → Shared → Prop), k = .fn f → (∀ t, Q (.ref s.heap.objs.size) { s with heap := s.heap.push (methodObj (.ref f) u), toks := t }) → wpAny M A (getAttr u x ex) Q E s
noncomputable def findMeth (P : Prog) (o : AV) (x : Str) : Mm P n sc MK := ⟨MK, fun K ρ s R => ∀ u, VRep ρ o u → ∃ k, MethAt K.M K.A s u x k ∧ R k s, fun d h u hu => (d u hu).imp fun k q => ⟨q.1, h _ _ q.2⟩, fun _ k k' => k' = k⟩
theorem MethAt.bi {M : Model} {A : Around} {s : Shared} {u : Value} {x : Str} {id : String} (h : ∀ (pl : Sem Bool) (Q : Value × List Value → Shared → Prop) (E : Value → Shared → Prop), Q (.builtin id, [u]) s → wpAny M A (getMethod u x pl) Q E s) : MethAt M A s u x (.bi id) := ⟨h, fun f ex Q E e => by cases e⟩
section
variable {i d : Nat} {C : Addr} {fs : List (Str × AV)} {x : Str} {vs : List AV} {es : List (Int × AV)} {f : Addr} {k : MK} {Q : MK → Bs → Store → Prop}
theorem hx_findA (h1 : σ[i]? = some (.inst C d)) (h2 : σ[d]? = some (.ns fs)) (h3 : P.meth C x = some f) (h4 : P.isCls C = true ∧ P.slotsOf C = Option.none ∧ fs.lookup x = Option.none) (h : Q (.fn f) bs σ) : Hx (findMeth P (.ref i) x : Mm P n sc MK) bs σ Q := fun K ρ s iv u hu => by
  obtain ⟨hC, hsl, hlk⟩ := h4
  refine ⟨.fn f, ?_, post_here iv h rfl⟩
  cases inst_of iv h1 h2 hu with
  | mk a da es ep hu' ha hda hN hnd hl I =>
    subst hu'
    have C' := K.F.cls C (by rw [K.hP]; exact hC)
    have M' := K.F.meth C x f (by rw [K.hP]; exact hC) (by rw [K.hP]; exact h3)
    have Kh := kin_here K.F iv
    have hlook : lookIn x ⟨.type "dict", Option.none, .dict es ep, #[]⟩ = some Option.none := by
      unfold lookIn
      dsimp only
      rw [hN.miss hlk]
      dsimp only
      rw [hN.noRef]
      rfl
    refine ⟨fun pl Q E q => method_fn Kh I C'.ga C'.gattr M'.find M'.ty (by show (lookIn x _).map _ = _; rw [hlook]; rfl) q, fun f' ex Q E e q => ?_⟩
    cases e
    have hf : findObj K.X.K C (some ⟨.type "dict", Option.none, .dict es ep, #[]⟩) x = some (.bind (.builtin "function.__get__") (.ref f)) :=
      findObj_fn (C'.own (by rw [K.hP]; exact hsl)).1 M'.find M'.get M'.takes M'.name hlook
    exact get_bind Kh I C'.ga hf C'.gattr (wpAny_call (fn_get (s := { s with toks := s.toks + 1 }) Kh M'.ty (handed_on rfl (q _))))
theorem hx_findL (h1 : σ[i]? = some (.list vs)) (hk : (x = "append" ∧ k = .bi "list.append") ∨ (x = "clear" ∧ k = .bi "list.clear") ∨ (x = "count" ∧ k = .bi "list.count")) (h : Q k bs σ) : Hx (findMeth P (.ref i) x : Mm P n sc MK) bs σ Q := fun K ρ s iv u hu => by
  refine ⟨k, ?_, post_here iv h rfl⟩
  cases ls_at iv h1 hu with
  | mk a xs m hu' ha hg hv hl hz =>
    subst hu'
    have hT : s.TypeIs (.ref a) "list" := ⟨_, hg, rfl⟩
    have hd : ∀ b, Value.ref a = .ref b → ∃ o, s.heap.get? b = some o ∧ o.dict = Option.none := fun b e => by cases e; exact ⟨_, hg, rfl⟩
    rcases hk with ⟨rfl, rfl⟩ | ⟨rfl, rfl⟩ | ⟨rfl, rfl⟩
    · exact .bi fun pl Q E q => getMethod_builtin hT PySem.F.plainAttrs_list slot_list_append ty_append hd q
    · exact .bi fun pl Q E q => getMethod_builtin hT PySem.F.plainAttrs_list PySem.F.slot_list_clear ty_clear hd q
    · exact .bi fun pl Q E q => getMethod_builtin hT PySem.F.plainAttrs_list slot_list_count ty_count hd q
theorem hx_findD (h1 : σ[i]? = some (.dict es)) (hk : (x = "get" ∧ k = .bi "dict.get") ∨ (x = "items" ∧ k = .bi "dict.items") ∨ (x = "values" ∧ k = .bi "dict.values")) (h : Q k bs σ) : Hx (findMeth P (.ref i) x : Mm P n sc MK) bs σ Q := fun K ρ s iv u hu => by
  refine ⟨k, ?_, post_here iv h rfl⟩
  cases dc_at iv (.inl h1) hu with
  | mk a kvs hu' ha hD hR hl =>
    subst hu'
    rcases hk with ⟨rfl, rfl⟩ | ⟨rfl, rfl⟩ | ⟨rfl, rfl⟩
    · exact .bi fun pl Q E q => getMethod_builtin hD.typeIs PySem.F.plainAttrs_dict PySem.F.slot_dict_get ty_get hD.mapOf.noDict q
    · exact .bi fun pl Q E q => getMethod_builtin hD.typeIs PySem.F.plainAttrs_dict PySem.F.slot_dict_items ty_items hD.mapOf.noDict q
    · exact .bi fun pl Q E q => getMethod_builtin hD.typeIs PySem.F.plainAttrs_dict PySem.F.slot_dict_values ty_values hD.mapOf.noDict q
theorem hx_findS {xs : List Int} (h1 : σ[i]? = some (.set xs)) (h : Q (.bi "set.add") bs σ) : Hx (findMeth P (.ref i) "add" : Mm P n sc MK) bs σ Q := fun K ρ s iv u hu => by
  refine ⟨_, ?_, post_here iv h rfl⟩
  obtain ⟨a, ha, rfl⟩ := hu
  obtain ⟨o, ho, hso, hl⟩ := iv.rep.obj i a _ ha h1
  have hS := hso.setOf ho (by unfold scanBound; lia)
  exact .bi fun pl Q E q => getMethod_set_add hS q
end
end H
end Mine
end

section
namespace Mine
open PySem PySem.W PyProof.Rows PySem.Calls
section
variable {α β : Type}
theorem lookup_zip_mem {k : Str} : ∀ {ns : List Str} {vs : List α}, k ∈ ns → ns.length ≤ vs.length → ((ns.zip vs).lookup k).isSome = true
  | n :: ns, v :: vs, h, hl => by
    rw [List.zip_cons_cons, List.lookup_cons]
    by_cases hk : k = n
    · subst hk; simp
    · have : (k == n) = false := by simpa using hk
      rw [this]
      rcases List.mem_cons.mp h with h | h
      · exact absurd h hk
      · exact lookup_zip_mem h (by simpa using hl)
  | [], _, h, _ => by cases h
  | _ :: _, [], _, hl => by simp at hl
theorem lookup_none {k : Str} : ∀ {l : List (Str × α)}, k ∉ l.map (·.1) → l.lookup k = none
  | [], _ => rfl
  | (n, v) :: l, h => by
    rw [List.lookup_cons]
    have h1 : (k == n) = false := by simpa using fun q => h (by simp [q])
    rw [h1]
    exact lookup_none fun q => h (by simp [List.mem_map] at q ⊢; exact .inr q)
theorem fm_congr {γ : Type} {f g : γ → Option β} : ∀ (l : List γ), (∀ m ∈ l, f m = g m) → l.filterMap f = l.filterMap g
  | [], _ => rfl
  | m :: l, h => by
    rw [List.filterMap_cons, List.filterMap_cons, h m (.head _), fm_congr l fun q hq => h q (.tail _ hq)]
theorem filterMap_zip : ∀ (ns : List Str) (vs : List α), ns.Nodup → ns.length = vs.length → (ns.filterMap fun n => ((ns.zip vs).lookup n).map (n, ·)) = ns.zip vs
  | [], [], _, _ => rfl
  | n :: ns, v :: vs, hn, hl => by
    rw [List.nodup_cons] at hn
    have ih := filterMap_zip ns vs hn.2 (by simpa using hl)
    rw [List.filterMap_cons]
    simp only [List.zip_cons_cons, List.lookup_cons, beq_self_eq_true, Option.map_some]
    congr 1
    conv => rhs; rw [← ih]
    refine fm_congr _ fun m hm => ?_
    have h1 : (m == n) = false := by
      have : m ≠ n := fun q => hn.1 (q ▸ hm)
      simpa using this
    rw [h1]
  | [], _ :: _, _, hl => by simp at hl
  | _ :: _, [], _, hl => by simp at hl

noncomputable def addMissing (S : List (Str × α)) (p : Str × α) : List (Str × α) := if (S.lookup p.1).isNone then S ++ [p] else S
theorem add_old : ∀ (L S : List (Str × α)), (∀ p ∈ L, (S.lookup p.1).isSome = true) → L.foldl addMissing S = S
  | [], _, _ => rfl
  | p :: L, S, h => by
    rw [List.foldl_cons]
    have h1 : addMissing S p = S := by unfold addMissing; rw [if_neg]; have := h p (.head _); simp [Option.isSome_iff_ne_none] at this ⊢; exact this
    rw [h1]
    exact add_old L S fun q hq => h q (.tail _ hq)
theorem lookup_append_none {S T : List (Str × α)} {k : Str} (h : S.lookup k = none) : (S ++ T).lookup k = T.lookup k := by
  induction S with
  | nil => rfl
  | cons p S ih =>
    rw [List.lookup_cons] at h
    rw [List.cons_append, List.lookup_cons]
    split at h
    · cases h
    · exact ih h
theorem add_new : ∀ (L S : List (Str × α)), (L.map (·.1)).Nodup → (∀ p ∈ L, S.lookup p.1 = none) → L.foldl addMissing S = S ++ L
  | [], S, _, _ => by simp
  | p :: L, S, hn, h => by
    rw [List.foldl_cons]
    have h1 : addMissing S p = S ++ [p] := by unfold addMissing; rw [if_pos]; rw [h p (.head _)]; rfl
    rw [List.map_cons, List.nodup_cons] at hn
    rw [h1, add_new L (S ++ [p]) hn.2 fun q hq => ?_]
    · simp
    · rw [lookup_append_none (h q (.tail _ hq)), List.lookup_cons]
      have h2 : (q.1 == p.1) = false := by
        simpa using fun e => hn.1 (by rw [← e]; exact List.mem_map_of_mem hq)
      rw [h2]; rfl
end

section
variable {M : Model} {A : Around} {E : Value → Shared → Prop} {s : Shared}
theorem wp_forIn_pure {α β : Type} {f : α → β → Sem (ForInStep β)} {g : β → α → β} (hf : ∀ a b, f a b = pure (.yield (g b a))) : ∀ (l : List α) (b : β) {Q : β → Shared → Prop}, Q (l.foldl g b) s → wpAny M A (forIn l b f) Q E s
  | [], b, Q, h => by rw [List.forIn_nil]; exact wpAny_pure h
  | a :: l, b, Q, h => by
    rw [List.forIn_cons, hf]
    exact wpAny_bind (wpAny_pure (wp_forIn_pure hf l (g b a) h))

theorem wp_dflts {v : Value} {D : List Value} {Q : Option (Array Value) → Shared → Prop} (h : DfltAt s.heap v D) (hq : ∀ o, (o.getD #[]).toList = D → Q o s) : wpAny M A (seqItems? v) Q E s := by
  rcases h with ⟨rfl, rfl⟩ | ⟨T, o, n, rfl, ho, hd⟩
  · show wpAny M A (do notAStandIn .none; pure none) Q E s
    exact wpAny_bind (wpAny_pure (wpAny_pure (hq none rfl)))
  · exact wpAny_seqItems ho hd (hq _ rfl)

theorem zip_left {α β : Type} : ∀ (xs : List α) (ys : List β), xs.zip ys = (xs.take ys.length).zip ys
  | [], _ => by simp
  | _ :: _, [] => by simp
  | x :: xs, y :: ys => by simp [zip_left xs ys]
theorem zip_split {α β : Type} : ∀ (j : Nat) (xs : List α) (ys : List β), xs.zip ys = (xs.take j).zip (ys.take j) ++ (xs.drop j).zip (ys.drop j)
  | 0, xs, ys => by simp
  | j + 1, [], ys => by simp
  | j + 1, x :: xs, [] => by simp
  | j + 1, x :: xs, y :: ys => by simp [zip_split j xs ys]
theorem binds_list {ns : List Str} {D vals : List Value} (hn : ns.Nodup) (hDl : D.length ≤ ns.length) (hl : vals.length ≤ ns.length) (hneed : ns.length - vals.length ≤ D.length) :
    ((ns.drop (ns.length - D.length)).zip D).foldl addMissing (ns.zip vals) = ns.zip (vals ++ D.drop (D.length - (ns.length - vals.length))) := by
  have hk : ns.length - D.length ≤ vals.length := Nat.sub_le_iff_le_add'.mpr (Nat.sub_le_iff_le_add.mp hneed)
  obtain ⟨j, hj⟩ : ∃ j, vals.length = (ns.length - D.length) + j := ⟨vals.length - (ns.length - D.length), (Nat.add_sub_cancel' hk).symm⟩
  have hj' : D.length - (ns.length - vals.length) = j := Nat.sub_eq_of_eq_add (Nat.add_right_cancel (m := vals.length) (by rw [Nat.add_assoc, Nat.sub_add_cancel hl, hj, ← Nat.add_assoc, Nat.add_sub_cancel' hDl, Nat.add_comm]))
  have hz := zip_left ns vals
  have hsplit : (ns.drop (ns.length - D.length)).zip D = ((ns.drop (ns.length - D.length)).take j).zip (D.take j) ++ (ns.drop vals.length).zip (D.drop j) := by
    rw [zip_split j, List.drop_drop, ← hj]
  have hnn : (ns.take vals.length ++ ns.drop vals.length).Nodup := by rw [List.take_append_drop]; exact hn
  rw [List.nodup_append] at hnn
  rw [hsplit, List.foldl_append, hz, add_old (((ns.drop (ns.length - D.length)).take j).zip (D.take j)) _ fun p hp => ?_, add_new ((ns.drop vals.length).zip (D.drop j)) _ ?_ fun p hp => ?_]
  · rw [← List.zip_append (by rw [List.length_take]; exact Nat.min_eq_left hl), List.take_append_drop, hj']
  · rw [List.map_fst_zip (by rw [List.length_drop, List.length_drop, ← hj', Nat.sub_sub_self hneed]; exact Nat.le_refl _)]
    exact hnn.2.1
  · have hp1 : p.1 ∈ ns.drop vals.length := (List.of_mem_zip hp).1
    refine lookup_none fun q => ?_
    rw [List.map_fst_zip (by rw [List.length_take]; exact Nat.min_le_left ..)] at q
    exact hnn.2.2 _ q _ hp1 rfl
  · have hp1 : p.1 ∈ (ns.drop (ns.length - D.length)).take j := (List.of_mem_zip hp).1
    refine lookup_zip_mem ?_ (by rw [List.length_take]; exact Nat.min_le_left ..)
    have : (ns.drop (ns.length - D.length)).take j = (ns.take vals.length).drop (ns.length - D.length) := by rw [hj, List.drop_take, Nat.add_sub_cancel_left]
    rw [this] at hp1
    exact List.mem_of_mem_drop hp1

theorem wp_bindCore {fd : FuncData} {ns : List Str} {va : Option Str} {D vals : List Value} {Q : List (Str × Value) → Shared → Prop} (sh : FnShape fd ns va) (hD : DfltAt s.heap fd.defaults D) (hDl : D.length ≤ ns.length)
    (hg : (decide (vals.length > ns.length) && fd.params.vararg.isNone) = false) (hmiss : (ns.take (ns.length - D.length)).filter (fun n => ((ns.zip vals).lookup n).isNone) = [])
    {B : List (Str × Value)} (hB : (ns.filterMap fun n => ((((ns.drop (ns.length - D.length)).zip D).foldl addMissing (ns.zip vals)).lookup n).map (n, ·)) = B)
    (h : match (generalizing := false) va with
      | none => Q B s
      | some x => wpAny M A (newTuple (vals.drop ns.length)) (fun t s' => Q (B ++ [(x, t)]) s') E s) : wpAny M A (PySem.bindArgs fd ⟨vals, []⟩) Q E s := by
  have hp : fd.params.posonlyargs.map (fun (x : Arg) => x.arg) ++ fd.params.args.map (fun (x : Arg) => x.arg) = ns := by rw [sh.pos, sh.args]; rfl
  have hk : fd.params.kwonlyargs.map (fun (x : Arg) => x.arg) = [] := by rw [sh.kwonly]; rfl
  have hv := sh.vararg
  have hw := sh.kwarg
  unfold PySem.bindArgs
  refine wpAny_bind (wpAny_of_eq List.forIn_nil ?_)
  refine wpAny_bind (wp_dflts hD fun o ho => ?_)
  subst ho
  have hd0 : (o.getD #[]).toList.drop ((o.getD #[]).toList.length - ns.length) = (o.getD #[]).toList := by rw [Nat.sub_eq_zero_of_le hDl]; rfl
  refine bm_if_false (by rw [hp]; exact hg) ?_
  refine bm_if_false (by dsimp only; rw [hp, hd0, hmiss]; rfl) ?_
  have hf : ∀ (n : Str) (d : Value) (b : List (Str × Value)), (if (List.lookup n b).isNone = true then (pure (ForInStep.yield (b ++ [(n, d)])) : Sem _) else pure (ForInStep.yield b)) = pure (ForInStep.yield (addMissing b (n, d))) := fun n d b => by
    unfold addMissing
    by_cases hb : (List.lookup n b).isNone = true
    · rw [if_pos hb, if_pos hb]
    · rw [if_neg hb, if_neg hb]
  refine wpAny_bind (wp_forIn_pure (g := addMissing) (fun a b => hf a.1 a.2 b) _ _ ?_)
  refine wpAny_bind (wpAny_of_eq (by rw [hk]; exact List.forIn_nil) ?_)
  refine bm_if_false rfl ?_
  dsimp only
  rw [hp, hk, hd0, List.append_nil, hB, hw]
  cases hx : fd.params.vararg with
  | none => rw [hx] at hv; cases hv; exact wpAny_pure h
  | some a => rw [hx] at hv; cases hv; exact wpAny_bind (wpAny_mono h (fun t s' hq => wpAny_pure hq) fun _ _ e => e)
theorem wp_bindArgs {fd : FuncData} {ns : List Str} {D vals : List Value} {Q : List (Str × Value) → Shared → Prop} (sh : FnShape fd ns none) (hn : ns.Nodup) (hD : DfltAt s.heap fd.defaults D) (hDl : D.length ≤ ns.length)
    (hl : vals.length ≤ ns.length) (hneed : ns.length - vals.length ≤ D.length) (h : Q (ns.zip (vals ++ D.drop (D.length - (ns.length - vals.length)))) s) :
    wpAny M A (PySem.bindArgs fd ⟨vals, []⟩) Q E s := by
  refine wp_bindCore sh hD hDl (by rw [decide_eq_false (Nat.not_lt.mpr hl)]; rfl) (List.filter_eq_nil_iff.mpr fun a ha => ?_) (by rw [binds_list hn hDl hl hneed, filterMap_zip _ _ hn (by rw [List.length_append, List.length_drop, Nat.sub_sub_self hneed, Nat.add_sub_cancel' hl])]) h
  have h1 : a ∈ ns.take vals.length := by
    have : ns.take (ns.length - D.length) = (ns.take vals.length).take (ns.length - D.length) := by rw [List.take_take, Nat.min_eq_left (Nat.sub_le_iff_le_add'.mpr (Nat.sub_le_iff_le_add.mp hneed))]
    rw [this] at ha
    exact List.mem_of_mem_take ha
  have := lookup_zip_mem (vs := vals) h1 (by rw [List.length_take]; exact Nat.min_le_left ..)
  rw [zip_left ns vals, Option.isNone_eq_false_iff.mpr this]
  exact Bool.false_ne_true
theorem wp_bindArgsV {fd : FuncData} {ns : List Str} {x : Str} {vals : List Value} {Q : List (Str × Value) → Shared → Prop} (sh : FnShape fd ns (some x)) (hn : ns.Nodup) (hD : DfltAt s.heap fd.defaults [])
    (hl : ns.length ≤ vals.length) (h : wpAny M A (newTuple (vals.drop ns.length)) (fun t s' => Q (ns.zip (vals.take ns.length) ++ [(x, t)]) s') E s) :
    wpAny M A (PySem.bindArgs fd ⟨vals, []⟩) Q E s := by
  have hv := sh.vararg
  refine wp_bindCore sh hD (Nat.zero_le _) ?_ (List.filter_eq_nil_iff.mpr fun a ha => ?_) (by
    rw [List.zip_nil_right, List.foldl_nil, zip_split ns.length ns vals, List.take_length, List.drop_length, List.zip_nil_left, List.append_nil, filterMap_zip _ _ hn (by rw [List.length_take]; exact (Nat.min_eq_left hl).symm)]) h
  · cases hx : fd.params.vararg with
    | none => rw [hx] at hv; cases hv
    | some a => exact Bool.and_false _
  · rw [Option.isNone_eq_false_iff.mpr (lookup_zip_mem (vs := vals) (List.mem_of_mem_take ha) hl)]
    exact Bool.false_ne_true
end

section
variable {prog : Program} {w : World} {A : Around} {s : Shared} {R : Flow → Shared → Prop}
theorem codeN_call_function {a : Addr} {args : Args} {o : Obj} {fd : FuncData} {body : List Stmt} (hroom : A.depth < recursionLimit) (ho : s.heap.get? a = some o)
    (hd' : o.data = .func fd) (hco : fd.scope.isCoroutine = false) (hgen : fd.scope.isGenerator = false) (hbody : fd.body = .stmts body) (hcd : s.heap.CodeRec fd.code fd.qualname)
    (h : wpN (model prog w) A.in1 (PySem.bindArgs fd args) (fun binds s₁ =>
      wpN (model prog w) A.in1 (newFunctionEnv fd.scope fd.globals fd.closure binds (fd.qualname ++ ".<locals>.") (some a) fd.code none fd.builtins)
        (fun env s₂ => s₂.heap.NoLimit ∧ codeN (model prog w) A (.func body env) R s₂) s₁) s) :
    codeN (model prog w) A (.call (.ref a) args) R s := by
  refine codeN_tree rfl ?_
  show wpN _ A.in1 (callAny (.ref a) args) _ s
  simp only [callAny]
  refine wpN_bind (wpN_any (wpAny_load ho ?_))
  obtain ⟨c, oc, vs, tq, hc, hoc, hdc, hq⟩ := hcd
  simp only [hd', callFunction, hco, hgen, hbody, hc]
  rw [hc] at h
  refine wpN_bind (m := field (.ref c) 1) (wpN_any (wpAny_field hoc hdc hq (wpN_bind (wpN_pure ?_))))
  exact wpN_bind (wpN_mono h (fun binds s₁ h₁ => wpN_bind (wpN_mono h₁ (fun env s₂ h₂ => wpN_bind (wpN_any (wpAny_enterFrame h₂.1 hroom (wpN_pure (And.intro rfl h₂.2))))))))
end
theorem BReps.zip {ρ : List Addr} : ∀ {ns : List Str} {vs : List AV} {xs : List Value}, VReps ρ vs xs → BReps ρ (ns.zip vs) (ns.zip xs)
  | [], _, _, _ => by simp [BReps]
  | _ :: _, [], [], _ => by simp [BReps]
  | n :: ns, v :: vs, x :: xs, r => ⟨rfl, r.1, BReps.zip r.2⟩
  | _ :: _, [], _ :: _, r => r.elim
  | _ :: _, _ :: _, [], r => r.elim
theorem BReps.append {ρ : List Addr} : ∀ {bs : List (Str × AV)} {xs : List (Str × Value)} {cs : List (Str × AV)} {ys : List (Str × Value)}, BReps ρ bs xs → BReps ρ cs ys → BReps ρ (bs ++ cs) (xs ++ ys)
  | [], [], _, _, _, r => r
  | _ :: _, _ :: _, _, _, r, r' => ⟨r.1, r.2.1, BReps.append r.2.2 r'⟩
  | [], _ :: _, _, _, r, _ => r.elim
  | _ :: _, [], _, _, r, _ => r.elim
theorem BReps.keys {ρ : List Addr} : ∀ {bs : List (Str × AV)} {xs : List (Str × Value)}, BReps ρ bs xs → xs.map (·.1) = bs.map (·.1)
  | [], [], _ => rfl
  | _ :: _, _ :: _, r => by rw [List.map_cons, List.map_cons, r.1, BReps.keys r.2.2]
  | [], _ :: _, r => r.elim
  | _ :: _, [], r => r.elim
theorem BReps.lookup {ρ : List Addr} {x : Str} {v : AV} : ∀ {bs : List (Str × AV)} {xs : List (Str × Value)}, BReps ρ bs xs → bs.lookup x = some v → ∃ u, xs.lookup x = some u ∧ VRep ρ v u
  | [], [], _, h => by cases h
  | (k, w) :: bs, (k', u) :: xs, r, h => by
    obtain ⟨e, hv, r⟩ := r
    have e : k = k' := e
    subst e
    rw [List.lookup_cons] at h ⊢
    cases hb : (x == k) with
    | true => rw [hb] at h; cases h; exact ⟨u, rfl, hv⟩
    | false => rw [hb] at h; exact BReps.lookup r h
  | [], _ :: _, r, _ => r.elim
  | _ :: _, [], r, _ => r.elim

theorem bindL_get {k : Str → Option NameKind} {x : Str} (hx : k x = some .local) : ∀ (binds : List (Str × Value)) (m : Str → Option Value), (binds.map (·.1)).Nodup → bindL k binds m x = (binds.lookup x).or (m x)
  | [], m, _ => rfl
  | (n, v) :: r, m, hn => by
    rw [List.map_cons, List.nodup_cons] at hn
    unfold bindL
    rw [bindL_get hx r _ hn.2, List.lookup_cons]
    by_cases hxn : x = n
    · subst hxn
      rw [lookup_none hn.1, if_pos hx]
      simp
    · have h1 : (x == n) = false := by simpa using hxn
      rw [h1]
      congr 1
      split
      · exact if_neg hxn
      · rfl
theorem bindC_get {k : Str → Option NameKind} {x : Str} (hx : k x = some .cell) : ∀ (binds : List (Str × Value)) (m : Str → Option Value), (binds.map (·.1)).Nodup → bindC k binds m x = (binds.lookup x).or (m x)
  | [], m, _ => rfl
  | (n, v) :: r, m, hn => by
    rw [List.map_cons, List.nodup_cons] at hn
    unfold bindC
    rw [bindC_get hx r _ hn.2, List.lookup_cons]
    by_cases hxn : x = n
    · subst hxn
      rw [lookup_none hn.1, if_neg (by rw [hx]; intro q; cases q)]
      simp
    · have h1 : (x == n) = false := by simpa using hxn
      rw [h1]
      congr 1
      split
      · rfl
      · exact if_neg hxn

theorem cellsFrom_mem {x : Str} : ∀ (names : List (Str × NameKind)) (n : Nat) (acc : List (Str × Addr)), (∃ c, (x, c) ∈ acc) ∨ (x, NameKind.cell) ∈ names → ∃ c, (x, c) ∈ cellsFrom n names acc
  | [], n, acc, h => by
    rcases h with h | h
    · exact h
    · cases h
  | (y, k) :: r, n, acc, h => by
    unfold cellsFrom
    split
    · rename_i hk
      refine cellsFrom_mem r _ _ ?_
      rcases h with ⟨c, h⟩ | h
      · exact .inl ⟨c, .tail _ h⟩
      · rcases List.mem_cons.mp h with h | h
        · cases h; exact .inl ⟨n, .head _⟩
        · exact .inr h
    · rename_i hk
      refine cellsFrom_mem r _ _ ?_
      rcases h with h | h
      · exact .inl h
      · rcases List.mem_cons.mp h with h | h
        · cases h; exact absurd (by decide) hk
        · exact .inr h
theorem lookup_mem {α : Type} {x : Str} {v : α} : ∀ {l : List (Str × α)}, l.lookup x = some v → (x, v) ∈ l
  | (k, w) :: l, h => by
    rw [List.lookup_cons] at h
    split at h
    · rename_i hk; cases h; simp only [beq_iff_eq] at hk; subst hk; exact .head _
    · exact .tail _ (lookup_mem h)
  | [], h => by cases h
theorem mem_lookup {α : Type} {x : Str} {v : α} : ∀ {l : List (Str × α)}, (x, v) ∈ l → ∃ w, l.lookup x = some w
  | (k, w) :: l, h => by
    rw [List.lookup_cons]
    by_cases hx : x = k
    · subst hx; exact ⟨w, by simp⟩
    · have h1 : (x == k) = false := by simpa using hx
      rw [h1]
      rcases List.mem_cons.mp h with h | h
      · cases h; exact absurd rfl hx
      · exact mem_lookup h
  | [], h => by cases h
theorem apart_lookup {cs : List (Str × Addr)} (h : cs.Pairwise fun x y => x.2 ≠ y.2) {x y : Str} {c : Addr} (hx : cs.lookup x = some c) (hy : cs.lookup y = some c) : x = y := by
  have h1 := lookup_mem hx
  have h2 := lookup_mem hy
  induction cs with
  | nil => cases h1
  | cons p l ih =>
    rw [List.pairwise_cons] at h
    rcases List.mem_cons.mp h1 with e1 | e1
    · rcases List.mem_cons.mp h2 with e2 | e2
      · have := e1.trans e2.symm; cases this; rfl
      · exact absurd (by rw [← e1]) (h.1 _ e2)
    · rcases List.mem_cons.mp h2 with e2 | e2
      · exact absurd (by rw [← e2]) (h.1 _ e1)
      · have hpx : (x == p.1) = false := by
          cases hb : x == p.1 with
          | false => rfl
          | true =>
            rw [List.lookup_cons, hb] at hx
            cases hx
            exact (h.1 (x, p.2) e1 rfl).elim
        have hpy : (y == p.1) = false := by
          cases hb : y == p.1 with
          | false => rfl
          | true =>
            rw [List.lookup_cons, hb] at hy
            cases hy
            exact (h.1 (y, p.2) e2 rfl).elim
        rw [List.lookup_cons, hpx] at hx
        rw [List.lookup_cons, hpy] at hy
        exact ih h.2 hx hy e1 e2

theorem frame_start {X : Cx} {sc' : Scope} {A : Around} {n : Nat} {ρ : List Addr} {s s₁ : Shared} {fd : FuncData} {a : Addr} {bs : Bs} {binds : List (Str × Value)} {σ : Store} {N : Nat} (r : Rep X ρ σ s.heap) (ok : OkA X A N ρ s.heap) (hN : n + 1 ≤ N) (hsc : fd.scope = sc') (hg : fd.globals = mainGlobals) (hb : fd.builtins = builtinsNs)
    (so : ScopeOk sc' (bs.map (·.1))) (B : BReps ρ bs binds)
    (x : InCallC s (callEnvC fd s.heap.objs.size a).locals (bindL (callEnvC fd s.heap.objs.size a).kindOf binds fun _ => none) (callEnvC fd s.heap.objs.size a).cells (bindC (callEnvC fd s.heap.objs.size a).kindOf binds fun _ => none) s₁) :
    Inv X sc' (callEnvC fd s.heap.objs.size a) (A.deeper (callEnvC fd s.heap.objs.size a)) n ρ bs σ s₁ := by
  subst hsc
  have keep := x.toInCall.keep
  have hLn : s.heap.get? s.heap.objs.size = none := Heap.noneOf (Nat.le_refl _)
  have hL0 : X.at s.heap.objs.size = none := by
    cases e : X.at s.heap.objs.size with
    | none => rfl
    | some o => rw [r.keepA _ _ e] at hLn; cases hLn
  have notIn : s.heap.objs.size ∉ ρ := fun h => by
    obtain ⟨o, ho⟩ := r.there h
    rw [ho] at hLn; cases hLn
  have cellNew : ∀ c, s.heap.objs.size < c → s.heap.get? c = none ∧ X.at c = none ∧ c ∉ ρ := fun c hc => by
    have h1 : s.heap.get? c = none := Heap.noneOf (Nat.le_of_lt hc)
    refine ⟨h1, ?_, fun h => ?_⟩
    · cases e : X.at c with
      | none => rfl
      | some o => rw [r.keepA _ _ e] at h1; cases h1
    · obtain ⟨o, ho⟩ := r.there h
      rw [ho] at h1; cases h1
  have hkeys : (binds.map (·.1)).Nodup := by rw [B.keys]; exact so.nodup
  refine ⟨⟨r.len, r.nodup, fun i b bo hb' hbo => ?_, r.newA, fun b o e => keep b o (r.keepA b o e)⟩, ⟨so.kind, hg, hb, fun y k hy => .inl hy, ⟨_, x.toInCall.ns, fun y v hy hv => ?_⟩, notIn, hL0, fun y hy => ?_, fun y z c _ _ h1 h2 => apart_lookup x.apart h1 h2⟩, ⟨ok.handled, ?_, ?_, ?_⟩⟩
  · obtain ⟨o, e, q⟩ := r.obj i b bo hb' hbo
    exact ⟨o, keep b o e, q⟩
  · obtain ⟨u, hu, hvu⟩ := B.lookup hv
    exact ⟨u, by rw [bindL_get hy _ _ hkeys, hu]; rfl, hvu⟩
  · rcases hy with hy | hy
    · obtain ⟨c, hc⟩ := cellsFrom_mem fd.scope.names (s.heap.objs.size + 1) [] (.inr (lookup_mem hy))
      obtain ⟨c', hc'⟩ := mem_lookup hc
      have hab := x.above y c' (lookup_mem hc')
      obtain ⟨_, h2, h3⟩ := cellNew c' hab
      refine ⟨c', _, hc', x.cell y c' hc', .inl ⟨h3, h2⟩, fun v hv => ?_⟩
      obtain ⟨u, hu, hvu⟩ := B.lookup hv
      exact ⟨u, by rw [bindC_get hy _ _ hkeys, hu]; rfl, hvu⟩
    · exact absurd hy (so.noFree y)
  · have := ok.depth
    show A.depth + 1 + 2 * n < 900
    lia
  · have := ok.units
    show A.units + 3 + 20 * n < 9000
    lia
  · obtain ⟨fr, h1, h2⟩ := ok.frames
    refine ⟨callEnvC fd s.heap.objs.size a :: fr, ?_, fun e he => ?_⟩
    · show A.frames.map _ = _
      rw [h1]; rfl
    · rcases List.mem_cons.mp he with rfl | he
      · obtain ⟨o, es, ep, ho, hd, _⟩ := x.toInCall.ns
        exact ⟨so.kind, _, o, es, ep, rfl, ho, hd, notIn, hL0⟩
      · obtain ⟨hk, L, o, es, ep, hf, ho, hd, hn, hbn⟩ := h2 e he
        exact ⟨hk, L, o, es, ep, hf, keep _ _ ho, hd, hn, hbn⟩

theorem frame_end {X : Cx} {sc sc' : Scope} {env : Env} {A A' : Around} {n n' : Nat} {ρ ρ' : List Addr} {s s₁ s' : Shared} {bs bs' : Bs} {σ σ' : Store} {fd : FuncData} {a : Addr} {m cm : Str → Option Value} (i : Inv X sc env A n ρ bs σ s)
    (x : InCallC s (callEnvC fd s.heap.objs.size a).locals m (callEnvC fd s.heap.objs.size a).cells cm s₁) (i' : Inv X sc' (callEnvC fd s.heap.objs.size a) A' n' ρ' bs' σ' s') (g : Grow (Own sc' (callEnvC fd s.heap.objs.size a)) ρ s₁ ρ' s') : Inv X sc env A n ρ' bs σ' s' ∧ Grow (Own sc env) ρ s ρ' s' := by
  have keep := x.toInCall.keep
  obtain ⟨h1, tk, e1⟩ := x.toInCall.same
  have g0 : Grow (Own sc' (callEnvC fd s.heap.objs.size a)) ρ s ρ s₁ := Grow.ext keep (by rw [e1]) (by rw [e1])
  have g2 : Grow noOwn ρ s ρ' s' := (g0.trans g).own fun b hb => .inr (by
    rcases hb with rfl | ⟨y, hy, hc⟩
    · exact Heap.noneOf (Nat.le_refl _)
    · exact Heap.noneOf (Nat.le_of_lt (x.above y b (lookup_mem hc))))
  exact ⟨i.step g2 i'.rep, g2.weaken⟩
theorem DfltAt.keeps {h h' : Heap} {v : Value} {D : List Value} (x : DfltAt h v D) (k : ∀ b o, h.get? b = some o → h'.get? b = some o) : DfltAt h' v D := by
  rcases x with x | ⟨T, o, n, e, ho, hd⟩
  · exact .inl x
  · exact .inr ⟨T, o, n, e, k _ _ ho, hd⟩
namespace H
variable {P : Prog} {n : Nat} {sc : Scope} {α β γ δ : Type} {bs bs' : Bs} {σ : Store} {Q : α → Bs → Store → Prop}
noncomputable def stree (t : Env → Sem Flow) : Mm P n sc Fl := ⟨Flow, fun K ρ s R => Top K.env K.A → wpN K.M K.A (t K.env) R s, fun d h tp => wpN_mono (d tp) h, FRep⟩
noncomputable def execs (P : Prog) (n : Nat) (sc : Scope) (ss : List Stmt) : Mm P n sc Fl := stree (PySem.execs ss)
noncomputable def exec (P : Prog) (n : Nat) (sc : Scope) (t : Stmt) : Mm P n sc Fl := stree (PySem.exec t)
noncomputable def callA (P : Prog) (n : Nat) (a : Addr) (args : List AV) : Mm P n sc AV := ⟨Value, fun K ρ s R => (∃ o fd, K.X.h₀.get? a = some o ∧ o.data = .func fd) ∧ ∀ vals, VReps ρ args vals → codeN K.M K.A (.call (.ref a) ⟨vals, []⟩) (fun f s' => ∃ u, f = .ret u ∧ R u s') s,
  fun d h => ⟨d.1, fun vals hv => codeN_mono (d.2 vals hv) fun f s' ⟨u, e, q⟩ => ⟨u, e, h _ _ q⟩⟩, VRep⟩
def EndQ (bs : Bs) (Q : AV → Bs → Store → Prop) (fl : Fl) (_ : Bs) (σ : Store) : Prop := match fl with
  | .ret v => Q v bs σ
  | .next => Q .none bs σ
  | _ => False
theorem run_frame {sc' : Scope} {K : Cfg P (n + 1) sc} {ρ : List Addr} {s : Shared} {fd : FuncData} {a : Addr} {bs₀ : Bs} {binds : List (Str × Value)} {body : List Stmt} {Q : AV → Bs → Store → Prop} (hsc : fd.scope = sc') (hg : fd.globals = mainGlobals) (hb : fd.builtins = builtinsNs) (hclo : fd.closure = [])
    (so : ScopeOk sc' (bs₀.map (·.1))) (i : K.I ρ bs σ s) (B : BReps ρ bs₀ binds) (h : Hx (execs P n sc' body) bs₀ σ (EndQ bs Q)) :
    wpN K.M K.A.in1 (newFunctionEnv fd.scope fd.globals fd.closure binds (fd.qualname ++ ".<locals>.") (some a) fd.code none fd.builtins)
      (fun env' s₂ => s₂.heap.NoLimit ∧ codeN K.M K.A (.func body env') (fun f s' => ∃ u, f = .ret u ∧ PostK K ρ s VRep Q u s') s₂) s := by
  rw [hclo]
  refine wpN_any (wpAny_newFunctionEnv_cells (by rw [hsc]; exact so.kind) (fun y hy => ?_) fun env' he s₁ x => ?_)
  · have hm : y.1 ∈ bs₀.map (·.1) := by rw [← B.keys]; exact List.mem_map_of_mem hy
    rw [hsc]
    rcases so.params _ hm with h | h
    · exact .inl h
    · obtain ⟨c, hc⟩ := cellsFrom_mem sc'.names (s.heap.objs.size + 1) [] (.inr (lookup_mem h))
      obtain ⟨c', hc'⟩ := mem_lookup hc
      exact .inr ⟨h, by rw [hc']; rfl⟩
  · have he' : env' = callEnvC fd s.heap.objs.size a := he
    subst he'
    have keep := x.toInCall.keep
    refine ⟨K.F.limit.keeps fun b o e => keep _ _ (i.rep.keep b o e), codeN_func ?_⟩
    have i' := frame_start (n := n) i.rep i.ok K.hN hsc hg hb so B x
    have tp : Top (callEnvC fd s.heap.objs.size a) (K.A.deeper (callEnvC fd s.heap.objs.size a)) := let ⟨fr, h, _⟩ := i.ok.frames; ⟨fr, Around.frames_deeper h⟩
    refine wpN_mono (h ⟨K.X, callEnvC fd s.heap.objs.size a, K.A.deeper (callEnvC fd s.heap.objs.size a), n, K.hP, K.F, Nat.le_refl n⟩ ρ s₁ i' tp) fun f s' d => ?_
    cases d with
    | mk fl b σ' ρ' q i₂ g v =>
      obtain ⟨j, g'⟩ := frame_end i x i₂ g
      cases fl with
      | ret w => obtain ⟨u, rfl, hu⟩ := v; exact ⟨u, rfl, w, bs, σ', ρ', q, j, g', hu⟩
      | next => cases v; exact ⟨.none, rfl, .none, bs, σ', ρ', q, j, g', rfl⟩
      | brk => exact q.elim
      | cont => exact q.elim
end H
end Mine
end

section
namespace Mine.H
open PySem PySem.W PyProof.Rows PySem.Calls
variable {P : Prog} {n : Nat} {sc : Scope} {α β γ δ : Type} {bs bs' : Bs} {σ : Store} {Q : α → Bs → Store → Prop}
theorem call_open {K : Cfg P (n + 1) sc} {ρ : List Addr} {s : Shared} {a : Addr} {fn : Fn} {o : Obj} {fd : FuncData} {D : List Value} {vals : List Value} {R : Flow → Shared → Prop} (i : K.I ρ bs σ s) (ok : FnOk K.X a fn o fd D)
    (h : wpN K.M K.A.in1 (PySem.bindArgs fd ⟨vals, []⟩) (fun binds s₁ => wpN K.M K.A.in1 (newFunctionEnv fd.scope fd.globals fd.closure binds (fd.qualname ++ ".<locals>.") (some a) fd.code none fd.builtins) (fun env s₂ => s₂.heap.NoLimit ∧ codeN K.M K.A (.func fn.body env) R s₂) s₁) s) :
    codeN K.M K.A (.call (.ref a) ⟨vals, []⟩) R s := by
  have hroom : K.A.depth < recursionLimit := by have := i.ok.depth; unfold recursionLimit; lia
  exact codeN_call_function hroom (i.rep.keep _ _ ok.obj) ok.data ok.co ok.gen ok.body (ok.code.keeps i.rep.keep) h
theorem hx_callA {a : Addr} {fn : Fn} {args : List AV} {bs₀ : Bs} {rest : List AV} {Q : AV → Bs → Store → Prop} (hm : P.maker a = Option.none) (hf : P.fn a = some fn) (hva : fn.vararg = Option.none) (hb : bindArgs fn (P.dflt a) args = some (bs₀, rest))
    (h : Hx (execs P n fn.scope fn.body) bs₀ σ fun fl _ σ' => match fl with | .ret v => Q v bs σ' | .next => Q .none bs σ' | _ => False) : Hx (callA P (n + 1) a args : Mm P (n + 1) sc AV) bs σ Q := fun K ρ s i => by
  obtain ⟨o, fd, D, ok⟩ := K.F.fn a fn (by rw [K.hP]; exact hf)
  refine ⟨⟨o, fd, ok.obj, ok.data⟩, fun vals hv => ?_⟩
  refine call_open i ok ?_
  have hD : DfltAt s.heap fd.defaults D := ok.dflt.keeps i.rep.keep
  have hlen := hv.length
  have hdr := ok.dreps ρ
  rw [K.hP] at hdr
  have hdl := hdr.length
  unfold bindArgs at hb
  dsimp only at hb
  rw [hva] at hb
  by_cases hle : args.length ≤ fn.params.length
  · rw [if_pos hle] at hb
    by_cases hneed : fn.params.length - args.length ≤ (P.dflt a).length
    · rw [if_pos hneed] at hb
      cases hb
      have hnm := ok.names
      rw [hva, Option.toList_none, List.append_nil] at hnm
      have hdle := ok.dlen
      refine wpN_any (wp_bindArgs (hva ▸ ok.shape) hnm.nodup hD hdle (Nat.le_trans (Nat.le_of_eq hlen) hle) (by rw [hlen, hdl]; exact hneed) ?_)
      have B : BReps ρ (fn.params.zip (args ++ (P.dflt a).drop ((P.dflt a).length - (fn.params.length - args.length)))) (fn.params.zip (vals ++ D.drop (D.length - (fn.params.length - vals.length)))) := by
        refine BReps.zip (hv.append ?_)
        rw [hlen, hdl]
        exact hdr.drop _
      refine run_frame ok.scope ok.glob ok.bi ok.clo ?_ i B h
      rw [List.map_fst_zip (by rw [List.length_append, List.length_drop, Nat.sub_sub_self hneed, Nat.add_sub_cancel' hle]; exact Nat.le_refl _)]
      exact hnm
    · rw [if_neg hneed] at hb; cases hb
  · rw [if_neg hle] at hb; cases hb
theorem hx_callAV {a : Addr} {fn : Fn} {x : Str} {args : List AV} {bs₀ : Bs} {rest : List AV} {Q : AV → Bs → Store → Prop} (hm : P.maker a = Option.none) (hf : P.fn a = some fn) (hva : fn.vararg = some x) (hb : bindArgs fn (P.dflt a) args = some (bs₀, rest)) (hl : rest.length ≤ 1000000)
    (h : Hx (execs P n fn.scope fn.body) (bs₀ ++ [(x, .ref σ.length)]) (σ ++ [.tuple rest]) fun fl _ σ' => match fl with | .ret v => Q v bs σ' | .next => Q .none bs σ' | _ => False) : Hx (callA P (n + 1) a args : Mm P (n + 1) sc AV) bs σ Q := fun K ρ s i => by
  obtain ⟨o, fd, D, ok⟩ := K.F.fn a fn (by rw [K.hP]; exact hf)
  refine ⟨⟨o, fd, ok.obj, ok.data⟩, fun vals hv => ?_⟩
  refine call_open i ok ?_
  have hD : DfltAt s.heap fd.defaults D := ok.dflt.keeps i.rep.keep
  have hlen := hv.length
  have hdr := ok.dreps ρ
  rw [K.hP] at hdr
  have hdl := hdr.length
  have hD0 : D = [] := ok.dva (by rw [hva]; rfl)
  subst hD0
  have hd0 : P.dflt a = [] := List.eq_nil_of_length_eq_zero hdl.symm
  have hparts : fn.params.length ≤ args.length ∧ bs₀ = fn.params.zip (args.take fn.params.length) ∧ rest = args.drop fn.params.length := by
    unfold bindArgs at hb
    dsimp only at hb
    rw [hd0, hva] at hb
    by_cases hle : args.length ≤ fn.params.length
    · rw [if_pos hle] at hb
      by_cases hneed : fn.params.length - args.length ≤ ([] : List AV).length
      · rw [if_pos hneed] at hb
        cases hb
        have hneed : fn.params.length - args.length ≤ 0 := hneed
        exact ⟨by lia, by rw [List.drop_nil, List.append_nil, List.take_of_length_le (by lia)], by rw [List.drop_of_length_le (by lia)]⟩
      · rw [if_neg hneed] at hb; cases hb
    · rw [if_neg hle] at hb
      cases hb
      exact ⟨by lia, rfl, rfl⟩
  obtain ⟨hle, rfl, rfl⟩ := hparts
  have hnm := ok.names
  rw [hva, Option.toList_some] at hnm
  refine wpN_any (wp_bindArgsV (hva ▸ ok.shape) (List.nodup_append.mp hnm.nodup).1 hD (by lia) (wpAny_newTuple ?_ ?_))
  · rw [List.length_drop] at hl
    have k := push_keeps s.heap { cls := .type "tuple", data := .seq (vals.drop fn.params.length).toArray }
    have hn : s.heap.get? s.heap.objs.size = Option.none := Heap.noneOf (Nat.le_refl _)
    have r := i.rep.alloc (ao := .tuple (args.drop fn.params.length)) k hn (Heap.get?_push_size _ rfl) ⟨⟨_, _, rfl, (hv.drop fn.params.length).mono (List.prefix_append ..)⟩, by rw [List.length_drop]; exact hl⟩
    have i1 := i.step (s' := { s with heap := s.heap.push { cls := .type "tuple", data := .seq (vals.drop fn.params.length).toArray } }) (Grow.alloc k hn rfl rfl) r
    have g1 : Grow (Own sc K.env) ρ s (ρ ++ [s.heap.objs.size]) { s with heap := s.heap.push { cls := .type "tuple", data := .seq (vals.drop fn.params.length).toArray } } := Grow.alloc k hn rfl rfl
    have B : BReps (ρ ++ [s.heap.objs.size]) (fn.params.zip (args.take fn.params.length) ++ [(x, .ref σ.length)]) (fn.params.zip (vals.take fn.params.length) ++ [(x, .ref s.heap.objs.size)]) :=
      BReps.append (BReps.zip ((hv.take _).mono (List.prefix_append ..))) ⟨rfl, vrep_new i _, trivial⟩
    have so : ScopeOk fn.scope ((fn.params.zip (args.take fn.params.length) ++ [(x, AV.ref σ.length)]).map (·.1)) := by
      rw [List.map_append, List.map_fst_zip (by rw [List.length_take]; lia)]
      exact hnm
    refine wpN_mono (run_frame ok.scope ok.glob ok.bi ok.clo so i1 B h) fun env' s₂ h => ⟨h.1, codeN_mono h.2 fun f s' hq => ?_⟩
    obtain ⟨u, rfl, hd⟩ := hq
    exact ⟨u, rfl, hd.trans g1⟩
  · rw [List.length_drop] at hl
    rw [List.length_drop, sizeLine_eq]
    lia
end Mine.H
end

section
namespace Mine
open PySem PySem.W PyProof.Rows PySem.Calls
section
variable {prog : Program} {w : World} {A : Around} {C : Addr} {s : Shared} {R : Flow → Shared → Prop}

theorem codeN_call_builtin {id : String} {args : Args} {b : Builtin} (hf : heldIds.contains id = false) (hq : (Code.builtin id args).quiet = true) (hb : entryFor table id = some b)
    (h : wpN (model prog w) A.in1 (checkBuiltinCall id args) (fun _ s₁ => wpN (model prog w) (A.under (.builtin id args)) (b args) (Turns (model prog w) A R) s₁) s) : codeN (model prog w) A (.call (.builtin id) args) R s := by
  refine codeN_tree rfl ?_
  show wpN _ A.in1 (do checkBuiltinCall id args; again (.builtin id args)) _ s
  exact wpN_bind (wpN_mono h fun _ s₁ h₁ => wpN_pure ⟨hq, codeN_builtin hf hb h₁⟩)

theorem codeN_make {rest : List Value} {fi : Addr} (Y : Makes (model prog w) s.heap C) (hi : Looks (model prog w) s.heap (typeLookup (.ref C) "__init__") (some (.ref fi)))
    (hb : ∀ self, Looks (model prog w) s.heap (bindSpecial (.ref fi) self) (.ref fi, [self]))
    (hq : codeN (model prog w) (A.under (.builtin "type.__call__" ⟨.ref C :: rest, []⟩)) (.call (.ref fi) ⟨.ref (s.heap.objs.size + 1) :: rest, []⟩)
      (fun f s' => f = .ret .none ∧ R (.ret (.ref (s.heap.objs.size + 1))) s') { s with heap := (s.heap.push emptyDict).push (instObj C s.heap.objs.size) }) :
    codeN (model prog w) A (.call (.ref C) ⟨rest, []⟩) R s := by
  obtain ⟨h, g, d, t, os⟩ := s
  dsimp only at Y hi hb hq
  have Y' := Y
  obtain ⟨⟨oc, od, cd, sl, hC, e1, e2, e4⟩, made, base, self, top, call, typ⟩ := Y
  refine codeN_tree rfl ?_
  show wpN _ _ (callAny (.ref C) _) _ _
  unfold callAny
  dsimp only
  refine wpN_bind (wpN_any (wpAny_load hC ?_))
  show wpN _ _ (callAny.viaDunder (.ref C) _) _ _
  unfold callAny.viaDunder
  refine wpN_bind (wpN_any (call.at ?_))
  dsimp only
  rw [tc_bind]
  refine wpN_bind (wpN_pure (wpN_bind (wpN_pure ?_)))
  refine wpN_pure (a := Fin.again (.call (.builtin "type.__call__") ⟨.ref C :: rest, []⟩)) (And.intro rfl ?_)
  refine codeN_call_builtin (by decide +kernel) (Code.quiet_builtin _ (by decide +kernel)) entry_typeCall (wpN_any (check_slot tc_kind tc_split typ (tc_args _ _ _) ?_))
  unfold Builtin.«type.__call__»
  have hm : Looks (model prog w) h (mroOf (.ref C)) cd.mro := ((Looks.ld (part := none) hC).andThen .now).andThen .now
  dsimp only
  refine wpN_false rfl ?_
  refine wpN_bind (wpN_any (hm.at ?_))
  refine wpN_false e4 ?_
  refine wpN_bind (wpN_any (made.at ?_))
  dsimp only
  refine wpN_bind (wpN_pure ?_)
  refine wpN_bind (wpN_holding (wpN_any (wpAny_call (new_K Y' hi (.inl rfl) ?_))))
  have k : ∀ b o, h.get? b = some o → ((h.push emptyDict).push (instObj C h.objs.size)).get? b = some o := fun b o e => Heap.get?_push_of_some _ (Heap.get?_push_of_some _ e)
  have hx : ((h.push emptyDict).push (instObj C h.objs.size)).get? (h.objs.size + 1) = some (instObj C h.objs.size) := by heap_get
  have t1 : Looks (model prog w) ((h.push emptyDict).push (instObj C h.objs.size)) (typeOf (.ref (h.objs.size + 1))) (.ref C) := (Looks.ld hx).andThen .now
  have s1 := self.keeps k
  have i1 := hi.keeps k
  have b1 := (hb (.ref (h.objs.size + 1))).keeps k
  refine wpN_bind ?_
  unfold isInstance
  refine wpN_bind (wpN_any (t1.at (wpN_any (s1.at ?_))))
  refine wpN_false rfl ?_
  refine wpN_bind (wpN_holding ?_)
  unfold callSpecial? specialOf
  refine wpN_bind (wpN_bind (wpN_any (t1.at (wpN_any (i1.at ?_)))))
  dsimp only
  refine wpN_holding (wpN_bind (wpN_any (b1.at (wpN_bind (wpN_call (codeN_mono hq fun f s' z => ?_))))))
  obtain ⟨rfl, z⟩ := z
  exact wpN_pure (wpN_pure z)
end

section
variable {prog : Program} {w : World} {A : Around} {s : Shared}

theorem wpN_keep {α : Type} {M : Model} {vs : List Value} {m : Sem α} {Q : α → Shared → Prop} (h : wpN M A m Q s) : wpN M A (m.keep vs) Q s := .mk fun Γ p hΓ hc hb => by
  rw [Sem.wp_keep]; exact h.go Γ p hΓ hc hb

theorem wpN_callWith {M : Model} {pos : Pos} {f : Value} {first : List Value} {args : List (Bool × Sem Value)} {Q : Value → Shared → Prop}
    (h : wpN M A (evalArgs f true args []) (fun a s₁ => wpN M A (keeperOf f) (fun _ s₂ => wpN M A (call f (first ++ a.pos) a.kw) Q s₂) s₁) s) : wpN M A (callWith pos f first args []) Q s := by
  unfold callWith
  refine wpN_bind (wpN_holding (wpN_mono h fun a s₁ h₁ => wpN_bind (wpN_standAt ?_)))
  dsimp only
  refine wpN_bind (wpN_mono h₁ fun k s₂ h₂ => ?_)
  have tail : ∀ {t : Sem Value}, wpN M A t Q s₂ → wpN M A (t >>= fun r => holding [r] point >>= fun _ => pure r) Q s₂ :=
    fun ht => wpN_bind (wpN_mono ht fun r s₃ hr => wpN_bind (wpN_holding (wpN_point (wpN_pure hr))))
  have hm : ∀ mark, wpN M A (callMarked mark f (first ++ a.pos) a.kw) Q s₂ := fun mark => wpN_keep h₂
  split
  · exact tail (hm _)
  · split
    · exact tail h₂
    · exact tail (hm _)
  · split
    · exact tail h₂
    · exact tail (hm _)
  · exact tail h₂
  · exact tail (H.wpN_operate h₂)

theorem keeper_builtin {M : Model} {id : String} {Q : Keeper → Shared → Prop} (h : ∀ k, Q k s) : wpN M A (keeperOf (.builtin id)) Q s := wpN_pure (h _)
theorem keeper_type {M : Model} {T : String} {Q : Keeper → Shared → Prop} (h : ∀ k, Q k s) : wpN M A (keeperOf (.type T)) Q s := wpN_pure (h _)
theorem keeper_func {M : Model} {a : Addr} {o : Obj} {fd : FuncData} {Q : Keeper → Shared → Prop} (ho : s.heap.get? a = some o) (hd : o.data = .func fd) (h : ∀ k, Q k s) : wpN M A (keeperOf (.ref a)) Q s := by
  unfold keeperOf
  refine wpN_bind (wpN_any (wpAny_load ho ?_))
  rw [hd]
  exact wpN_pure (h _)
theorem keeper_class {C : Addr} {Q : Keeper → Shared → Prop} (Y : Makes (model prog w) s.heap C) (h : ∀ k, Q k s) : wpN (model prog w) A (keeperOf (.ref C)) Q s := by
  obtain ⟨⟨oc, od, cd, sl, hC, e1, e2, e4⟩, made, base, self, top, call, typ⟩ := Y
  unfold keeperOf
  refine wpN_bind (wpN_any (wpAny_load hC ?_))
  dsimp only
  refine wpN_bind (wpN_any (call.here ?_))
  exact wpN_pure (h _)
theorem keeper_bound {M : Model} {b f : Addr} {u : Value} {o : Obj} {fd : FuncData} {Q : Keeper → Shared → Prop} (hb : s.heap.get? b = some (methodObj (.ref f) u)) (ho : s.heap.get? f = some o) (hd : o.data = .func fd) (h : ∀ k, Q k s) : wpN M A (keeperOf (.ref b)) Q s := by
  unfold keeperOf
  refine wpN_bind (wpN_any (wpAny_load hb ?_))
  dsimp only
  refine wpN_false rfl ?_
  show wpN _ _ (load f >>= _) _ _
  refine wpN_bind (wpN_any (wpAny_load ho ?_))
  exact wpN_pure (h _)

theorem call_bound {b f : Addr} {x : Value} {vals : List Value} {R : Flow → Shared → Prop} (hb : s.heap.get? b = some (methodObj (.ref f) x)) (h : codeN (model prog w) A (.call (.ref f) ⟨x :: vals, []⟩) R s) : codeN (model prog w) A (.call (.ref b) ⟨vals, []⟩) R s := by
  refine codeN_tree rfl ?_
  show wpN _ A.in1 (callAny (.ref b) _) _ _
  unfold callAny
  refine wpN_bind (wpN_any (wpAny_load hb ?_))
  exact wpN_pure ⟨rfl, h⟩
end
theorem under_make (A : Around) (C : Addr) (vals : List Value) : (A.under (.builtin "type.__call__" ⟨.ref C :: vals, []⟩)).handled = A.handled ∧ (A.under (.builtin "type.__call__" ⟨.ref C :: vals, []⟩)).depth = A.depth + 1 ∧
    (A.under (.builtin "type.__call__" ⟨.ref C :: vals, []⟩)).units = A.units + 1 ∧ (A.under (.builtin "type.__call__" ⟨.ref C :: vals, []⟩)).frames = A.frames := ⟨rfl, rfl, rfl, by show pushEnvs [] A.frames = _; rfl⟩
namespace H
variable {P : Prog} {n : Nat} {sc : Scope} {α β γ δ : Type} {bs bs' : Bs} {σ : Store} {Q : α → Bs → Store → Prop}
noncomputable def callV (P : Prog) (n : Nat) (f : AV) (args : List AV) : Mm P n sc AV := ⟨Value, fun K ρ s R => ∀ u vals, VRep ρ f u → VReps ρ args vals → wpN K.M K.A (keeperOf u) (fun _ s₂ => s₂ = s) s ∧ wpN K.M K.A (call u vals) R s,
  fun d h u vals h1 h2 => ⟨(d u vals h1 h2).1, wpN_mono (d u vals h1 h2).2 h⟩, VRep⟩
theorem wpN_called {M : Model} {A : Around} {s : Shared} {f : Value} {vals : List Value} {R : Value → Shared → Prop} (h : codeN M A (.call f ⟨vals, []⟩) (fun f s' => ∃ u, f = .ret u ∧ R u s') s) : wpN M A (call f vals) R s := wpN_call (codeN_mono h fun f s' h => by obtain ⟨u, rfl, hd⟩ := h; exact hd)
theorem hx_callB {id : String} {args : List AV} {Q : AV → Bs → Store → Prop} (h : Hx (builtinV id args : Mm P n sc AV) bs σ Q) : Hx (callV P n (.ext (.builtin id)) args : Mm P n sc AV) bs σ Q := fun K ρ s i u vals hu hv => by
  cases hu
  exact ⟨keeper_builtin fun _ => rfl, h K ρ s i vals hv⟩
theorem hx_callT {id : String} {args : List AV} {Q : AV → Bs → Store → Prop} (h : Hx (typeV id args : Mm P n sc AV) bs σ Q) : Hx (callV P n (.ext (.type id)) args : Mm P n sc AV) bs σ Q := fun K ρ s i u vals hu hv => by
  cases hu
  exact ⟨keeper_type fun _ => rfl, h K ρ s i vals hv⟩
theorem hx_callF {a : Addr} {args : List AV} {Q : AV → Bs → Store → Prop} (hc : P.isCls a = false) (h : Hx (callA P n a args : Mm P n sc AV) bs σ Q) : Hx (callV P (n + 1) (.ext (.ref a)) args : Mm P (n + 1) sc AV) bs σ Q := fun K ρ s i u vals hu hv => by
  cases hu
  obtain ⟨⟨o, fd, ho, hd⟩, h⟩ := h K.down ρ s i
  exact ⟨keeper_func (i.rep.keep _ _ ho) hd fun _ => rfl, wpN_called (h vals hv)⟩
theorem new_obj {C fi : Addr} {args : List AV} {ao : AO} {Q : AV → Bs → Store → Prop} (hC : P.isCls C = true) (hi : P.meth C "__init__" = some fi)
    (hor : ∀ (X : Cx) (ρ : List Addr) (d : Addr), ρ[σ.length]? = some d → OR X ρ (instObj C d) ao)
    (h : Hx (callA P n fi (.ref (σ.length + 1) :: args) : Mm P n sc AV) bs (σ ++ [.ns []] ++ [ao]) fun v bs' σ' => v = .none ∧ Q (.ref (σ.length + 1)) bs' σ') : Hx (callV P (n + 1) (.ext (.ref C)) args : Mm P (n + 1) sc AV) bs σ Q := fun K ρ s i u vals hu hv => by
  cases hu
  have Kh := kin_here K.F i
  have C' := K.F.cls C (by rw [K.hP]; exact hC)
  have M' := K.F.meth C "__init__" fi (by rw [K.hP]; exact hC) (by rw [K.hP]; exact hi)
  refine ⟨keeper_class (makes_of Kh C'.makes) fun _ => rfl, ?_⟩
  refine wpN_call (codeN_make (makes_of Kh C'.makes) (looks_findIn Kh M'.find) (fun self => bind_fn Kh self M'.ty) ?_)
  obtain ⟨u1, u2, u3, u4⟩ := under_make K.A C vals
  generalize hA' : K.A.under (.builtin "type.__call__" ⟨.ref C :: vals, []⟩) = A' at u1 u2 u3 u4 ⊢
  have k1 := push_keeps s.heap emptyDict
  have k2 := push_keeps (s.heap.push emptyDict) (instObj C s.heap.objs.size)
  have r1 : Rep K.X (ρ ++ [s.heap.objs.size]) (σ ++ [.ns []]) (s.heap.push emptyDict) :=
    i.rep.alloc k1 (Heap.noneOf (Nat.le_refl _)) (Heap.get?_push_size _ rfl) ⟨rfl, rfl, rfl, ⟨#[], _, rfl, trivial⟩, List.Pairwise.nil, Nat.zero_le _⟩
  have hsz : (s.heap.push emptyDict).objs.size = s.heap.objs.size + 1 := Heap.size_push _ _
  have hlen := i.rep.len
  have hda : (ρ ++ [s.heap.objs.size] ++ [s.heap.objs.size + 1])[σ.length]? = some s.heap.objs.size := by
    rw [← hlen, List.append_assoc, List.getElem?_append_right (Nat.le_refl _), Nat.sub_self]; rfl
  have hat : ((s.heap.push emptyDict).push (instObj C s.heap.objs.size)).get? (s.heap.objs.size + 1) = some (instObj C s.heap.objs.size) := by rw [← hsz]; exact Heap.get?_push_size _ rfl
  have r2 : Rep K.X (ρ ++ [s.heap.objs.size] ++ [s.heap.objs.size + 1]) (σ ++ [.ns []] ++ [ao]) ((s.heap.push emptyDict).push (instObj C s.heap.objs.size)) :=
    r1.alloc k2 (Heap.noneOf (by rw [hsz]; exact Nat.le_refl _)) hat (hor _ _ _ hda)
  have g : ∀ own, Grow own ρ s (ρ ++ [s.heap.objs.size] ++ [s.heap.objs.size + 1]) { s with heap := (s.heap.push emptyDict).push (instObj C s.heap.objs.size) } := fun own =>
    (Grow.alloc (s' := { s with heap := s.heap.push emptyDict }) k1 (Heap.noneOf (Nat.le_refl _)) rfl rfl).trans
      (Grow.alloc (s := { s with heap := s.heap.push emptyDict }) k2 (Heap.noneOf (by show (s.heap.push emptyDict).objs.size ≤ _; rw [hsz]; exact Nat.le_refl _)) rfl rfl)
  have i2 := i.step (g _) r2
  have hN := K.hN
  have i3 : Inv K.X sc K.env A' n (ρ ++ [s.heap.objs.size] ++ [s.heap.objs.size + 1]) bs (σ ++ [.ns []] ++ [ao]) { s with heap := (s.heap.push emptyDict).push (instObj C s.heap.objs.size) } := by
    refine ⟨i2.rep, i2.fr, ⟨by rw [u1]; exact i2.ok.handled, ?_, ?_, by rw [u4]; exact i2.ok.frames⟩⟩
    · have := i2.ok.depth; rw [u2]; lia
    · have := i2.ok.units; rw [u3]; lia
  have hself : VRep (ρ ++ [s.heap.objs.size] ++ [s.heap.objs.size + 1]) (.ref (σ.length + 1)) (.ref (s.heap.objs.size + 1)) := by
    refine ⟨_, ?_, rfl⟩
    rw [List.getElem?_append_right (by simp [hlen])]
    simp [hlen]
  have hv' : VReps (ρ ++ [s.heap.objs.size] ++ [s.heap.objs.size + 1]) (.ref (σ.length + 1) :: args) (.ref (s.heap.objs.size + 1) :: vals) :=
    ⟨hself, hv.mono (by rw [List.append_assoc]; exact List.prefix_append ..)⟩
  refine codeN_mono ((h ⟨K.X, K.env, A', n, K.hP, K.F, Nat.le_refl n⟩ _ _ i3).2 _ hv') fun f s' h => ?_
  obtain ⟨u, rfl, d⟩ := h
  cases d with
  | mk a b σ' ρ' q i' g' v =>
    obtain ⟨rfl, q⟩ := q
    cases v
    exact ⟨rfl, _, b, σ', ρ', q, ⟨i'.rep, i'.fr, ⟨i.ok.handled, i.ok.depth, i.ok.units, u4 ▸ i'.ok.frames⟩⟩, (g _).trans g', hself.mono g'.pre⟩
theorem hx_new_slots {a fi : Addr} {xs : List Str} {args : List AV} {Q : AV → Bs → Store → Prop} (hc : P.isCls a = true) (hs : P.slotsOf a = some xs) (hi : P.meth a "__init__" = some fi)
    (h : Hx (callA P n fi (.ref (σ.length + 1) :: args) : Mm P n sc AV) bs (σ ++ [.ns []] ++ [.slots a σ.length (List.replicate xs.length Option.none)]) fun v bs' σ' => v = .none ∧ Q (.ref (σ.length + 1)) bs' σ') : Hx (callV P (n + 1) (.ext (.ref a)) args : Mm P (n + 1) sc AV) bs σ Q :=
  new_obj (ao := .slots a σ.length (List.replicate xs.length Option.none)) hc hi (fun X ρ d hd => ⟨d, hd, rfl, rfl, rfl, fun j => by
    have : ((List.replicate xs.length (Option.none : Option AV))[j]?).join = Option.none := by
      rw [List.getElem?_replicate]
      by_cases q : j < xs.length
      · rw [if_pos q]; rfl
      · rw [if_neg q]; rfl
    rw [this]; rfl⟩) h
theorem hx_new_inst {a fi : Addr} {args : List AV} {Q : AV → Bs → Store → Prop} (hc : P.isCls a = true) (hs : P.slotsOf a = Option.none) (hi : P.meth a "__init__" = some fi)
    (h : Hx (callA P n fi (.ref (σ.length + 1) :: args) : Mm P n sc AV) bs (σ ++ [.ns []] ++ [.inst a σ.length]) fun v bs' σ' => v = .none ∧ Q (.ref (σ.length + 1)) bs' σ') : Hx (callV P (n + 1) (.ext (.ref a)) args : Mm P (n + 1) sc AV) bs σ Q := new_obj (ao := .inst a σ.length) hc hi (fun X ρ d hd => ⟨d, hd, rfl⟩) h
end H
end Mine
end

section
namespace Mine
open PySem PySem.W PyProof.Rows PySem.Calls
theorem starEach_cons {e : Expr} (h : isStar e = false) (r : List Expr) (env : Env) : starEach (e :: r) env = (false, PySem.eval e env) :: starEach r env := by
  cases e <;> first | rfl | exact absurd h Bool.noConfusion
theorem starAll (es : List Expr) (pos : Pos) (env : Env) : (backTo pos (starEach es env)).all (fun x => !x.1) = noStar es := by
  induction es with
  | nil => rfl
  | cons e r ih =>
    cases e with
    | Starred e' p => rfl
    | _ => exact ih
theorem it_list : typeLookup (.type "list") "__iter__" = pure (some (.builtin "list.__iter__")) := by rw [typeLookup_type, builtinLookup_eq_fast]; kernel_rfl
theorem not_iterable_list {prog : Program} {w : World} {A : Around} {s : Shared} {l : Addr} {xs : Array Value} {m : Nat} {Q : Bool → Shared → Prop} {E : Value → Shared → Prop} (ho : s.heap.get? l = some { cls := .type "list", data := .seq xs m }) (h : Q false s) : wpAny (model prog w) A (notIterableAtAll (.ref l)) Q E s := by
  unfold notIterableAtAll
  refine wpAny_bind (wpAny_specialOf (isList_of ho).typeIs it_list ?_)
  exact wpAny_pure h
theorem plain_arm {f : Expr} (h : plainCallee f = true) (es : List Expr) (pos : Pos) (env : Env) : PySem.eval (.Call f es [] pos) env = (do callWith pos (← PySem.eval f env) [] (backTo pos (starEach es env)) []) := by
  cases f <;> first | rfl | exact absurd h Bool.false_ne_true
namespace H
variable {P : Prog} {n : Nat} {sc : Scope} {α β γ δ : Type} {bs bs' : Bs} {σ : Store} {Q : α → Bs → Store → Prop}
noncomputable def newL (vs : List AV) : Mm P n sc AV := ⟨Value, fun K ρ s R => ∀ xs, VReps ρ vs xs → wpN K.M K.A (newList xs) R s, fun d h xs hx => wpN_mono (d xs hx) h, VRep⟩
noncomputable def newT (vs : List AV) : Mm P n sc AV := ⟨Value, fun K ρ s R => ∀ xs, VReps ρ vs xs → wpN K.M K.A (newTuple xs) R s, fun d h xs hx => wpN_mono (d xs hx) h, VRep⟩
theorem hx_newL {vs : List AV} {Q : AV → Bs → Store → Prop} (hl : vs.length ≤ 1000000) (h : Q (.ref σ.length) bs (σ ++ [.list vs])) : Hx (newL vs : Mm P n sc AV) bs σ Q := fun K ρ s i xs hx => by
  refine wpN_any (wpAny_newObj_type (post_push (ao := .list vs) i rfl ⟨⟨_, _, rfl, hx.mono (List.prefix_append ..)⟩, hl⟩ h (vrep_new i _)) ?_)
  show xs.toArray.size ≤ sizeLine
  rw [List.size_toArray, hx.length, sizeLine_eq]; lia
theorem hx_newT {vs : List AV} {Q : AV → Bs → Store → Prop} (hl : vs.length ≤ 1000000) (h : Q (.ref σ.length) bs (σ ++ [.tuple vs])) : Hx (newT vs : Mm P n sc AV) bs σ Q := fun K ρ s i xs hx => by
  refine wpN_any (wpAny_newObj_type (post_push (ao := .tuple vs) i rfl ⟨⟨_, _, rfl, hx.mono (List.prefix_append ..)⟩, hl⟩ h (vrep_new i _)) ?_)
  show xs.toArray.size ≤ sizeLine
  rw [List.size_toArray, hx.length, sizeLine_eq]; lia
noncomputable def evs (P : Prog) (n : Nat) (sc : Scope) (es : List Expr) : Mm P n sc (List AV) := ⟨List Value, fun K ρ s R => ∀ pos, wpN K.M K.A (spliced (backTo pos (starEach es K.env))) R s, fun d h pos => wpN_mono (d pos) h, VReps⟩
structure ArgsD (K : Cfg P n sc) (es : List Expr) (s : Shared) (pos : Pos) (R : List Value → Shared → Prop) : Prop where
  row : wpN K.M K.A (spliced (backTo pos (starEach es K.env))) R s
  args : ∀ f, wpN K.M K.A (evalArgs f true (backTo pos (starEach es K.env)) []) (fun x s' => R x.pos s' ∧ x.kw = []) s
noncomputable def evArgs (P : Prog) (n : Nat) (sc : Scope) (es : List Expr) : Mm P n sc (List AV) := ⟨List Value, fun K ρ s R => ∀ pos, ArgsD K es s pos R, fun d h pos => ⟨wpN_mono (d pos).row h, fun f => wpN_mono ((d pos).args f) fun u s' q => ⟨h _ _ q.1, q.2⟩⟩, VReps⟩
theorem args_many {M : Model} {A : Around} {s : Shared} {ts : List (Bool × Sem Value)} {R : List Value → Shared → Prop} {f : Value} (hne : ∀ x, ts ≠ [(true, x)]) (h : wpN M A (spliced ts) R s) : wpN M A (evalArgs f true ts []) (fun x s' => R x.pos s' ∧ x.kw = []) s := by
  unfold evalArgs
  dsimp only
  split
  · rename_i x hx
    exact absurd rfl (hne _)
  · refine wpN_bind (wpN_mono h fun vs t₁ d => ?_)
    refine wpN_bind (wpN_pure ?_)
    refine wpN_holding ?_
    refine wpN_true rfl ?_
    exact wpN_bind (wpN_pure (wpN_bind (wpN_pure (wpN_pure ⟨d, rfl⟩))))
theorem row_cons {X : Cx} {env : Env} {A : Around} {N : Nat} {ρ : List Addr} {s : Shared} {t : Sem Value} {ts : List (Bool × Sem Value)} {Q₁ : AV → Bs → Store → Prop} {Q : List AV → Bs → Store → Prop} (h : wpN (model X.prog X.w) A t (Post X sc env A N ρ s VRep Q₁) s)
    (k : ∀ v bs' σ' ρ' s', Q₁ v bs' σ' → Inv X sc env A N ρ' bs' σ' s' → wpN (model X.prog X.w) A (spliced ts) (Post X sc env A N ρ' s' VReps fun vs => Q (v :: vs)) s') : wpN (model X.prog X.w) A (spliced ((false, t) :: ts)) (Post X sc env A N ρ s VReps Q) s := by
  show wpN _ _ (t >>= fun v => pure [v] >>= fun here => (holding here (spliced ts)) >>= fun r => pure (here ++ r)) _ _
  refine thenP h fun v _ _ ρ₁ u t₁ h i₁ p₁ hu => ?_
  refine wpN_bind (wpN_pure ?_)
  refine thenP (wpN_holding (k _ _ _ _ _ h i₁)) fun vs _ _ ρ₂ y t₂ h i₂ p₂ hy => ?_
  exact wpN_pure (post_here i₂ h ⟨hu.mono p₂, hy⟩)
theorem hx_evs0 {Q : List AV → Bs → Store → Prop} (h : Q [] bs σ) : Hx (evs P n sc []) bs σ Q := fun K ρ s i pos => wpN_pure (post_here i h trivial)
theorem hx_evs1 {e : Expr} {r : List Expr} {Q : List AV → Bs → Store → Prop} (hs : isStar e = false) (h : Hx (ev P n sc e) bs σ fun v bs' σ' => Hx (evs P n sc r) bs' σ' fun vs bs'' σ'' => Q (v :: vs) bs'' σ'') : Hx (evs P n sc (e :: r)) bs σ Q := fun K ρ s i pos => by
  rw [starEach_cons hs]
  exact row_cons (ts := backTo pos (starEach r K.env)) (h K ρ s i) fun v bs' σ' ρ' s' q i' => q K ρ' s' i' pos
theorem hx_args0 {Q : List AV → Bs → Store → Prop} (h : Q [] bs σ) : Hx (evArgs P n sc []) bs σ Q := fun K ρ s i pos =>
  have r : wpN K.M K.A (spliced (backTo pos (starEach [] K.env))) (PostK K ρ s VReps Q) s := wpN_pure (post_here i h trivial)
  ⟨r, fun f => args_many (fun x q => by cases q) r⟩
theorem hx_args1 {e : Expr} {r : List Expr} {Q : List AV → Bs → Store → Prop} (hs : isStar e = false) (h : Hx (ev P n sc e) bs σ fun v bs' σ' => Hx (evArgs P n sc r) bs' σ' fun vs bs'' σ'' => Q (v :: vs) bs'' σ'') : Hx (evArgs P n sc (e :: r)) bs σ Q := fun K ρ s i pos => by
  have r : wpN K.M K.A (spliced (backTo pos (starEach (e :: r) K.env))) (PostK K ρ s VReps Q) s := by
    rw [starEach_cons hs]
    exact row_cons (ts := backTo pos (starEach r K.env)) (h K ρ s i) fun v bs' σ' ρ' s' q i' => (q K ρ' s' i' pos).row
  exact ⟨r, fun f => args_many (fun x q => by rw [starEach_cons hs] at q; cases q) r⟩
theorem hx_call {f : Expr} {args : List Expr} {p : Pos} {Q : AV → Bs → Store → Prop} (hf : plainCallee f = true) (h : Hx (ev P n sc f) bs σ fun f bs' σ' => Hx (evArgs P n sc args) bs' σ' fun vs bs'' σ'' => Hx (callV P n f vs : Mm P n sc AV) bs'' σ'' Q) : Hx (ev P n sc (.Call f args [] p)) bs σ Q := fun K ρ s i => by
  show wpN _ _ (PySem.eval _ _) _ _
  rw [plain_arm hf]
  refine thenP (h K ρ s i) fun a _ _ ρ₁ u t₁ h i₁ p₁ hu => ?_
  refine wpN_callWith (wpN_mono ((h K ρ₁ t₁ i₁ p).args u) fun x t₂ d => ?_)
  obtain ⟨d, hkw⟩ := d
  cases d with
  | mk vs b₂ σ₂ ρ₂ h i₂ g₂ hx =>
    obtain ⟨hk, hcall⟩ := h K ρ₂ t₂ i₂ u x.pos (hu.mono g₂.pre) hx
    refine wpN_mono hk fun _ s₂ hs => ?_
    subst hs
    rw [List.nil_append, hkw]
    exact wpN_mono hcall fun _ _ d => d.trans g₂
theorem hx_list {es : List Expr} {p : Pos} {Q : AV → Bs → Store → Prop} (h : Hx (evs P n sc es) bs σ fun vs bs' σ' => Hx (newL vs : Mm P n sc AV) bs' σ' Q) : Hx (ev P n sc (.List es p)) bs σ Q := fun K ρ s i => by
  show wpN _ _ (PySem.eval _ _) _ _
  rw [arm_eval_List]
  exact wpN_stand (thenP (h K ρ s i p) fun vs _ _ ρ₁ xs t₁ h i₁ p₁ hx => h K ρ₁ t₁ i₁ xs hx)
theorem hx_walrus {x : Str} {q p : Pos} {e : Expr} {Q : AV → Bs → Store → Prop} (hx : isLoc sc x = true) (h : Hx (ev P n sc e) bs σ fun v bs' σ' => Q v ((x, v) :: bs') σ') : Hx (ev P n sc (.NamedExpr (.Name x q) e p)) bs σ Q := fun K ρ s i => by
  have hx' : sc.names.lookup x = some .local ∨ sc.names.lookup x = some .cell := by
    unfold isLoc at hx
    cases hk : sc.names.lookup x with
    | none => rw [hk] at hx; cases hx
    | some k => rw [hk] at hx; cases k <;> first | exact .inl rfl | exact .inr rfl | cases hx
  show wpN _ _ (PySem.eval _ _) _ _
  rw [arm_eval_NamedExpr]
  refine thenP (h K ρ s i) fun a _ _ ρ₁ u t₁ h i₁ p₁ hu => ?_
  refine wpN_bind (wpN_holding (wpN_any (wpAny_mono (wpAny_assign_Name (wp_store i₁ hu hx')) (fun _ t₂ d => wpN_pure ?_) fun _ _ x => x)))
  exact ⟨a, _, _, ρ₁, h, d.1, d.2, hu⟩
end H
end Mine
end

section
namespace Mine.H
open PySem PySem.W PyProof.Rows PySem.Calls
variable {P : Prog} {n : Nat} {sc : Scope} {α β γ δ : Type} {bs bs' : Bs} {σ : Store} {Q : α → Bs → Store → Prop}
noncomputable def mcall (P : Prog) (n : Nat) (args : List Expr) (vs : List AV) : MK → Mm P n sc AV
  | .bi id => ⟨Value, fun K ρ s R => noStar args = true ∧ ∀ vals, VReps ρ vs vals → wpN K.M K.A (call (.builtin id) vals) R s, fun d h => ⟨d.1, fun vals hv => wpN_mono (d.2 vals hv) h⟩, VRep⟩
  | .fn f => callA P n f vs
theorem hx_mcallB {args : List Expr} {vs : List AV} {id : String} {Q : AV → Bs → Store → Prop} (hs : noStar args = true) (h : Hx (methB id vs : Mm P n sc AV) bs σ Q) : Hx (mcall P n args vs (.bi id) : Mm P n sc AV) bs σ Q := fun K ρ s i => ⟨hs, h K ρ s i⟩
theorem hx_mcallF {args : List Expr} {vs : List AV} {f : Addr} {Q : AV → Bs → Store → Prop} (h : Hx (callA P n f vs : Mm P n sc AV) bs σ Q) : Hx (mcall P n args vs (.fn f) : Mm P n sc AV) bs σ Q := h
theorem not_own {X : Cx} {env : Env} {A : Around} {N : Nat} {ρ : List Addr} {s : Shared} (i : Inv X sc env A N ρ bs σ s) {b : Addr} (hb : s.heap.get? b = Option.none) : b ∉ ρ ∧ ¬ Own sc env b := by
  refine ⟨fun q => ?_, fun q => ?_⟩
  · obtain ⟨o', ho'⟩ := i.rep.there q
    rw [ho'] at hb; cases hb
  · rcases q with q | ⟨y', hy', hc'⟩
    · obtain ⟨m, hm, _⟩ := i.fr.ns
      obtain ⟨o', ho'⟩ := Heap.Ns.there hm
      rw [← q, hb] at ho'; cases ho'
    · obtain ⟨c, w', g1, g2, _⟩ := i.fr.cell y' (.inl hy')
      rw [hc'] at g1; cases g1
      obtain ⟨o', ho', _⟩ := g2
      rw [hb] at ho'; cases ho'
theorem meth_arm {o : Expr} {x : Str} {ap p : Pos} {args : List Expr} {Q : AV → Bs → Store → Prop} (hc : ap.endLine = p.line ∧ args.length < 30 ∧ notBare o = true)
    (h : Hx (ev P n sc o) bs σ fun o bs' σ' => Hx (findMeth P o x : Mm P n sc MK) bs' σ' fun k bs' σ' => (noStar args = true ∨ ∃ f, k = .fn f) ∧ Hx (evArgs P n sc args) bs' σ' fun vs bs' σ' => Hx (mcall P n args (o :: vs) k : Mm P n sc AV) bs' σ' Q) :
    Hx (ev P n sc (.Call (.Attribute o x ap) args [] p)) bs σ Q := fun K ρ s i => by
  obtain ⟨hline, hlen, hn⟩ := hc
  have hb : attributeBase o x K.env (PySem.eval o K.env) = PySem.eval o K.env := by
    unfold attributeBase
    split
    · cases hn
    · rfl
  show wpN _ _ (PySem.eval _ _) _ _
  rw [arm_eval_Call, hb]
  refine thenP (h K ρ s i) fun a _ _ ρ₁ u t₁ h i₁ p₁ hu => ?_
  refine wpN_stand ?_
  unfold methodCall
  have hform : methodCallForm (args.length + ([] : List Keyword).length) (backTo p (starEach args K.env)) (backToKw p (keywordEach [] K.env)) = noStar args := by
    unfold methodCallForm
    rw [starAll args p K.env]
    show (noStar args && true && decide (args.length + 0 + 0 < 30)) = noStar args
    rw [decide_eq_true (by lia), Bool.and_true, Bool.and_true]
  rw [hform]
  have hpos : methodCallPos (noStar args) o K.env ap p = pure p := by
    unfold methodCallPos
    rw [hline]
    simp
  show wpN _ _ ((holding [u] (calleeOf (noStar args) o K.env u x)) >>= fun q => methodCallPos (noStar args) o K.env ap p >>= fun cp => callWith cp q.1 q.2 (backTo p (starEach args K.env)) (backToKw p (keywordEach [] K.env))) _ _
  have hkw : backToKw p (keywordEach [] K.env) = [] := rfl
  rw [hpos, hkw]
  obtain ⟨k, hm, d₁⟩ := h K ρ₁ t₁ i₁ u hu
  cases d₁ with
  | mk k' b₁ σ₁ ρ₂ h i₂ g₁ hk =>
  cases hk
  obtain ⟨hkk, h⟩ := h
  have hu := hu.mono g₁.pre
  cases hns : noStar args with
  | true =>
    refine wpN_bind (wpN_holding ?_)
    show wpN _ _ (getMethod u x _) _ _
    refine wpN_any (hm.meth _ _ _ ?_)
    refine wpN_bind (wpN_pure ?_)
    refine wpN_callWith (wpN_mono ((h K ρ₂ t₁ i₂ p).args k.val) fun y t₂ d => ?_)
    obtain ⟨d, hkw'⟩ := d
    cases d with
    | mk vs b₂ σ₂ ρ₃ h i₃ g₂ hx =>
    have hv : VReps ρ₃ (a :: vs) (u :: y.pos) := ⟨hu.mono g₂.pre, hx⟩
    cases k with
    | bi id =>
      refine keeper_builtin fun _ => ?_
      rw [hkw']
      exact wpN_mono ((h K ρ₃ t₂ i₃).2 _ hv) fun _ _ d => (d.trans g₂).trans g₁
    | fn f =>
      obtain ⟨⟨o', fd, h1, h2⟩, hcode⟩ := h K ρ₃ t₂ i₃
      refine keeper_func (i₃.rep.keep _ _ h1) h2 fun _ => ?_
      rw [hkw']
      exact wpN_mono (wpN_called (hcode _ hv)) fun _ _ d => (d.trans g₂).trans g₁
  | false =>
    refine wpN_bind (wpN_holding ?_)
    show wpN _ _ (getAttr u x true >>= fun g => pure (g, [])) _ _
    cases k with
    | bi id =>
      rcases hkk with q | ⟨f, q⟩
      · rw [hns] at q; cases q
      · cases q
    | fn f =>
      refine wpN_bind (wpN_any (hm.bound f _ _ _ rfl fun tk => wpN_pure ?_))
      refine wpN_bind (wpN_pure ?_)
      have hbn : t₁.heap.get? t₁.heap.objs.size = Option.none := Heap.noneOf (Nat.le_refl _)
      have keep := push_keeps t₁.heap (methodObj (.ref f) u)
      have gB : ∀ own, Grow own ρ₂ t₁ ρ₂ { t₁ with heap := t₁.heap.push (methodObj (.ref f) u), toks := tk } := fun own => Grow.ext keep rfl rfl
      have iB := Inv.ext (s' := { t₁ with heap := t₁.heap.push (methodObj (.ref f) u), toks := tk }) i₂ keep rfl rfl
      have hbat : (t₁.heap.push (methodObj (.ref f) u)).get? t₁.heap.objs.size = some (methodObj (.ref f) u) := Heap.get?_push_size _ rfl
      refine wpN_callWith (wpN_mono ((h K ρ₂ _ iB p).args (.ref t₁.heap.objs.size)) fun y t₂ d => ?_)
      obtain ⟨d, hkw'⟩ := d
      cases d with
      | mk vs b₂ σ₂ ρ₃ h i₃ g₂ hx =>
      obtain ⟨hnotIn, hnotOwn⟩ := not_own i₂ hbn
      obtain ⟨o2, ho2, hsim⟩ := g₂.kept _ _ hbat hnotIn hnotOwn
      have : o2 = methodObj (.ref f) u := hsim.eq fun es ep q => by cases q
      subst this
      have hv : VReps ρ₃ (a :: vs) (u :: y.pos) := ⟨hu.mono g₂.pre, hx⟩
      obtain ⟨⟨o', fd, h1, h2⟩, hcode⟩ := h K ρ₃ t₂ i₃
      refine keeper_bound ho2 (i₃.rep.keep _ _ h1) h2 fun _ => ?_
      rw [hkw', List.nil_append]
      exact wpN_mono (wpN_called (call_bound ho2 (hcode _ hv))) fun _ _ d => (d.trans ((gB _).trans g₂)).trans g₁
section
variable {o : Expr} {x : Str} {ap p : Pos} {args : List Expr} {Q : AV → Bs → Store → Prop}
theorem hx_meth (hc : ap.endLine = p.line ∧ args.length < 30 ∧ notBare o = true) (hs : noStar args = true)
    (h : Hx (ev P n sc o) bs σ fun o bs' σ' => Hx (findMeth P o x : Mm P n sc MK) bs' σ' fun k bs' σ' => Hx (evArgs P n sc args) bs' σ' fun vs bs' σ' => Hx (mcall P n args (o :: vs) k : Mm P n sc AV) bs' σ' Q) :
    Hx (ev P n sc (.Call (.Attribute o x ap) args [] p)) bs σ Q := meth_arm hc (h.mono fun _ _ _ h => h.mono fun _ _ _ h => ⟨.inl hs, h⟩)
theorem hx_methS (hc : ap.endLine = p.line ∧ args.length < 30 ∧ notBare o = true)
    (h : Hx (ev P n sc o) bs σ fun o bs' σ' => Hx (findMeth P o x : Mm P n sc MK) bs' σ' fun k bs' σ' => (∃ f, k = .fn f) ∧ Hx (evArgs P n sc args) bs' σ' fun vs bs' σ' => Hx (mcall P n args (o :: vs) k : Mm P n sc AV) bs' σ' Q) :
    Hx (ev P n sc (.Call (.Attribute o x ap) args [] p)) bs σ Q := meth_arm hc (h.mono fun _ _ _ h => h.mono fun _ _ _ h => ⟨.inr h.1, h.2⟩)
end
theorem star_no {X : Cx} {env : Env} {A : Around} {N : Nat} {ρ : List Addr} {s : Shared} {j : Nat} {vs : List AV} {u : Value} {R : Bool → Shared → Prop} (i : Inv X sc env A N ρ bs σ s) (e : σ[j]? = some (.list vs)) (hu : VRep ρ (.ref j) u) (h : R false s) : wpN (model X.prog X.w) A (notIterableAtAll u) R s := by
  cases ls_at i e hu with
  | mk a xs m hu' ha ho hv hl hz => subst hu'; exact wpN_any (not_iterable_list ho h)
theorem star_list {X : Cx} {env : Env} {A : Around} {N : Nat} {ρ : List Addr} {s : Shared} {j : Nat} {vs : List AV} {u : Value} (i : Inv X sc env A N ρ bs σ s) (e : σ[j]? = some (.list vs)) (hu : VRep ρ (.ref j) u) :
    wpN (model X.prog X.w) A (collect u) (Post X sc env A N ρ s VReps fun ws b t => ws = vs ∧ b = bs ∧ t = σ) s := by
  cases ls_at i e hu with
  | mk a xs m hu' ha ho hv hl hz =>
    subst hu'
    refine wpN_any (collect_list (vs := xs.toList) (isList_of ho) (post_ext i (fun b o e => ?_) rfl rfl ⟨rfl, rfl, rfl⟩ hv) (by simp; rw [sizeLine_eq]; lia))
    show ((s.heap.push _).update _ _).get? b = some o
    rw [Heap.get?_update_other _ _ (Ne.symm (Nat.ne_of_lt (Heap.lt_size e)))]
    exact Heap.get?_push_of_some _ e
end Mine.H
end

section
namespace Mine.H
open PySem PySem.W PyProof.Rows PySem.Calls
variable {P : Prog} {n : Nat} {sc : Scope} {α β γ δ : Type} {bs bs' : Bs} {σ : Store} {Q : α → Bs → Store → Prop}
theorem wpN_pure2 {M : Model} {A : Around} {s : Shared} {a : α} {b : β} {R : α → Shared → Prop} {R' : β → Shared → Prop} (h : wpN M A (pure a) R s) (k : R a s → R' b s) : wpN M A (pure b) R' s := .mk fun Γ p h1 h2 h3 => k (h.go Γ p h1 h2 h3)
theorem hx_argsS {e : Expr} {p : Pos} {r : List Expr} {i : Nat} {vs : List AV} {Q : List AV → Bs → Store → Prop} (h1 : Pv (ev P n sc e) bs σ (.ref i)) (h2 : σ[i]? = some (.list vs)) (h : Hx (evArgs P n sc r) bs σ fun ws bs'' σ'' => Q (vs ++ ws) bs'' σ'') : Hx (evArgs P n sc (.Starred e p :: r)) bs σ Q := fun K ρ s iv pos => by
  have hev : wpN K.M K.A (do let v ← PySem.eval e K.env; standAt pos; pure v) (PostK K ρ s VRep fun a b t => a = .ref i ∧ b = bs ∧ t = σ) s :=
    wpN_bind (wpN_mono (h1 K ρ s iv) fun _ _ d => wpN_stand (wpN_pure d))
  have row : wpN K.M K.A (spliced (backTo pos (starEach (.Starred e p :: r) K.env))) (PostK K ρ s VReps Q) s := by
    show wpN _ _ (spliced ((true, do let v ← PySem.eval e K.env; standAt pos; pure v) :: backTo pos (starEach r K.env))) _ _
    unfold spliced
    refine thenP hev fun v _ _ ρ₁ u t₁ q i₁ p₁ hu => ?_
    obtain ⟨rfl, rfl, rfl⟩ := q
    rw [if_pos rfl]
    refine wpN_bind (star_no i₁ h2 hu ?_)
    refine wpN_false rfl ?_
    refine thenP (star_list i₁ h2 hu) fun ws _ _ ρ₂ xs t₂ q i₂ p₂ hx => ?_
    obtain ⟨rfl, rfl, rfl⟩ := q
    refine thenP (wpN_holding (h K ρ₂ t₂ i₂ pos).row) fun zs _ _ ρ₃ ys t₃ q i₃ p₃ hy => ?_
    exact wpN_pure (post_here i₃ q ((hx.mono p₃).append hy))
  refine ⟨row, fun f => ?_⟩
  cases r with
  | cons e' r' =>
    refine args_many (fun x q => ?_) row
    have := congrArg List.length q
    cases e' <;> cases this
  | nil =>
    show wpN _ _ (evalArgs f true [(true, do let v ← PySem.eval e K.env; standAt pos; pure v)] []) _ _
    unfold evalArgs
    dsimp only
    refine wpN_bind (wpN_mono hev fun u t₁ d₁ => ?_)
    cases d₁ with
    | mk v b₁ σ₁ ρ₁ q i₁ g₁ hu =>
    obtain ⟨rfl, rfl, rfl⟩ := q
    refine wpN_bind (wpN_pure ?_)
    refine wpN_holding ?_
    refine wpN_true rfl ?_
    refine wpN_bind (wpN_pure ?_)
    dsimp only
    refine wpN_bind (wpN_bind (star_no i₁ h2 hu ?_))
    refine wpN_false rfl ?_
    refine wpN_holding (wpN_mono (star_list i₁ h2 hu) fun xs t₂ d₂ => ?_)
    cases d₂ with
    | mk ws b₂ σ₂ ρ₂ q i₂ g₂ hx =>
    obtain ⟨rfl, rfl, rfl⟩ := q
    have hr : wpN K.M K.A (pure []) _ t₂ := (h K ρ₂ t₂ i₂ pos).row
    refine wpN_pure2 hr fun d₃ => ?_
    cases d₃ with
    | mk zs b₃ σ₃ ρ₃ q i₃ g₃ hy =>
      have hz := (hx.mono g₃.pre).append hy
      rw [List.append_nil] at hz
      exact ⟨⟨_, b₃, σ₃, ρ₃, q, i₃, (g₁.trans g₂).trans g₃, hz⟩, rfl⟩
end Mine.H
end

section
namespace Mine
open PySem PySem.W PyProof.Rows PySem.Calls
theorem swaps_no {e : Expr} (h : notComp e = true) (t : Option Expr) (l : Nat) (env : Env) : swapsWith e t l env = pure false := by
  cases e <;> first | rfl | exact absurd h Bool.false_ne_true
namespace H
variable {P : Prog} {n : Nat} {sc : Scope} {α β γ δ : Type} {bs bs' : Bs} {σ : Store} {Q : α → Bs → Store → Prop}
noncomputable def evBool (P : Prog) (n : Nat) (sc : Scope) (op : BoolOp) (es : List Expr) : Mm P n sc AV := ⟨Value, fun K ρ s R => ∀ pos, wpN K.M K.A (boolOp pos op (evalEach es K.env)) R s, fun d h pos => wpN_mono (d pos) h, VRep⟩
theorem hx_bool {op : BoolOp} {vs : List Expr} {p : Pos} {Q : AV → Bs → Store → Prop} (h : Hx (evBool P n sc op vs) bs σ Q) : Hx (ev P n sc (.BoolOp op vs p)) bs σ Q := fun K ρ s i => h K ρ s i p
theorem hx_bool1 {op : BoolOp} {e : Expr} {Q : AV → Bs → Store → Prop} (h : Hx (ev P n sc e) bs σ Q) : Hx (evBool P n sc op [e]) bs σ Q := fun K ρ s i pos => h K ρ s i
theorem boolc {op : BoolOp} {e e' : Expr} {r : List Expr} {Q : AV → Bs → Store → Prop} (h : Hx (ev P n sc e) bs σ fun v bs' σ' => ∃ b, truth σ' v = some b ∧ (b = (op == .Or) → Q v bs' σ') ∧ (b = (op == .And) → Hx (evBool P n sc op (e' :: r)) bs' σ' Q)) : Hx (evBool P n sc op (e :: e' :: r)) bs σ Q := fun K ρ s i pos => by
  show wpN _ _ (PySem.eval e K.env >>= fun v => standAt pos >>= fun _ => holding [v] (truthy v) >>= fun t => match op, t with
    | .And, false | .Or, true => pure v
    | _, _ => boolOp pos op (evalEach (e' :: r) K.env)) _ _
  refine thenP (h K ρ s i) fun a bs₁ σ₁ ρ₁ u t₁ h i₁ p₁ hu => ?_
  obtain ⟨b, hb, h1, h2⟩ := h
  refine wpN_stand (wpN_bind (wpN_holding (wpN_any (op_truth i₁ hu hb fun s' e1 e2 e3 => ?_))))
  have i₂ := i₁.same e1
  have g : Grow (Own sc K.env) ρ₁ t₁ ρ₁ s' := Grow.same e1 e2 e3
  cases op <;> cases b
  · exact wpN_pure ⟨a, bs₁, σ₁, ρ₁, h1 rfl, i₂, g, hu⟩
  · exact wpN_mono (h2 rfl K ρ₁ s' i₂ pos) fun _ _ d => d.trans g
  · exact wpN_mono (h2 rfl K ρ₁ s' i₂ pos) fun _ _ d => d.trans g
  · exact wpN_pure ⟨a, bs₁, σ₁, ρ₁, h1 rfl, i₂, g, hu⟩
theorem hx_boolOr {e e' : Expr} {r : List Expr} {Q : AV → Bs → Store → Prop} (h : Hx (ev P n sc e) bs σ fun v bs' σ' => ∃ b, truth σ' v = some b ∧ (b = true → Q v bs' σ') ∧ (b = false → Hx (evBool P n sc .Or (e' :: r)) bs' σ' Q)) : Hx (evBool P n sc .Or (e :: e' :: r)) bs σ Q := boolc h
theorem hx_boolAnd {e e' : Expr} {r : List Expr} {Q : AV → Bs → Store → Prop} (h : Hx (ev P n sc e) bs σ fun v bs' σ' => ∃ b, truth σ' v = some b ∧ (b = false → Q v bs' σ') ∧ (b = true → Hx (evBool P n sc .And (e' :: r)) bs' σ' Q)) : Hx (evBool P n sc .And (e :: e' :: r)) bs σ Q := boolc h
theorem hx_dict0 {p : Pos} {Q : AV → Bs → Store → Prop} (h : Q (.ref σ.length) bs (σ ++ [.dict []])) : Hx (ev P n sc (.Dict [] [] p)) bs σ Q := fun K ρ s i =>
  wpN_any (wpAny_Dict_empty (post_push (ao := .dict []) i rfl ⟨⟨rfl, rfl, rfl⟩, #[], _, [], rfl, (fun _ h => by simp at h), .nil, List.Pairwise.nil, trivial, Nat.zero_le _⟩ h (vrep_new i _)))
def Seq (R : Bs → Store → Prop) (Q : Fl → Bs → Store → Prop) : Fl → Bs → Store → Prop
  | .next, bs, σ => R bs σ
  | f, bs, σ => Q f bs σ
theorem hx_nil {Q : Fl → Bs → Store → Prop} (h : Q .next bs σ) : Hx (execs P n sc []) bs σ Q := fun K ρ s i tp => wpN_pure (post_here i h rfl)
theorem hx_cons {st : Stmt} {r : List Stmt} {Q : Fl → Bs → Store → Prop} (h : Hx (exec P n sc st) bs σ (Seq (fun bs' σ' => Hx (execs P n sc r) bs' σ' Q) Q)) : Hx (execs P n sc (st :: r)) bs σ Q := fun K ρ s i tp => by
  show wpN _ _ (PySem.execs _ _) _ _
  rw [arm_execs_cons]
  refine thenP (h K ρ s i tp) fun f _ _ ρ₁ u t₁ h i₁ p₁ hu => ?_
  cases f with
  | next => cases hu; exact h K ρ₁ t₁ i₁ tp
  | brk => cases hu; exact wpN_pure (post_here i₁ h rfl)
  | cont => cases hu; exact wpN_pure (post_here i₁ h rfl)
  | ret w => obtain ⟨y, rfl, hy⟩ := hu; exact wpN_pure (post_here i₁ h ⟨y, rfl, hy⟩)
theorem hs_break {p : Pos} {Q : Fl → Bs → Store → Prop} (h : Q .brk bs σ) : Hx (exec P n sc (.Break p)) bs σ Q := fun K ρ s i tp => wpN_stand (wpN_pure (post_here i h rfl))
theorem hs_cont {p : Pos} {Q : Fl → Bs → Store → Prop} (h : Q .cont bs σ) : Hx (exec P n sc (.Continue p)) bs σ Q := fun K ρ s i tp => wpN_stand (wpN_pure (post_here i h rfl))
theorem hs_ret {e : Expr} {p : Pos} {Q : Fl → Bs → Store → Prop} (h : Hx (ev P n sc e) bs σ fun v bs' σ' => Q (.ret v) bs' σ') : Hx (exec P n sc (.Return (some e) p)) bs σ Q := fun K ρ s i tp => by
  show wpN _ _ (PySem.exec _ _) _ _
  rw [exec_Return_some]
  refine wpN_stand (thenP (h K ρ s i) fun v _ _ ρ₁ u t₁ h i₁ p₁ hu => ?_)
  exact wpN_pure (post_here i₁ h ⟨u, rfl, hu⟩)
theorem hs_ifH {t : Expr} {b e : List Stmt} {p : Pos} {Q : Fl → Bs → Store → Prop} (ht : Hx (evT P n sc t) bs σ fun c bs' σ' => (c = true → Hx (execs P n sc b) bs' σ' Q) ∧ (c = false → Hx (execs P n sc e) bs' σ' Q)) : Hx (exec P n sc (.If t b e p)) bs σ Q := fun K ρ s i tp => by
  show wpN _ _ (PySem.exec _ _) _ _
  rw [exec_If]
  refine wpN_stand (thenP (ht K ρ s i) fun c _ _ ρ₁ u t₁ h i₁ p₁ hu => ?_)
  cases hu
  cases c with
  | true => exact h.1 rfl K ρ₁ t₁ i₁ tp
  | false => exact h.2 rfl K ρ₁ t₁ i₁ tp
theorem hs_if {t : Expr} {b e : List Stmt} {p : Pos} {c : Bool} {Q : Fl → Bs → Store → Prop} (ht : Pv (evT P n sc t) bs σ c) (h1 : c = true → Hx (execs P n sc b) bs σ Q) (h2 : c = false → Hx (execs P n sc e) bs σ Q) : Hx (exec P n sc (.If t b e p)) bs σ Q := hs_ifH (hx_pv ht ⟨h1, h2⟩)
theorem hs_expr {e : Expr} {p : Pos} {Q : Fl → Bs → Store → Prop} (hc : notComp e = true) (h : Hx (ev P n sc e) bs σ fun v bs' σ' => v = .none ∧ Q .next bs' σ') : Hx (exec P n sc (.Expr e p)) bs σ Q := fun K ρ s i tp => by
  have hi : interactive K.env = false := by unfold interactive; rw [i.fr.kind]; rfl
  show wpN _ _ (PySem.exec _ _) _ _
  rw [exec_Expr K.env e p hi (swaps_no hc _ _ _)]
  refine wpN_stand (thenP (h K ρ s i) fun v _ _ ρ₁ u t₁ h i₁ p₁ hu => ?_)
  obtain ⟨rfl, h⟩ := h
  cases hu
  rw [dropValue_plain (fun a q => by cases q)]
  exact wpN_pure (post_here i₁ h rfl)
end H
end Mine
end

section
namespace Mine
open PySem PySem.W PyProof.Rows PySem.Calls
theorem exec_setAttr (env : Env) (o : Expr) (x : Str) (p : Pos) (value : Expr) (pos : Pos) : PySem.exec (.Assign [.Attribute o x p] value pos) env = (do
    standAt pos
    let v ← PySem.eval value env
    assign (.Attribute o x p) env v
    pure .next) := by
  rw [arm_exec_Assign]
  have h1 : swapsWithSole [.Attribute o x p] value pos.line env = pure false := by
    show swapsWith value (some (.Attribute o x p)) pos.line env = pure false
    cases value <;> rfl
  have h2 : swappedStores [.Attribute o x p] value env = pure none := by cases value <;> rfl
  rw [h1, h2]
  rfl
theorem exec_setItem (env : Env) (o k : Expr) (p : Pos) (value : Expr) (pos : Pos) : PySem.exec (.Assign [.Subscript o k p] value pos) env = (do
    standAt pos
    let v ← PySem.eval value env
    assign (.Subscript o k p) env v
    pure .next) := by
  rw [arm_exec_Assign]
  have h1 : swapsWithSole [.Subscript o k p] value pos.line env = pure false := by
    show swapsWith value (some (.Subscript o k p)) pos.line env = pure false
    cases value <;> rfl
  have h2 : swappedStores [.Subscript o k p] value env = pure none := by cases value <;> rfl
  rw [h1, h2]
  rfl

theorem exec_setItemName (env : Env) (o k : Expr) (x : Str) (p px : Pos) (value : Expr) (pos : Pos) : PySem.exec (.Assign [.Subscript o k p, .Name x px] value pos) env = (do
    standAt pos
    let v ← PySem.eval value env
    (do
      holding [v] (assign (.Subscript o k p) env v)
      assign (.Name x px) env v)
    pure .next) := by
  rw [arm_exec_Assign]
  have h2 : swappedStores [.Subscript o k p, .Name x px] value env = pure none := by cases value <;> rfl
  rw [h2]
  rfl

namespace H
variable {P : Prog} {n : Nat} {sc : Scope} {α β γ δ : Type} {bs bs' : Bs} {σ : Store} {Q : α → Bs → Store → Prop}
theorem loc_of {x : Str} (hx : isLoc sc x = true) : sc.names.lookup x = some .local ∨ sc.names.lookup x = some .cell := by
  unfold isLoc at hx
  cases hk : sc.names.lookup x with
  | none => rw [hk] at hx; cases hx
  | some k => rw [hk] at hx; cases k <;> first | exact .inl rfl | exact .inr rfl | cases hx
theorem hs_assign {x : Str} {q p : Pos} {e : Expr} {Q : Fl → Bs → Store → Prop} (hc : notComp e = true) (hx : isLoc sc x = true) (h : Hx (ev P n sc e) bs σ fun v bs' σ' => Q .next ((x, v) :: bs') σ') : Hx (exec P n sc (.Assign [.Name x q] e p)) bs σ Q := fun K ρ s i tp => by
  show wpN _ _ (PySem.exec _ _) _ _
  rw [exec_Assign_Name K.env x q e p (swaps_no hc _ _ _)]
  refine wpN_stand (thenP (h K ρ s i) fun a _ _ ρ₁ u t₁ h i₁ p₁ hu => ?_)
  exact wpN_stand (wpN_bind (wpN_any (wpAny_mono (wpAny_bindName (wp_store i₁ hu (loc_of hx))) (fun _ t₂ d => wpN_pure ⟨.next, _, _, ρ₁, h, d.1, d.2, rfl⟩) fun _ _ x => x)))
theorem set_item {X : Cx} {env : Env} {A : Around} {N : Nat} {ρ : List Addr} {s : Shared} {o k : Expr} {p : Pos} {u : Value} {v : AV} {Q : Unit → Bs → Store → Prop} (K : Cfg P n sc) (i : K.I ρ bs σ s) (hu : VRep ρ v u)
    (h : Hx (ev P n sc o) bs σ fun o bs' σ' => Hx (ev P n sc k) bs' σ' fun i bs' σ' => Hx (setItemV o i v : Mm P n sc Unit) bs' σ' Q) : wpN K.M K.A (assign (.Subscript o k p) K.env u) (PostK K ρ s noV Q) s := by
  rw [arm_assign_Subscript]
  refine thenP (wpN_holding (h K ρ s i)) fun a _ _ ρ₂ y t₂ h i₂ p₂ hy => ?_
  refine thenP (wpN_holding (h K ρ₂ t₂ i₂)) fun b _ _ ρ₃ z t₃ h i₃ p₃ hz => ?_
  refine wpN_stand (thenP (wpN_holding (h K ρ₃ t₃ i₃ y z u (hy.mono p₃) hz (hu.mono (p₂.trans p₃)))) fun c _ _ ρ₄ w t₄ h i₄ p₄ _ => ?_)
  exact wpN_any (wpAny_release (post_here i₄ h trivial))
theorem hs_item {o i e : Expr} {q p : Pos} {Q : Fl → Bs → Store → Prop} (h : Hx (ev P n sc e) bs σ fun v bs' σ' => Hx (ev P n sc o) bs' σ' fun o bs' σ' => Hx (ev P n sc i) bs' σ' fun i bs' σ' => Hx (setItemV o i v : Mm P n sc Unit) bs' σ' fun _ bs' σ' => Q .next bs' σ') : Hx (exec P n sc (.Assign [.Subscript o i q] e p)) bs σ Q := fun K ρ s iv tp => by
  show wpN _ _ (PySem.exec _ _) _ _
  rw [exec_setItem]
  refine wpN_stand (thenP (h K ρ s iv) fun a _ _ ρ₁ u t₁ h i₁ p₁ hu => ?_)
  exact thenP (set_item (X := K.X) (env := K.env) (A := K.A) (N := K.N) K i₁ hu h) fun _ _ _ ρ₂ _ t₂ h i₂ p₂ _ => wpN_pure (post_here i₂ h rfl)
theorem hs_itemName {o i e : Expr} {x : Str} {q q' p : Pos} {Q : Fl → Bs → Store → Prop} (hx : isLoc sc x = true) (h : Hx (ev P n sc e) bs σ fun v bs' σ' => Hx (ev P n sc o) bs' σ' fun o bs' σ' => Hx (ev P n sc i) bs' σ' fun i bs' σ' => Hx (setItemV o i v : Mm P n sc Unit) bs' σ' fun _ bs' σ' => Q .next ((x, v) :: bs') σ') : Hx (exec P n sc (.Assign [.Subscript o i q, .Name x q'] e p)) bs σ Q := fun K ρ s iv tp => by
  show wpN _ _ (PySem.exec _ _) _ _
  rw [exec_setItemName]
  refine wpN_stand (thenP (h K ρ s iv) fun a _ _ ρ₁ u t₁ h i₁ p₁ hu => ?_)
  refine wpN_bind (wpN_bind (wpN_holding (wpN_mono (set_item (X := K.X) (env := K.env) (A := K.A) (N := K.N) K i₁ hu h) fun _ t₂ d₂ => ?_)))
  cases d₂ with
  | mk a₂ b₂ σ₂ ρ₂ h i₂ g₂ _ =>
    exact wpN_any (wpAny_mono (wpAny_assign_Name (wp_store i₂ (hu.mono g₂.pre) (loc_of hx))) (fun _ t₃ d => wpN_pure ⟨.next, _, _, ρ₂, h, d.1, g₂.trans d.2, rfl⟩) fun _ _ x => x)
theorem hs_attr {o e : Expr} {x : Str} {q p : Pos} {Q : Fl → Bs → Store → Prop} (h : Hx (ev P n sc e) bs σ fun v bs' σ' => Hx (ev P n sc o) bs' σ' fun o bs' σ' => Hx (setAttrV P o x v : Mm P n sc Unit) bs' σ' fun _ bs' σ' => Q .next bs' σ') : Hx (exec P n sc (.Assign [.Attribute o x q] e p)) bs σ Q := fun K ρ s iv tp => by
  show wpN _ _ (PySem.exec _ _) _ _
  rw [exec_setAttr]
  refine wpN_stand (thenP (h K ρ s iv) fun a _ _ ρ₁ u t₁ h i₁ p₁ hu => ?_)
  rw [arm_assign_Attribute]
  refine wpN_bind (wpN_bind (wpN_holding (wpN_mono (h K ρ₁ t₁ i₁) fun y t₂ d₂ => ?_)))
  cases d₂ with
  | mk b b₂ σ₂ ρ₂ h i₂ g₂ hy =>
  refine wpN_stand (wpN_bind (wpN_holding (wpN_mono (h K ρ₂ t₂ i₂ y u hy (hu.mono g₂.pre)) fun z t₃ d₃ => ?_)))
  cases d₃ with
  | mk c b₃ σ₃ ρ₃ h i₃ g₃ _ => exact wpN_any (wpAny_release (wpN_pure ⟨.next, b₃, σ₃, ρ₃, h, i₃, g₂.trans g₃, rfl⟩))
end H
end Mine
end

section
namespace Mine.H
open PySem PySem.W PyProof.Rows PySem.Calls
variable {P : Prog} {n : Nat} {sc : Scope} {α β γ δ : Type} {bs bs' : Bs} {σ : Store} {Q : α → Bs → Store → Prop}
noncomputable def augV (op : Operator) (a b : Int) : Int := match op with
  | .Add => a + b
  | _ => a - b
theorem hs_aug {o e : Expr} {op : Operator} {x : Str} {q p : Pos} {a b : Int} {i : AV} {Q : Fl → Bs → Store → Prop} (ho : op = .Add ∨ op = .Sub) (h1 : Pv (ev P n sc o) bs σ i) (h2 : Pv (getAttrV P i x : Mm P n sc AV) bs σ (.int a)) (h3 : Pv (ev P n sc e) bs σ (.int b))
    (h : Hx (setAttrV P i x (.int (augV op a b)) : Mm P n sc Unit) bs σ fun _ bs' σ' => Q .next bs' σ') : Hx (exec P n sc (.AugAssign (.Attribute o x q) op e p)) bs σ Q := fun K ρ s iv tp => by
  show wpN _ _ (PySem.exec _ _) _ _
  rw [arm_exec_AugAssign_2]
  refine wpN_stand (thenP (h1 K ρ s iv) fun a₁ b₁ σ₁ ρ₁ u t₁ q₁ i₁ p₁ hu => ?_)
  obtain ⟨rfl, rfl, rfl⟩ := q₁
  refine thenP (V := VRep) (Q := fun v b' t => v = .int (augV op a b) ∧ b' = b₁ ∧ t = σ₁) (wpN_holding ?_) fun _ _ _ ρ₂ y t₂ q₂ i₂ p₂ hy => ?_
  · refine wpN_stand (thenP (h2 K ρ₁ t₁ i₁ u hu) fun _ _ _ ρ₂ y t₂ q₂ i₂ p₂ hy => ?_)
    obtain ⟨rfl, rfl, rfl⟩ := q₂
    refine thenP (wpN_holding (h3 K ρ₂ t₂ i₂)) fun _ _ _ ρ₃ z t₃ q₃ i₃ p₃ hz => ?_
    obtain ⟨rfl, rfl, rfl⟩ := q₃
    refine wpN_stand (wpN_operate (wpN_any ?_))
    obtain ⟨t, rfl⟩ := hy
    obtain ⟨t', rfl⟩ := hz
    rcases ho with rfl | rfl
    · exact iadd_int (post_same i₃ rfl rfl rfl ⟨rfl, rfl, rfl⟩ ⟨_, rfl⟩)
    · exact AutoIntOps.isub_0 (post_same i₃ rfl rfl rfl ⟨rfl, rfl, rfl⟩ ⟨_, rfl⟩)
  · obtain ⟨rfl, rfl, rfl⟩ := q₂
    refine wpN_stand (wpN_bind (wpN_holding (wpN_mono (h K ρ₂ t₂ i₂ u y (hu.mono p₂) hy) fun z t₃ d₃ => ?_)))
    cases d₃ with
    | mk c b₃ σ₃ ρ₃ h i₃ g₃ _ => exact wpN_bind (wpN_any (wpAny_release (wpN_pure ⟨.next, b₃, σ₃, ρ₃, h, i₃, g₃, rfl⟩)))
end Mine.H
end

section
namespace Mine
open PySem PySem.W PyProof.Rows PySem.Calls

section
variable {X : Cx} {sc : Scope} {env : Env} {A : Around} {N : Nat} {ρ ρ' : List Addr} {bs₀ bs : Bs} {σ₀ σ : Store} {s s' s'' : Shared} {I : Addr}

theorem Grow.but {own : Addr → Prop} (g : Grow own ρ s ρ' s') (hI : s.heap.get? I = none) (k : ∀ b o, b ≠ I → s'.heap.get? b = some o → s''.heap.get? b = some o) (hg : s''.gens = s'.gens) (ho : s''.os = s'.os) : Grow own ρ s ρ' s'' where
  pre := g.pre
  fresh := g.fresh
  live := fun b o e => by
    obtain ⟨o', e'⟩ := g.live b o e
    exact ⟨o', k b o' (fun q => by subst q; rw [hI] at e; cases e) e'⟩
  kept := fun b o e hn hown => by
    obtain ⟨o', e', hs⟩ := g.kept b o e hn hown
    exact ⟨o', k b o' (fun q => by subst q; rw [hI] at e; cases e) e', hs⟩
  gens := hg.trans g.gens
  os := ho.trans g.os

end
end Mine
end

section
namespace Mine
open PySem PySem.W PyProof.Rows PySem.Calls

structure Feed (X : Cx) (j : Nat) (o : AO) (vs : List AV) (I ax : Addr) (St : Nat → Heap → Prop) : Prop where
  at_ : ∀ k h h', St k h → (∀ ob, h.get? I = some ob → h'.get? I = some ob) → St k h'
  obj : ∀ k h, St k h → ∃ ob, h.get? I = some ob ∧ ∀ es ep, ob.data ≠ .dict es ep
  item : ∀ k A ρ σ s v, A.handled = none → Rep X ρ σ s.heap → I ∉ ρ → ρ[j]? = some ax → σ[j]? = some o → vs[k]? = some v → St k s.heap → ∀ Q : Option Value → Shared → Prop,
    (∀ u h' tk, VRep ρ v u → St (k + 1) h' → (∀ b ob, b ≠ I → s.heap.get? b = some ob → h'.get? b = some ob) → Q (some u) { s with heap := h', toks := tk }) → wpAny (model X.prog X.w) A (pyNext (.ref I)) Q (fun _ _ => False) s
  done : ∀ A ρ σ s, A.handled = none → Rep X ρ σ s.heap → I ∉ ρ → ρ[j]? = some ax → σ[j]? = some o → St vs.length s.heap → ∀ Q : Option Value → Shared → Prop,
    (∀ h' tk, (∀ b ob, b ≠ I → s.heap.get? b = some ob → h'.get? b = some ob) → Q none { s with heap := h', toks := tk }) → wpAny (model X.prog X.w) A (pyNext (.ref I)) Q (fun _ _ => False) s
  self : ∀ k A s (Q : Value → Shared → Prop), St k s.heap → Q (.ref I) s → wpAny (model X.prog X.w) A (pyIter (.ref I)) Q (fun _ _ => False) s

section
variable {X : Cx} {j : Nat} {I ax : Addr}

theorem feed_list {vs : List AV} : Feed X j (.list vs) vs I ax (fun k h => h.IsListIter I ax k) where
  at_ := fun k h h' st e => st.at e
  obj := fun k h st => by
    obtain ⟨ob, ho, hc, hd⟩ := st
    exact ⟨ob, ho, fun es ep q => by rw [hd] at q; cases q⟩
  item := fun k A ρ σ s v hh r hI ha hσ hv st Q hQ => by
    obtain ⟨ob, ho, ⟨xs, m, rfl, hr⟩, hl⟩ := r.obj j ax _ ha hσ
    obtain ⟨x, hx, hvx⟩ := hr.get hv
    exact wpAny_pyNext_list_item st (isList_of ho) (by simpa using hx) fun h' hit hs => hQ x h' s.toks hvx hit fun b ob hb e => hs.extBut b ob hb e
  self := fun k A s Q st h => wpAny_pyIter_listiter st h
  done := fun A ρ σ s hh r hI ha hσ st Q hQ => by
    obtain ⟨ob, ho, ⟨xs, m, rfl, hr⟩, hl⟩ := r.obj j ax _ ha hσ
    refine wpAny_pyNext_list_end hh st (isList_of ho) (by have := hr.length; simp at this; simp [← this]) fun h' he => hQ h' s.toks fun b ob hb e => he b ob hb e

theorem feed_tuple {vs : List AV} : Feed X j (.tuple vs) vs I ax (fun k h => h.IsTupleIter I ax k) where
  at_ := fun k h h' st e => st.at e
  obj := fun k h st => by
    obtain ⟨ob, ho, hc, hd⟩ := st
    exact ⟨ob, ho, fun es ep q => by rw [hd] at q; cases q⟩
  item := fun k A ρ σ s v hh r hI ha hσ hv st Q hQ => by
    obtain ⟨ob, ho, ⟨xs, m, rfl, hr⟩, hl⟩ := r.obj j ax _ ha hσ
    obtain ⟨x, hx, hvx⟩ := hr.get hv
    exact wpAny_pyNext_tuple_item st ⟨_, ho, rfl, m, rfl⟩ (by simpa using hx) fun h' hit hs => hQ x h' s.toks hvx hit fun b ob hb e => hs.extBut b ob hb e
  self := fun k A s Q st h => wpAny_pyIter_tupleiter st h
  done := fun A ρ σ s hh r hI ha hσ st Q hQ => by
    obtain ⟨ob, ho, ⟨xs, m, rfl, hr⟩, hl⟩ := r.obj j ax _ ha hσ
    refine wpAny_pyNext_tuple_end hh st ⟨_, ho, rfl, m, rfl⟩ (by have := hr.length; simp at this; simp [← this]) fun h' he => hQ h' s.toks fun b ob hb e => he b ob hb e

theorem feed_range {o : AO} {a c : Int} {n : Nat} {vs : List AV} (hn : vs.length = n) (hv : ∀ (k : Nat) (v : AV), vs[k]? = some v → v = .int (a + k * c)) :
    Feed X j o vs I ax (fun k h => IsRangeIter h I (a + (k : Nat) * c) ((n : Int) - (k : Nat)) c) where
  at_ := fun k h h' st e => e _ st
  obj := fun k h st => ⟨_, st, fun es ep q => by cases q⟩
  item := fun k A ρ σ s v hh r hI ha hσ hk st Q hQ => by
    have hlt : k < n := by rw [← hn]; exact (List.getElem?_eq_some_iff.mp hk).1
    have := (Walks.range (prog := X.prog) (w := X.w) (A := A) hh I a c n).item k s Q (fun _ _ => False) hlt st fun u h' tk hu st' kp => hQ u h' tk ?_ st' fun b ob hb e => kp b ob (by simpa using hb) e
    · exact this
    · rw [hv k v hk]; exact hu
  self := fun k A s Q st h => wpAny_pyIter_rangeiter st h
  done := fun A ρ σ s hh r hI ha hσ st Q hQ => by
    rw [hn] at st
    exact (Walks.range (prog := X.prog) (w := X.w) (A := A) hh I a c n).done s Q (fun _ _ => False) st fun h' tk kp => hQ h' tk fun b ob hb e => kp b ob (by simpa using hb) e
end
end Mine
end

section
namespace Mine
open PySem PySem.W PyProof.Rows PySem.Calls

noncomputable def Cx.frz (X : Cx) (a : Addr) (ob : Obj) : Cx := { X with fz := fun b => if b = a then some ob else X.fz b }
theorem at_frz_ne {X : Cx} {a b : Addr} {ob : Obj} (h : b ≠ a) : (X.frz a ob).at b = X.at b := by
  unfold Cx.at Cx.frz
  dsimp only
  rw [if_neg h]
theorem at_frz_self {X : Cx} {a : Addr} {ob : Obj} (h : X.at a = none) : (X.frz a ob).at a = some ob := by
  have := Cx.at_none h
  unfold Cx.at Cx.frz
  dsimp only
  rw [if_pos rfl, this]; rfl
theorem OR_frz {X : Cx} {a : Addr} {ob o : Obj} {ρ : List Addr} {ao : AO} : OR (X.frz a ob) ρ o ao = OR X ρ o ao := by cases ao <;> rfl

section
variable {X : Cx} {sc : Scope} {env : Env} {A : Around} {N : Nat} {ρ ρ' : List Addr} {bs : Bs} {σ : Store} {s s' : Shared} {I a : Addr} {ob : Obj} {j : Nat} {es : List (Int × AV)}

theorem nodup_at (h : ρ.Nodup) {i j : Nat} {b : Addr} (hi : ρ[i]? = some b) (hj : ρ[j]? = some b) : i = j := by
  have h1 := List.getElem?_eq_some_iff.mp hi
  have h2 := List.getElem?_eq_some_iff.mp hj
  have hp := List.pairwise_iff_getElem.mp h
  rcases Nat.lt_trichotomy i j with q | q | q
  · exact absurd (h1.2.trans h2.2.symm) (hp i j h1.1 h2.1 q)
  · exact q
  · exact absurd (h2.2.trans h1.2.symm) (hp j i h2.1 h1.1 q)

theorem Inv.freeze (i : Inv X sc env A N ρ bs σ s) (ha : ρ[j]? = some a) (hσ : σ[j]? = some (.dict es)) (ho : s.heap.get? a = some ob) : Inv (X.frz a ob) sc env A N ρ bs (σ.set j (.fdict es)) s := by
  have hX : X.at a = none := i.rep.newA j a _ ha hσ rfl
  have hmem : a ∈ ρ := List.mem_of_getElem? ha
  have nz : ∀ {b : Addr}, b ∉ ρ → X.at b = none → (X.frz a ob).at b = none := fun {b} hb h => by
    have hne : b ≠ a := fun q => hb (by rw [q]; exact hmem)
    rw [at_frz_ne hne]; exact h
  refine ⟨⟨by simp [i.rep.len], i.rep.nodup, fun k b bo hb hbo => ?_, fun k b bo hb hbo hf => ?_, fun b o e => ?_⟩, ⟨i.fr.kind, i.fr.glob, i.fr.bi, i.fr.names, i.fr.ns, i.fr.notIn, nz i.fr.notIn i.fr.new, fun x hx => ?_, i.fr.apart⟩, ⟨i.ok.handled, i.ok.depth, i.ok.units, ?_⟩⟩
  · simp only [OR_frz]
    by_cases hk : j = k
    · subst hk
      rw [List.getElem?_set_self (List.getElem?_eq_some_iff.mp hσ).1] at hbo
      cases hbo
      exact i.rep.obj j b (.dict es) hb hσ
    · rw [List.getElem?_set_ne hk] at hbo
      exact i.rep.obj k b bo hb hbo
  · by_cases hk : j = k
    · subst hk
      rw [List.getElem?_set_self (List.getElem?_eq_some_iff.mp hσ).1] at hbo
      cases hbo; cases hf
    · rw [List.getElem?_set_ne hk] at hbo
      have hne : b ≠ a := fun q => hk (nodup_at i.rep.nodup ha (by rw [← q]; exact hb))
      rw [at_frz_ne hne]
      exact i.rep.newA k b bo hb hbo hf
  · by_cases hb : b = a
    · subst hb; rw [at_frz_self hX] at e; cases e; exact ho
    · rw [at_frz_ne hb] at e; exact i.rep.keepA b o e
  · obtain ⟨c, u, h1, h2, h3, h5⟩ := i.fr.cell x hx
    exact ⟨c, u, h1, h2, h3.imp (fun h => ⟨h.1, nz h.1 h.2⟩) (fun ⟨q, o, e, d⟩ => ⟨q, o, by rw [at_frz_ne fun q => by rw [q, hX] at e; cases e]; exact e, d⟩), h5⟩
  · obtain ⟨fr, h1, h2⟩ := i.ok.frames
    refine ⟨fr, h1, fun e he => ?_⟩
    obtain ⟨hk, L, o, es, ep, hf, ho, hd, hn, hb⟩ := h2 e he
    exact ⟨hk, L, o, es, ep, hf, ho, hd, hn, nz hn hb⟩

theorem Inv.thaw (i : Inv (X.frz a ob) sc env A N ρ bs σ s) (hX : X.at a = none) (ha : ρ[j]? = some a) (hσ : σ[j]? = some (.fdict es)) : Inv X sc env A N ρ bs (σ.set j (.dict es)) s := by
  have nz : ∀ {b : Addr}, (X.frz a ob).at b = none → X.at b = none := fun {b} h => by
    by_cases hb : b = a
    · subst hb; exact hX
    · rwa [at_frz_ne hb] at h
  refine ⟨⟨by simp [i.rep.len], i.rep.nodup, fun k b bo hb hbo => ?_, fun k b bo hb hbo hf => ?_, fun b o e => ?_⟩, ⟨i.fr.kind, i.fr.glob, i.fr.bi, i.fr.names, i.fr.ns, i.fr.notIn, nz i.fr.new, fun x hx => ?_, i.fr.apart⟩, ⟨i.ok.handled, i.ok.depth, i.ok.units, ?_⟩⟩
  · have hob := i.rep.obj k b
    simp only [OR_frz] at hob
    by_cases hk : j = k
    · subst hk
      rw [List.getElem?_set_self (List.getElem?_eq_some_iff.mp hσ).1] at hbo
      cases hbo
      exact hob (.fdict es) hb hσ
    · rw [List.getElem?_set_ne hk] at hbo
      exact hob bo hb hbo
  · by_cases hk : j = k
    · subst hk; rw [ha] at hb; cases hb; exact hX
    · rw [List.getElem?_set_ne hk] at hbo
      exact nz (i.rep.newA k b bo hb hbo hf)
  · have hb : b ≠ a := fun q => by subst q; rw [hX] at e; cases e
    exact i.rep.keepA b o (by rw [at_frz_ne hb]; exact e)
  · obtain ⟨c, u, h1, h2, h3, h5⟩ := i.fr.cell x hx
    refine ⟨c, u, h1, h2, h3.imp (fun h => ⟨h.1, nz h.2⟩) (fun ⟨q, o, e, d⟩ => ⟨q, o, ?_, d⟩), h5⟩
    rw [← at_frz_ne (ob := ob) (fun q => ?_ : c ≠ a)]
    · exact e
    · subst q
      obtain ⟨o', ho', r⟩ := i.rep.obj j c _ ha hσ
      rw [i.rep.keepA c o e] at ho'
      cases ho'
      obtain ⟨_, ds, ep, kvs, hd, _⟩ := r
      rw [d] at hd; cases hd
  · obtain ⟨fr, h1, h2⟩ := i.ok.frames
    refine ⟨fr, h1, fun e he => ?_⟩
    obtain ⟨hk, L, o, es, ep, hf, ho, hd, hn, hb⟩ := h2 e he
    exact ⟨hk, L, o, es, ep, hf, ho, hd, hn, nz hb⟩

structure Apart (X : Cx) (sc : Scope) (env : Env) (A : Around) (I : Addr) : Prop where
  base : X.at I = none
  loc : env.locals ≠ I
  cell : ∀ x c, (sc.names.lookup x = some .cell ∨ sc.names.lookup x = some .free) → env.cells.lookup x = some c → c ≠ I
  fr : ∀ fr, A.frames = some fr → ∀ e ∈ fr, e.frame ≠ some I

theorem Apart.of (i : Inv X sc env A N ρ bs σ s) (hI : s.heap.get? I = none) : Apart X sc env A I := by
  have nb : ∀ {b : Addr} {o : Obj}, s.heap.get? b = some o → b ≠ I := fun e q => by subst q; rw [hI] at e; cases e
  refine ⟨?_, ?_, fun x c hx hc => ?_, fun fr hfr e he q => ?_⟩
  · cases e : X.at I with
    | none => rfl
    | some o => rw [i.rep.keepA _ _ e] at hI; cases hI
  · obtain ⟨m, hm, _⟩ := i.fr.ns
    obtain ⟨o, ho⟩ := Heap.Ns.there hm
    exact nb ho
  · obtain ⟨c', u, g1, ⟨o, ho, _⟩, _⟩ := i.fr.cell x hx
    rw [hc] at g1; cases g1
    exact nb ho
  · obtain ⟨fr', h1, h2⟩ := i.ok.frames
    rw [hfr] at h1; cases h1
    obtain ⟨_, L, o, _, _, hf, ho, _⟩ := h2 e he
    rw [q] at hf; cases hf
    rw [ho] at hI; cases hI
theorem Apart.notOwn (h : Apart X sc env A I) : ¬ Own sc env I := fun q => by
  rcases q with q | ⟨x, hx, hc⟩
  · exact h.loc q.symm
  · exact h.cell x I (.inl hx) hc rfl

theorem Inv.hid (ap : Apart X sc env A I) (i : Inv X sc env A N ρ bs σ s) (hn : I ∉ ρ) (k : ∀ b o, b ≠ I → s.heap.get? b = some o → s'.heap.get? b = some o) : Inv X sc env A N ρ bs σ s' := by
  refine ⟨⟨i.rep.len, i.rep.nodup, fun j a ao ha hao => ?_, i.rep.newA, fun b o e => k b o (fun q => by subst q; rw [ap.base] at e; cases e) (i.rep.keepA b o e)⟩, ⟨i.fr.kind, i.fr.glob, i.fr.bi, i.fr.names, ?_, i.fr.notIn, i.fr.new, fun x hx => ?_, i.fr.apart⟩, ⟨i.ok.handled, i.ok.depth, i.ok.units, ?_⟩⟩
  · obtain ⟨o, e, q⟩ := i.rep.obj j a ao ha hao
    exact ⟨o, k a o (fun q => hn (q ▸ List.mem_of_getElem? ha)) e, q⟩
  · obtain ⟨m, hm, hv⟩ := i.fr.ns
    refine ⟨m, ?_, hv⟩
    obtain ⟨o, es, ep, ho, r⟩ := hm
    exact ⟨o, es, ep, k _ o ap.loc ho, r⟩
  · obtain ⟨c, u, h1, h2, h3, h5⟩ := i.fr.cell x hx
    obtain ⟨o, ho, hd⟩ := h2
    exact ⟨c, u, h1, ⟨o, k c o (ap.cell x c hx h1) ho, hd⟩, h3, h5⟩
  · obtain ⟨fr, h1, h2⟩ := i.ok.frames
    refine ⟨fr, h1, fun e he => ?_⟩
    obtain ⟨hk, L, o, es, ep, hf, ho, hd, hn', hb⟩ := h2 e he
    exact ⟨hk, L, o, es, ep, hf, k L o (fun q => ap.fr fr h1 e he (q ▸ hf)) ho, hd, hn', hb⟩
theorem Grow.hid {own : Addr → Prop} (hown : own I) (k : ∀ b o, b ≠ I → s.heap.get? b = some o → s'.heap.get? b = some o) (hI : ∃ o, s'.heap.get? I = some o) (hg : s'.gens = s.gens) (ho : s'.os = s.os) : Grow own ρ s ρ s' :=
  ⟨List.prefix_rfl, fun _ hb => .inl hb, fun b o e => (if q : b = I then q ▸ hI else ⟨o, k b o q e⟩), fun b o e _ hw => ⟨o, k b o (fun q => hw (q ▸ hown)) e, .refl o⟩, hg, ho⟩
theorem Grow.widen {own own' : Addr → Prop} (g : Grow own ρ s ρ' s') (h : ∀ b, own b → own' b) : Grow own' ρ s ρ' s' := g.own fun b hb => .inl (h b hb)

def OwnOr (sc : Scope) (env : Env) (I b : Addr) : Prop := Own sc env b ∨ b = I

end
end Mine
end

section
namespace Mine
open PySem PySem.W PyProof.Rows PySem.Calls
inductive Binds (sc : Scope) : Expr → Item → Bs → Bs → Prop
  | one {x : Str} {p : Pos} {v : AV} {bs : Bs} (h : isLoc sc x = true) : Binds sc (.Name x p) (.one v) bs ((x, v) :: bs)
  | two {a b : Str} {p q : Pos} {x1 : Nat} {pt : Pos} {k v : AV} {bs : Bs} (h : (isLoc sc a && isLoc sc b) = true) : Binds sc (.Tuple [.Name a p, .Name b q] x1 pt) (.two k v) bs ((b, v) :: (a, k) :: bs)
section
variable {X : Cx} {sc : Scope} {env : Env} {A : Around} {N : Nat} {ρ ρ' : List Addr} {s s' : Shared} {I a : Addr} {ob : Obj} {j : Nat} {es : List (Int × AV)}
structure FeedI (X : Cx) (j : Nat) (o : AO) (xs : List Item) (I ax : Addr) (St : Nat → Heap → Prop) : Prop where
  at_ : ∀ k h h', St k h → (∀ ob, h.get? I = some ob → h'.get? I = some ob) → St k h'
  obj : ∀ k h, St k h → ∃ ob, h.get? I = some ob ∧ ∀ es ep, ob.data ≠ .dict es ep
  item : ∀ k sc env A N ρ bs σ s x target bs', Apart X sc env A I → Inv X sc env A N ρ bs σ s → I ∉ ρ → ρ[j]? = some ax → σ[j]? = some o → xs[k]? = some x → St k s.heap → Binds sc target x bs bs' →
    wpAny (model X.prog X.w) A (pyNext (.ref I)) (fun r s₁ => ∃ v, r = some v ∧ wpAny (model X.prog X.w) A (letOwnedTupleGo target (.ref I) v) (fun _ s₂ => wpAny (model X.prog X.w) A (assign target env v)
      (fun _ s₃ => Inv X sc env A N ρ bs' σ s₃ ∧ Grow (OwnOr sc env I) ρ s ρ s₃ ∧ St (k + 1) s₃.heap) (fun _ _ => False) s₂) (fun _ _ => False) s₁) (fun _ _ => False) s
  done : ∀ A ρ σ s, A.handled = none → Rep X ρ σ s.heap → I ∉ ρ → ρ[j]? = some ax → σ[j]? = some o → St xs.length s.heap → ∀ Q : Option Value → Shared → Prop,
    (∀ h' tk, (∀ b ob, b ≠ I → s.heap.get? b = some ob → h'.get? b = some ob) → Q none { s with heap := h', toks := tk }) → wpAny (model X.prog X.w) A (pyNext (.ref I)) Q (fun _ _ => False) s
  self : ∀ k A s (Q : Value → Shared → Prop), St k s.heap → Q (.ref I) s → wpAny (model X.prog X.w) A (pyIter (.ref I)) Q (fun _ _ => False) s

theorem feedI_one {vs : List AV} {o : AO} {ax : Addr} {St : Nat → Heap → Prop} (F : Feed X j o vs I ax St) : FeedI X j o (vs.map .one) I ax St where
  at_ := F.at_
  obj := F.obj
  item := fun k sc env A N ρ bs σ s x target bs' ap i hn ha hσ hx hst e => by
    rw [List.getElem?_map] at hx
    obtain ⟨v, hv, rfl⟩ := Option.map_eq_some_iff.mp hx
    cases e with
    | one hl =>
      refine F.item k A ρ σ s v i.ok.handled i.rep hn ha hσ hv hst _ fun u h' tk hu st' kp => ⟨u, rfl, ?_⟩
      refine wpAny_pure (wpAny_assign_Name ?_)
      have i' : Inv X sc env A N ρ bs σ { s with heap := h', toks := tk } := i.hid (s' := { s with heap := h', toks := tk }) ap hn kp
      refine wpAny_mono (wp_store i' hu (H.loc_of hl)) (fun _ s₃ d => ?_) fun _ _ z => z
      obtain ⟨i3, g3⟩ := d
      obtain ⟨ob, hob, hnd⟩ := F.obj _ _ st'
      have g1 : Grow (OwnOr sc env I) ρ s ρ { s with heap := h', toks := tk } := Grow.hid (.inr rfl) kp ⟨ob, hob⟩ rfl rfl
      refine ⟨i3, g1.trans (g3.widen fun b hb => .inl hb), F.at_ _ _ _ st' fun ob' hob' => ?_⟩
      obtain ⟨o2, ho2, hs⟩ := g3.kept I ob' hob' hn ap.notOwn
      have : ob' = ob := by rw [hob] at hob'; cases hob'; rfl
      subst this
      rw [hs.eq hnd] at ho2
      exact ho2
  self := F.self
  done := fun A ρ σ s h1 h2 h3 h4 h5 h6 => F.done A ρ σ s h1 h2 h3 h4 h5 (by simpa using h6)

theorem DReps.get {ρ : List Addr} : ∀ {es : List (Int × AV)} {kvs : List (Int × Value)}, DReps ρ es kvs → ∀ {k : Nat} {e : Int × AV}, es[k]? = some e → ∃ u, kvs[k]? = some (e.1, u) ∧ VRep ρ e.2 u
  | [], [], _, _, _, h => by simp at h
  | e :: es, (q, u) :: kvs, r, 0, e', h => by
    simp at h; subst h
    obtain ⟨h1, h2, _⟩ := r
    simp only at h1 h2
    subst h1
    exact ⟨u, rfl, h2⟩
  | e :: es, x :: kvs, r, k + 1, e', h => by
    simp only [List.getElem?_cons_succ] at h ⊢
    exact DReps.get r.2.2 h
  | [], _ :: _, r, _, _, _ => r.elim
  | _ :: _, [], r, _, _, _ => r.elim

theorem frz_dictAt {X : Cx} {ρ : List Addr} {σ : Store} {h : Heap} {ax : Addr} {ob : Obj} {ep : Nat} {ds : Array DictEntry} {es : List (Int × AV)} (hX : X.at ax = none) (hd : ob.data = .dict ds ep) (r : Rep (X.frz ax ob) ρ σ h) (ha : ρ[j]? = some ax) (hσ : σ[j]? = some (.fdict es)) :
    ∃ kvs, h.DictAt (intKind X.prog X.w) ax kvs ep ∧ DReps ρ es kvs := by
  have hk := r.keepA ax ob (at_frz_self hX)
  obtain ⟨o', e', q⟩ := r.obj j ax _ ha hσ
  rw [hk] at e'; cases e'
  obtain ⟨h1, ds', ep', kvs, h2, h3, h4, h5, h6, h7⟩ := q
  rw [hd] at h2; cases h2
  exact ⟨kvs, ⟨ob, ds, hk, h1, hd, h3, h4, h5⟩, h6⟩

theorem feed_keys {ax : Addr} {ep : Nat} {ds : Array DictEntry} (hX : X.at ax = none) (hd : ob.data = .dict ds ep) : Feed (X.frz ax ob) j (.fdict es) (es.map fun e => .int e.1) I ax (fun k h => h.IsKeyIter I ax k es.length ep) where
  at_ := fun k h h' st e => st.at e
  obj := fun k h st => by
    obtain ⟨ob, ho, hc, hd⟩ := st
    exact ⟨ob, ho, fun es ep q => by rw [hd] at q; cases q⟩
  item := fun k A ρ σ s v hh r hn ha hσ hv st Q hQ => by
    obtain ⟨kvs, hD, hR⟩ := frz_dictAt hX hd r ha hσ
    rw [List.getElem?_map] at hv
    obtain ⟨e, he, rfl⟩ := Option.map_eq_some_iff.mp hv
    obtain ⟨u, hu, _⟩ := hR.get he
    rw [← hR.length] at st
    refine wpAny_pyNext_dict_item st hD hu fun key h' hkey hit' hs' => ?_
    refine hQ key h' s.toks ?_ (hR.length ▸ hit') fun b ob hb e => hs'.extBut b ob hb e
    exact Value.isInt_shape hkey
  self := fun k A s Q st h => wpAny_pyIter_keyiter st h
  done := fun A ρ σ s hh r hn ha hσ st Q hQ => by
    obtain ⟨kvs, hD, hR⟩ := frz_dictAt hX hd r ha hσ
    rw [List.length_map, ← hR.length] at st
    exact wpAny_pyNext_dict_end hh st hD (by simp) fun h' he' => hQ h' s.toks fun b ob hb e => he' b ob hb e
theorem feed_values {ax : Addr} {ep : Nat} {ds : Array DictEntry} (hX : X.at ax = none) (hd : ob.data = .dict ds ep) : Feed (X.frz ax ob) j (.fdict es) (es.map (·.2)) I ax (fun k h => h.IsValIter I ax k es.length ep) where
  at_ := fun k h h' st e => st.at e
  obj := fun k h st => by
    obtain ⟨ob, ho, hc, hd⟩ := st
    exact ⟨ob, ho, fun es ep q => by rw [hd] at q; cases q⟩
  item := fun k A ρ σ s v hh r hn ha hσ hv st Q hQ => by
    obtain ⟨kvs, hD, hR⟩ := frz_dictAt hX hd r ha hσ
    rw [List.getElem?_map] at hv
    obtain ⟨e, he, rfl⟩ := Option.map_eq_some_iff.mp hv
    obtain ⟨u, hu, hvu⟩ := hR.get he
    rw [← hR.length] at st
    refine wpAny_pyNext_values_item st hD hu fun h' hit' hs' => ?_
    exact hQ u h' s.toks hvu (hR.length ▸ hit') fun b ob hb e => hs'.extBut b ob hb e
  self := fun k A s Q st h => wpAny_pyIter_valiter st h
  done := fun A ρ σ s hh r hn ha hσ st Q hQ => by
    obtain ⟨kvs, hD, hR⟩ := frz_dictAt hX hd r ha hσ
    rw [List.length_map, ← hR.length] at st
    exact wpAny_pyNext_values_end hh st hD (by simp) fun h' he' => hQ h' s.toks fun b ob hb e => he' b ob hb e

theorem feedI_items {ax : Addr} {ep : Nat} {ds : Array DictEntry} (hX : X.at ax = none) (hd : ob.data = .dict ds ep) :
    FeedI (X.frz ax ob) j (.fdict es) (es.map fun e => .two (.int e.1) e.2) I ax (fun k h => ∃ ok ov, IsItemIter h I ax k es.length ep ok ov) where
  at_ := fun k h h' st e => by obtain ⟨ok, ov, st⟩ := st; exact ⟨ok, ov, e _ st⟩
  obj := fun k h st => by
    obtain ⟨ok, ov, st⟩ := st
    exact ⟨_, st, fun es ep q => by cases q⟩
  item := fun k sc env A N ρ bs σ s x target bs' ap i hn ha hσ hx hst e => by
    rw [List.getElem?_map] at hx
    obtain ⟨en, he, rfl⟩ := Option.map_eq_some_iff.mp hx
    cases e with
    | @two xk xv pk pv x1 pt _ _ _ hl =>
    obtain ⟨hlk, hlv⟩ := (Bool.and_eq_true _ _).mp hl
    replace hlk := H.loc_of hlk
    replace hlv := H.loc_of hlv
    obtain ⟨kvs, hD, hR⟩ := frz_dictAt hX hd i.rep ha hσ
    obtain ⟨v, hv, hvr⟩ := hR.get he
    obtain ⟨ok, ov, hst⟩ := hst
    rw [← hR.length] at hst
    refine wpAny_pyNext_items_item hst hD hv fun key h₁ hkey heo ht₁ hz₁ hk₁ => ⟨_, rfl, ?_⟩
    refine wpAny_letOwnedTupleGo_items heo fun h₂ he₂ hs₂ => ?_
    replace hs₂ : Heap.SameBut I h₁ h₂ := hs₂
    have hiH : I < s.heap.objs.size := Heap.lt_size hst
    have ht₂ : h₂.IsTuple s.heap.objs.size #[key, v] := ⟨_, (hs₂.2 _ (Nat.ne_of_gt hiH)).trans ht₁, rfl, _, rfl⟩
    have hz₂ : h₂.objs.size = s.heap.objs.size + 1 := hs₂.1.trans hz₁
    refine wpAny_assign_Tuple i.ok.handled ht₂ rfl rfl fun h₃ hx₃ => ?_
    replace hx₃ : Heap.ExtBut h₂.objs.size h₂ h₃ := hx₃
    have old₃ : ∀ b o, b < s.heap.objs.size → h₂.get? b = some o → h₃.get? b = some o := fun b o hb x => hx₃ b o (by rw [hz₂]; exact Nat.ne_of_lt (Nat.lt_succ_of_lt hb)) x
    have kp : ∀ b o, b ≠ I → s.heap.get? b = some o → h₃.get? b = some o := fun b o hb e => old₃ b o (Heap.lt_size e) (hs₂.extBut b o hb (hk₁ b o hb e))
    have hit₃ : IsItemIter h₃ I ax (k + 1) kvs.length ep key v := old₃ _ _ hiH he₂
    have i₃ : Inv (X.frz ax ob) sc env A N ρ bs σ { s with heap := h₃ } := i.hid (s' := { s with heap := h₃ }) ap hn kp
    have g₃ : Grow (OwnOr sc env I) ρ s ρ { s with heap := h₃ } := Grow.hid (.inr rfl) kp ⟨_, hit₃⟩ rfl rfl
    have hkr : VRep ρ (.int en.1) key := Value.isInt_shape hkey
    show wpAny _ _ (do holding [v] (assign (.Name xk pk) env key); do holding [] (assign (.Name xv pv) env v); pure ()) _ _ _
    refine wpAny_bind (wpAny_holding (wpAny_assign_Name (wpAny_mono (wp_store i₃ hkr hlk) (fun _ s₄ d => ?_) fun _ _ z => z)))
    obtain ⟨i₄, g₄⟩ := d
    refine wpAny_bind (wpAny_holding (wpAny_assign_Name (wpAny_mono (wp_store i₄ (hvr.mono g₄.pre) hlv) (fun _ s₅ d => wpAny_pure ?_) fun _ _ z => z)))
    obtain ⟨i₅, g₅⟩ := d
    refine ⟨i₅, g₃.trans ((g₄.trans g₅).widen fun b hb => .inl hb), key, v, ?_⟩
    obtain ⟨o2, ho2, hs⟩ := (g₄.trans g₅).kept I _ hit₃ hn ap.notOwn
    rw [hs.eq fun es ep q => by cases q] at ho2
    rw [← hR.length]
    exact ho2
  self := fun k A s Q st h => by
    obtain ⟨ok, ov, st⟩ := st
    exact PySem.W.kcp_self st h
  done := fun A ρ σ s hh r hn ha hσ st Q hQ => by
    obtain ⟨kvs, hD, hR⟩ := frz_dictAt hX hd r ha hσ
    obtain ⟨ok, ov, st⟩ := st
    rw [List.length_map, ← hR.length] at st
    exact wpAny_pyNext_items_end hh st hD (by simp) fun h' he' => hQ h' s.toks fun b ob hb e => he' b ob hb e
end
end Mine
end

section
namespace Mine
open PySem PySem.W PyProof.Rows PySem.Calls
theorem loop_lt {L k m : Nat} (hm : m = L - k) (h : k < L) : L - (k + 1) < m := hm ▸ Nat.sub_succ_lt_self L k h
theorem range_l {x c : Int} (hc : 0 < c) : (((x + c - 1) / c).toNat : Int) = if 0 < x then (x - 1) / c + 1 else 0 := by
  have e : x + c - 1 = (x - 1) + 1 * c := by rw [Int.one_mul]; exact Int.add_right_comm x c (-1)
  by_cases h : 0 < x
  · rw [if_pos h, e, Int.add_mul_ediv_right _ _ (Int.ne_of_gt hc)]
    exact Int.toNat_of_nonneg (Int.add_nonneg (Int.ediv_nonneg (Int.sub_nonneg_of_le h) (Int.le_of_lt hc)) (by decide))
  · rw [if_neg h, Int.toNat_eq_zero.mpr (Int.le_of_lt_add_one (Int.ediv_lt_of_lt_mul hc (by omega)))]; rfl
theorem range_len {a b c : Int} (hc : c ≠ 0) : ((if 0 < c then (b - a + c - 1) / c else if c < 0 then (a - b - c - 1) / (-c) else 0).toNat : Int) = Builtin.Range.rangeSize a b c := by
  unfold Builtin.Range.rangeSize
  by_cases h : 0 < c
  · rw [if_pos h, if_pos h, range_l h]
    exact ite_congr (propext Int.sub_pos) (fun _ => rfl) (fun _ => rfl)
  · have hc' : c < 0 := Int.lt_iff_le_and_ne.mpr ⟨Int.not_lt.mp h, hc⟩
    rw [if_neg h, if_neg h, if_pos hc']
    exact (range_l (x := a - b) (Int.neg_pos_of_neg hc')).trans (ite_congr (propext Int.sub_pos) (fun _ => rfl) (fun _ => rfl))
theorem range_q {a b c : Int} (h1 : a.natAbs < 2 ^ 20) (h2 : b.natAbs < 2 ^ 20) (h : a < b) (hc : 0 < c) : 0 ≤ (b - a - 1) / c + 1 ∧ (b - a - 1) / c + 1 < 2 ^ 22 := by
  have hn : (b - a).natAbs < 2 ^ 21 := Nat.lt_of_le_of_lt (Int.natAbs_add_le b (-a)) (by rw [Int.natAbs_neg]; exact Nat.add_lt_add h2 h1)
  have h0 : 0 ≤ b - a - 1 ∧ b - a - 1 < 2 ^ 21 := ⟨Int.sub_nonneg_of_le (Int.sub_pos.mpr h), Int.lt_of_le_of_lt (Int.sub_le_self _ (by decide)) (Int.lt_of_le_of_lt Int.le_natAbs (Int.ofNat_lt.mpr hn))⟩
  exact ⟨Int.add_nonneg (Int.ediv_nonneg h0.1 (Int.le_of_lt hc)) (by decide), Int.lt_of_le_of_lt (Int.add_le_add_right (Int.ediv_le_self c h0.1) 1) (Int.lt_of_lt_of_le (Int.add_lt_add_right h0.2 1) (by decide))⟩
theorem range_size {a b c : Int} (h1 : a.natAbs < 2 ^ 20) (h2 : b.natAbs < 2 ^ 20) (hc : c ≠ 0) : 0 ≤ Builtin.Range.rangeSize a b c ∧ Builtin.Range.rangeSize a b c < 2 ^ 22 := by
  unfold Builtin.Range.rangeSize
  by_cases h : c > 0
  · rw [if_pos h]
    by_cases hab : a < b
    · rw [if_pos hab]; exact range_q h1 h2 hab h
    · rw [if_neg hab]; decide
  · rw [if_neg h]
    by_cases hab : a > b
    · rw [if_pos hab]; exact range_q h2 h1 hab (Int.neg_pos_of_neg (Int.lt_iff_le_and_ne.mpr ⟨Int.not_lt.mp h, hc⟩))
    · rw [if_neg hab]; decide
theorem range_fits {i : Int} (h : i.natAbs ≤ 2 ^ 22) : Builtin.Range.rangeFitsLong i = true := by
  unfold Builtin.Range.rangeFitsLong
  rw [Bool.and_eq_true, decide_eq_true_eq, decide_eq_true_eq]
  exact ⟨Int.neg_le_of_neg_le (Int.le_trans (Int.le_natAbs (a := -i)) (by rw [Int.natAbs_neg]; exact Int.le_trans (Int.ofNat_le.mpr h) (by decide))), Int.lt_of_le_of_lt Int.le_natAbs (Int.lt_of_le_of_lt (Int.ofNat_le.mpr h) (by decide))⟩
theorem range_small {a b c : Int} (h1 : a.natAbs < 2 ^ 20) (h2 : b.natAbs < 2 ^ 20) (h3 : c.natAbs < 2 ^ 20) (hc : c ≠ 0) : Builtin.Range.small a b c = true := by
  have f : ∀ {i : Int}, i.natAbs < 2 ^ 20 → i.natAbs ≤ 2 ^ 22 := fun h => Nat.le_of_lt (Nat.lt_of_lt_of_le h (by decide))
  have g : ∀ {d : Int}, d.natAbs = 1 → (b + (c + d)).natAbs ≤ 2 ^ 22 := fun h => Nat.le_trans (Nat.le_trans (Int.natAbs_add_le ..) (Nat.add_le_add (Nat.le_of_lt h2) (Nat.le_trans (Int.natAbs_add_le ..) (Nat.add_le_add (Nat.le_of_lt h3) (Nat.le_of_eq h))))) (by decide)
  have hs := range_size h1 h2 hc
  have hn : (Builtin.Range.rangeSize a b c).natAbs ≤ 2 ^ 22 := Int.ofNat_le.mp (by rw [Int.natAbs_of_nonneg hs.1]; exact Int.le_of_lt hs.2)
  unfold Builtin.Range.small
  rw [range_fits (f h1), range_fits (f h2), range_fits (f h3), range_fits hn, range_fits (g (d := 1) rfl), show b + (c - 1) = b + (c + -1) from rfl, range_fits (g (d := -1) rfl), ite_self, Bool.or_true]; rfl
theorem rangeInts_get {a b c : Int} {k : Nat} {v : Int} (h : (rangeInts a b c)[k]? = some v) : v = a + k * c := by
  unfold rangeInts at h
  rw [List.getElem?_map] at h
  obtain ⟨q, hq, rfl⟩ := Option.map_eq_some_iff.mp h
  obtain ⟨h1, h2⟩ := List.getElem?_eq_some_iff.mp hq
  rw [List.getElem_range] at h2
  rw [h2]
theorem Fx.frz {X : Cx} (F : Fx X) (a : Addr) (ob : Obj) : Fx (X.frz a ob) where
  sys := F.sys
  miss := F.miss
  kin := F.kin
  cls := fun C h => let K := F.cls C h; ⟨K.isc, K.ga, K.gattr, K.sa, K.over, K.makes, K.own, K.slots⟩
  meth := fun C x f h h' => let K := F.meth C x f h h'; ⟨K.find, K.ty, K.get, K.takes, K.name⟩
  glob := F.glob
  limit := F.limit
  fn := fun a fn h => let ⟨o, fd, D, K⟩ := F.fn a fn h; ⟨o, fd, D, ⟨K.obj, K.data, K.scope, K.co, K.gen, K.body, K.code, K.glob, K.bi, K.clo, K.shape, K.dflt, K.dreps, K.dlen, K.dva, K.names⟩⟩
  mkr := fun a p h => let K := F.mkr a p h; ⟨K.code, K.glob, K.bi⟩
  apart := F.apart
noncomputable def Cfg.frz {P : Prog} {n : Nat} {sc : Scope} (K : Cfg P n sc) (a : Addr) (ob : Obj) : Cfg P n sc := ⟨K.X.frz a ob, K.env, K.A, K.N, K.hP, K.F.frz a ob, K.hN⟩
theorem Grow.trans_new {own own₂ : Addr → Prop} {ρ₁ ρ₂ ρ₃ : List Addr} {s₁ s₂ s₃ : Shared} (x : Grow own ρ₁ s₁ ρ₂ s₂) (y : Grow own₂ ρ₂ s₂ ρ₃ s₃) (h : ∀ b, own₂ b → own b ∨ s₁.heap.get? b = none) : Grow own ρ₁ s₁ ρ₃ s₃ where
  pre := x.pre.trans y.pre
  fresh := fun b hb => (y.fresh b hb).elim (x.fresh b) fun h => by
    cases e : s₁.heap.get? b with
    | none => exact .inr rfl
    | some o => obtain ⟨o', e'⟩ := x.live b o e; rw [e'] at h; cases h
  live := fun b o e => let ⟨o', e'⟩ := x.live b o e; y.live b o' e'
  kept := fun b o e hn ho =>
    let ⟨o', e', h1⟩ := x.kept b o e hn ho
    let ⟨o'', e'', h2⟩ := y.kept b o' e' (x.notIn e hn) fun q => (h b q).elim ho fun z => by rw [e] at z; cases z
    ⟨o'', e'', h1.trans h2⟩
  gens := y.gens.trans x.gens
  os := y.os.trans x.os
namespace H
variable {P : Prog} {n : Nat} {sc : Scope} {bs : Bs} {σ : Store}
structure FeedAt (K : Cfg P n sc) (ρ : List Addr) (s s₁ : Shared) (j : Nat) (o : AO) (xs : List Item) (I ax : Addr) (St : Nat → Heap → Prop) : Prop where
  feed : FeedI K.X j o xs I ax St
  new : s.heap.get? I = none
  keep : ∀ b ob, s.heap.get? b = some ob → s₁.heap.get? b = some ob
  gens : s₁.gens = s.gens
  os : s₁.os = s.os
  at_ : ρ[j]? = some ax
  st : St 0 s₁.heap
  len : xs.length ≤ 2 ^ 22
inductive Src (σ : Store) (i : Nat) : AO → List Item → Prop
  | list {vs : List AV} (h : σ[i]? = some (.list vs)) : Src σ i (.list vs) (vs.map .one)
  | tuple {vs : List AV} (h : σ[i]? = some (.tuple vs)) : Src σ i (.tuple vs) (vs.map .one)
  | range {a b c : Int} (h : σ[i]? = some (.range a b c)) (hs : (small a && small b && small c && c != 0) = true) : Src σ i (.range a b c) ((rangeInts a b c).map fun k => .one (.int k))
inductive SrcD (σ : Store) (d : Nat) (es : List (Int × AV)) : Nat → List Item → Prop
  | dict (h : σ[d]? = some (.dict es)) : SrcD σ d es d (es.map fun e => .one (.int e.1))
  | items {i : Nat} (h : σ[i]? = some (.items d)) (h2 : σ[d]? = some (.dict es)) : SrcD σ d es i (es.map fun e => .two (.int e.1) e.2)
  | values {i : Nat} (h : σ[i]? = some (.values d)) (h2 : σ[d]? = some (.dict es)) : SrcD σ d es i (es.map fun e => .one e.2)
theorem Src.at {i : Nat} {o : AO} {xs : List Item} (h : Src σ i o xs) : σ[i]? = some o := by cases h <;> assumption
theorem SrcD.at {i d : Nat} {es : List (Int × AV)} {xs : List Item} (h : SrcD σ d es i xs) : σ[d]? = some (.dict es) := by cases h <;> assumption
section
variable {K : Cfg P n sc} {ρ : List Addr} {s : Shared} {u : Value} {i : Nat} {o : AO} {xs : List Item} {Q : Value → Shared → Prop}
theorem feed_new {j : Nat} {ob : Obj} {ax : Addr} {St : Nat → Heap → Prop} (F : FeedI K.X j o xs s.heap.objs.size ax St) (ha : ρ[j]? = some ax) (hl : xs.length ≤ 2 ^ 22) (st : St 0 (s.heap.push ob)) : FeedAt K ρ s { s with heap := s.heap.push ob } j o xs s.heap.objs.size ax St :=
  ⟨F, Heap.noneOf (Nat.le_refl _), push_keeps _ _, rfl, rfl, ha, st, hl⟩
theorem map_len {α β : Type} {f : α → β} {l : List α} {m : Nat} (h : l.length ≤ m) (hm : m ≤ 2 ^ 22) : (l.map f).length ≤ 2 ^ 22 := by rw [List.length_map]; exact Nat.le_trans h hm
theorem iter_of (h : Src σ i o xs) (iv : K.I ρ bs σ s) (hu : VRep ρ (.ref i) u) (q : ∀ s₁ I ax St, FeedAt K ρ s s₁ i o xs I ax St → Q (.ref I) s₁) : wpAny K.M K.A (pyIter u) Q (fun _ _ => False) s := by
  obtain ⟨a, ha, rfl⟩ := hu
  obtain ⟨a', ob, ha', ho, r⟩ := iv.rep.at h.at
  rw [ha] at ha'; cases ha'
  cases h with
  | list h =>
    obtain ⟨⟨xs, n, rfl, hr⟩, hl⟩ := r
    exact wpAny_pyIter_list (isList_of ho) (q _ _ _ _ (feed_new (feedI_one feed_list) ha (map_len hl (by decide)) ⟨_, Heap.get?_push_size _ rfl, rfl, rfl⟩))
  | tuple h =>
    obtain ⟨⟨xs, n, rfl, hr⟩, hl⟩ := r
    exact wpAny_pyIter_tuple ⟨_, ho, rfl, n, rfl⟩ (q _ _ _ _ (feed_new (feedI_one feed_tuple) ha (map_len hl (by decide)) ⟨_, Heap.get?_push_size _ rfl, rfl, rfl⟩))
  | @range b c d h hs =>
    simp only [Bool.and_eq_true, small, decide_eq_true_eq, bne_iff_ne, ne_eq] at hs
    obtain ⟨⟨⟨h1, h2⟩, h3⟩, h4⟩ := hs
    obtain ⟨t, u, v, rfl⟩ := r
    have hl : ((rangeInts b c d).length : Int) = Builtin.Range.rangeSize b c d := by rw [← range_len h4]; simp [rangeInts]
    have hs := range_size h1 h2 h4
    rw [← hl] at hs
    have hmap : ((rangeInts b c d).map fun k => Item.one (.int k)) = ((rangeInts b c d).map AV.int).map .one := by rw [List.map_map]; rfl
    refine wpAny_pyIter_range ho (range_small h1 h2 h3 h4) (q _ _ a (fun k h => IsRangeIter h s.heap.objs.size (b + (k : Nat) * d) (((rangeInts b c d).length : Int) - (k : Nat)) d) (feed_new ?_ ha (map_len (m := 2 ^ 22) (by lia) (Nat.le_refl _)) ?_))
    · rw [hmap]
      exact feedI_one (feed_range (by simp) fun k v hv => by
        rw [List.getElem?_map] at hv
        obtain ⟨q, hq, rfl⟩ := Option.map_eq_some_iff.mp hv
        rw [rangeInts_get hq])
    · show Heap.get? _ _ = _
      rw [Heap.get?_push_size _ rfl, hl]
      simp
theorem iterD_of {d : Nat} {es : List (Int × AV)} (h : SrcD σ d es i xs) (iv : K.I ρ bs σ s) (hu : VRep ρ (.ref i) u) : ∃ ax ob, ρ[d]? = some ax ∧ s.heap.get? ax = some ob ∧
    ∀ Q : Value → Shared → Prop, (∀ s₁ I St, FeedAt (K.frz ax ob) ρ s s₁ d (.fdict es) xs I ax St → Q (.ref I) s₁) → wpAny K.M K.A (pyIter u) Q (fun _ _ => False) s := by
  obtain ⟨ad, ob, had, ho, h1, ds, ep, kvs, h2, h3, h4, h5, h6, h7⟩ := iv.rep.at h.at
  have hX := iv.rep.newA d ad _ had h.at rfl
  have hl : es.length ≤ 1000000 := by lia
  refine ⟨ad, ob, had, ho, fun Q q => ?_⟩
  obtain ⟨a, ha, rfl⟩ := hu
  have hone : ∀ {f : Int × AV → AV}, (es.map fun e => Item.one (f e)) = (es.map f).map .one := fun {f} => by rw [List.map_map]; rfl
  cases h with
  | dict h =>
    have e : ad = a := Option.some.inj (had.symm.trans ha)
    subst e
    obtain ⟨os, hos⟩ := K.F.sys
    have hne : (ad == sysModules) = false := by simpa using own_ne iv ha h rfl hos
    have F := feedI_one (feed_keys (I := s.heap.objs.size) (j := i) (es := es) hX h2)
    rw [← hone] at F
    exact wpAny_pyIter_dict (knd := intKind K.X.prog K.X.w) hne ⟨ob, ds, ho, h1, h2, h3, h4, h5⟩ (q _ _ _ (feed_new (K := K.frz ad ob) F ha (map_len hl (by decide)) ⟨_, Heap.get?_push_size _ rfl, rfl, by rw [h6.length]; rfl⟩))
  | items h h' =>
    obtain ⟨a', ob', ha', ho', ad', had', hc, hdi, hf⟩ := iv.rep.at h
    rw [ha] at ha'; cases ha'
    rw [had] at had'; cases had'
    exact wpAny_pyIter_items (knd := intKind K.X.prog K.X.w) ⟨ob', ho', hc, hf⟩ ⟨ob, ds, ho, h1, h2, h3, h4, h5⟩ (q _ _ _ (feed_new (K := K.frz ad ob) (feedI_items (I := s.heap.objs.size) (j := d) (es := es) hX h2) had (map_len hl (by decide)) ⟨.none, .none, by rw [← h6.length]; exact Heap.get?_push_size _ rfl⟩))
  | values h h' =>
    obtain ⟨a', ob', ha', ho', ad', had', hc, hdi, hf⟩ := iv.rep.at h
    rw [ha] at ha'; cases ha'
    rw [had] at had'; cases had'
    have F := feedI_one (feed_values (I := s.heap.objs.size) (j := d) (es := es) hX h2)
    rw [← hone] at F
    exact wpAny_pyIter_values (knd := intKind K.X.prog K.X.w) ⟨ob', ho', hc, hf⟩ ⟨ob, ds, ho, h1, h2, h3, h4, h5⟩ (q _ _ _ (feed_new (K := K.frz ad ob) F had (map_len hl (by decide)) ⟨_, Heap.get?_push_size _ rfl, rfl, by rw [h6.length]; rfl⟩))
end
end H
end Mine
end

section
namespace Mine.H
open PySem PySem.W PyProof.Rows PySem.Calls
variable {P : Prog} {n : Nat} {sc : Scope} {α β γ δ : Type} {bs bs' : Bs} {σ : Store} {Q : Fl → Bs → Store → Prop}
structure Turn (K : Cfg P n sc) (ρ₀ : List Addr) (s₀ : Shared) (I : Addr) (St : Nat → Heap → Prop) (k : Nat) (ρ : List Addr) (bs : Bs) (σ : Store) (s : Shared) : Prop where
  i : K.I ρ bs σ s
  g : Grow (Own sc K.env) ρ₀ s₀ ρ s
  n : I ∉ ρ
  st : St k s.heap
section
variable {K : Cfg P n sc} {ρ₀ ρ ρ' : List Addr} {s₀ s₁ s s' : Shared} {j k : Nat} {o : AO} {xs : List Item} {I ax : Addr} {St : Nat → Heap → Prop} {σ' : Store}
theorem turn_first (F : FeedAt K ρ s s₁ j o xs I ax St) (i : K.I ρ bs σ s) : Turn K ρ s I St 0 ρ bs σ s₁ :=
  ⟨i.ext F.keep F.gens F.os, Grow.ext F.keep F.gens F.os, fun q => (let ⟨o, e⟩ := i.rep.there q; by rw [F.new] at e; cases e), F.st⟩
theorem turn_draw (F : FeedAt K ρ₀ s₀ s₁ j o xs I ax St) (ap : Apart K.X sc K.env K.A I) (t : Turn K ρ₀ s₀ I St k ρ bs σ s) {x : Item} {target : Expr} (hx : xs[k]? = some x) (hσ : σ[j]? = some o) (hb : Binds sc target x bs bs') {R : Shared → Prop} (h : ∀ s', Turn K ρ₀ s₀ I St (k + 1) ρ bs' σ s' → (∀ b ob, b ∉ ρ → ¬ OwnOr sc K.env I b → s.heap.get? b = some ob → ∃ o', s'.heap.get? b = some o' ∧ Sim ob o') → R s') :
    wpN K.M K.A (pyNext (.ref I)) (fun r s₁ => ∃ v, r = some v ∧ wpN K.M K.A (letOwnedTupleGo target (.ref I) v) (fun _ s₂ => wpN K.M K.A (assign target K.env v) (fun _ s₃ => R s₃) s₂) s₁) s :=
  wpN_mono (wpN_any (F.feed.item k sc K.env K.A K.N ρ bs σ s x target bs' ap t.i t.n (pre_get t.g.pre F.at_) hσ hx t.st hb)) fun r t' q =>
    let ⟨v, e, q⟩ := q
    ⟨v, e, wpN_mono (wpN_any q) fun _ _ q => wpN_mono (wpN_any q) fun _ s₃ q => h s₃ ⟨q.1, t.g.trans_new q.2.1 fun b hb => hb.elim .inl fun z => .inr (z ▸ F.new), t.n, q.2.2⟩ fun b ob h1 h2 h3 => q.2.1.kept b ob h3 h1 h2⟩
theorem turn_more (F : FeedAt K ρ₀ s₀ s₁ j o xs I ax St) (ap : Apart K.X sc K.env K.A I) (t : Turn K ρ₀ s₀ I St k ρ bs σ s) (g : Grow (Own sc K.env) ρ s ρ' s') (i : K.I ρ' bs' σ' s') : Turn K ρ₀ s₀ I St k ρ' bs' σ' s' := by
  obtain ⟨ob, hob, hnd⟩ := F.feed.obj _ _ t.st
  refine ⟨i, t.g.trans g, g.notIn hob t.n, F.feed.at_ _ _ _ t.st fun ob' hob' => ?_⟩
  rw [hob] at hob'; cases hob'
  obtain ⟨o2, ho2, hs⟩ := g.kept I ob hob t.n ap.notOwn
  rw [hs.eq hnd] at ho2
  exact ho2
theorem turn_done (F : FeedAt K ρ₀ s₀ s₁ j o xs I ax St) (ap : Apart K.X sc K.env K.A I) (t : Turn K ρ₀ s₀ I St xs.length ρ bs σ s) (hσ : σ[j]? = some o) {Q : Option Value → Shared → Prop} (h : ∀ s', K.I ρ bs σ s' → Grow (Own sc K.env) ρ₀ s₀ ρ s' → (∀ b ob, b ≠ I → s.heap.get? b = some ob → s'.heap.get? b = some ob) → Q none s') : wpN K.M K.A (pyNext (.ref I)) Q s :=
  wpN_any (F.feed.done K.A ρ σ s t.i.ok.handled t.i.rep t.n (pre_get t.g.pre F.at_) hσ t.st _ fun h' tk kp => h _ (t.i.hid (s' := { s with heap := h', toks := tk }) ap t.n kp) (t.g.but F.new kp rfl rfl) kp)
end
theorem Sub.cons2 {a b : Bs} {p : Str × AV} (h : Sub a b) : Sub (p :: a) (p :: b) := fun y v e => by
  rw [List.lookup_cons] at e ⊢
  cases hy : y == p.1 with
  | true => rw [hy] at e; exact e
  | false => rw [hy] at e; exact h _ _ e
theorem Binds.sub {target : Expr} {x : Item} {a a' b : Bs} (h : Binds sc target x a a') (s : Sub a b) : ∃ b', Binds sc target x b b' ∧ Sub a' b' := by
  cases h with
  | one h => exact ⟨_, .one h, Sub.cons2 s⟩
  | two h => exact ⟨_, .two h, Sub.cons2 (Sub.cons2 s)⟩
def HxB (P : Prog) (n : Nat) (sc : Scope) (target : Expr) (x : Item) (b : List Stmt) (bs : Bs) (σ : Store) (Q : Fl → Bs → Store → Prop) : Prop := ∃ bs', Binds sc target x bs bs' ∧ Hx (execs P n sc b) bs' σ Q
theorem hx_bindN {x : Str} {q : Pos} {v : AV} {b : List Stmt} (hx : isLoc sc x = true) (h : Hx (execs P n sc b) ((x, v) :: bs) σ Q) : HxB P n sc (.Name x q) (.one v) b bs σ Q := ⟨_, .one hx, h⟩
theorem hx_bindT {x y : Str} {q q' p : Pos} {k : Nat} {u v : AV} {b : List Stmt} (hk : (isLoc sc x && isLoc sc y) = true) (h : Hx (execs P n sc b) ((y, v) :: (x, u) :: bs) σ Q) : HxB P n sc (.Tuple [.Name x q, .Name y q'] k p) (.two u v) b bs σ Q := ⟨_, .two hk, h⟩
theorem HxB.mono {target : Expr} {x : Item} {b : List Stmt} {Q' : Fl → Bs → Store → Prop} (h : HxB P n sc target x b bs σ Q) (hq : ∀ a bs' σ', Q a bs' σ' → Q' a bs' σ') : HxB P n sc target x b bs σ Q' := let ⟨b', h1, h2⟩ := h; ⟨b', h1, h2.mono hq⟩
@[reducible] def After (R : Bs → Store → Prop) (Q : Fl → Bs → Store → Prop) : Fl → Bs → Store → Prop
  | .next, bs, σ => R bs σ
  | .cont, bs, σ => R bs σ
  | .brk, bs, σ => Q .next bs σ
  | .ret v, bs, σ => Q (.ret v) bs σ
noncomputable def forItems (P : Prog) (n : Nat) (sc : Scope) (j : Nat) (o : AO) (target : Expr) (b : List Stmt) (xs : List Item) : Mm P n sc Fl :=
  ⟨Flow, fun K ρ s R => Top K.env K.A → ∀ s₁ I ax St, FeedAt K ρ s s₁ j o xs I ax St → codeN K.M K.A (.forLoop target (.ref I) b [] K.env) R s₁, fun d h tp s₁ I ax St F => codeN_mono (d tp s₁ I ax St F) h, FRep⟩
noncomputable def runFor (P : Prog) (n : Nat) (sc : Scope) (target : Expr) (b : List Stmt) (src : AV) : Mm P n sc Fl :=
  ⟨Flow, fun K ρ s R => Top K.env K.A → ∀ u, VRep ρ src u → wpN K.M K.A (holding [u] (pyIter u) >>= fun it => runOwn (.forLoop target it b [] K.env) K.env) R s, fun d h tp u hu => wpN_mono (d tp u hu) h, FRep⟩
inductive ForInv (K : Cfg P n sc) (ρ : List Addr) (s : Shared) (It : Addr) (St : Nat → Heap → Prop) (xs : List Item) (B : γ → Bs) (I : γ → List Item → Store → Prop) (m : Nat) (s' : Shared) : Prop
  | mk (k : Nat) (g : γ) (ρ' : List Addr) (bs' : Bs) (σ' : Store) (t : Turn K ρ s It St k ρ' bs' σ' s') (hk : k ≤ xs.length) (hm : m = xs.length - k) (hI : I g (xs.drop k) σ') (hb : Sub (B g) bs')
theorem hx_forItems {j : Nat} {o : AO} {target : Expr} {b : List Stmt} {B : γ → Bs} {I : γ → List Item → Store → Prop} (hw : ∀ g r σ, I g r σ → σ[j]? = some o)
    (hs : ∀ g x r σ, I g (x :: r) σ → HxB P n sc target x b (B g) σ (After (fun bs' σ' => ∃ g', Sub (B g') bs' ∧ I g' r σ') Q))
    (he : ∀ g σ bs', I g [] σ → Sub (B g) bs' → Q .next bs' σ) (xs : List Item) (g : γ) (σ : Store) (bs : Bs) (hI : I g xs σ) (hb : Sub (B g) bs) : Hx (forItems P n sc j o target b xs) bs σ Q := fun K ρ s i tp s₁ It ax St F => by
  have ap := Apart.of i F.new
  refine codeN_for (ForInv K ρ s It St xs B I) (fun m s' q => ?_) xs.length (.mk 0 g ρ bs σ (turn_first F i) (Nat.zero_le _) rfl hI hb)
  cases q with
  | mk k g ρ' bs' σ' t hk hm hI hb =>
  rcases Nat.lt_or_ge k xs.length with hlt | hge
  · rw [List.drop_eq_getElem_cons hlt] at hI
    obtain ⟨b₁, hb₁, hx₁⟩ := hs g _ _ _ hI
    obtain ⟨b₂, hb₂, hs₂⟩ := Binds.sub hb₁ hb
    refine wpN_mono (turn_draw F ap t (List.getElem?_eq_getElem hlt) (hw _ _ _ hI) hb₂ fun s₃ t₁ _ => wpN_mono (Hx.sub hx₁ hs₂ K ρ' s₃ t₁.i tp) fun f s₄ d => ?_) fun r s h => by obtain ⟨v, rfl, h⟩ := h; exact h
    cases d with
    | mk fl b₄ σ₄ ρ₄ q i₄ g₄ v =>
    have t₄ := turn_more F ap t₁ g₄ i₄
    cases fl with
    | next => cases v; exact (let ⟨g', h1, h2⟩ := q; ⟨xs.length - (k + 1), loop_lt hm hlt, .mk (k + 1) g' ρ₄ b₄ σ₄ t₄ hlt rfl h2 h1⟩)
    | cont => cases v; exact (let ⟨g', h1, h2⟩ := q; ⟨xs.length - (k + 1), loop_lt hm hlt, .mk (k + 1) g' ρ₄ b₄ σ₄ t₄ hlt rfl h2 h1⟩)
    | brk => cases v; exact ⟨.next, b₄, σ₄, ρ₄, q, t₄.i, t₄.g, rfl⟩
    | ret w => obtain ⟨y, rfl, hy⟩ := v; exact ⟨.ret w, b₄, σ₄, ρ₄, q, t₄.i, t₄.g, y, rfl, hy⟩
  · have hkl : k = xs.length := Nat.le_antisymm hk hge
    subst hkl
    rw [List.drop_eq_nil_of_le (Nat.le_refl _)] at hI
    exact turn_done F ap t (hw _ _ _ hI) fun s₂ i₂ g₂ _ => wpN_pure ⟨.next, bs', σ', ρ', he g σ' bs' hI hb, i₂, g₂, rfl⟩
theorem runFor_src {target : Expr} {b : List Stmt} {i : Nat} {o : AO} {xs : List Item} (h : Src σ i o xs) (hx : Hx (forItems P n sc i o target b xs) bs σ Q) : Hx (runFor P n sc target b (.ref i)) bs σ Q := fun K ρ s iv tp u hu =>
  wpN_bind (wpN_holding (wpN_any (iter_of h iv hu fun s₁ I ax St F => wpN_runOwn (hx K ρ s iv tp s₁ I ax St F))))
theorem runFor_srcD {target : Expr} {b : List Stmt} {i d : Nat} {es : List (Int × AV)} {xs : List Item} (h : SrcD σ d es i xs) (hx : Hx (forItems P n sc d (.fdict es) target b xs) bs (σ.set d (.fdict es)) fun a bs' σ' => σ'[d]? = some (.fdict es) ∧ Q a bs' (σ'.set d (.dict es))) :
    Hx (runFor P n sc target b (.ref i)) bs σ Q := fun K ρ s iv tp u hu => by
  obtain ⟨ax, ob, ha, ho, it⟩ := iterD_of h iv hu
  refine wpN_bind (wpN_holding (wpN_any (it _ fun s₁ I St F => wpN_runOwn (codeN_mono (hx (K.frz ax ob) ρ s (Inv.freeze iv ha h.at ho) tp s₁ I ax St F) fun f s' q => ?_))))
  cases q with
  | mk a b' σ' ρ' q i g v => exact ⟨a, b', _, ρ', q.2, Inv.thaw i (iv.rep.newA d ax _ ha h.at rfl) (pre_get g.pre ha) q.1, g, v⟩
theorem runFor_list {target : Expr} {b : List Stmt} {i : Nat} {vs : List AV} (e : σ[i]? = some (.list vs)) (h : Hx (forItems P n sc i (.list vs) target b (vs.map .one)) bs σ Q) : Hx (runFor P n sc target b (.ref i)) bs σ Q := runFor_src (.list e) h
theorem runFor_tuple {target : Expr} {b : List Stmt} {i : Nat} {vs : List AV} (e : σ[i]? = some (.tuple vs)) (h : Hx (forItems P n sc i (.tuple vs) target b (vs.map .one)) bs σ Q) : Hx (runFor P n sc target b (.ref i)) bs σ Q := runFor_src (.tuple e) h
theorem runFor_range {target : Expr} {body : List Stmt} {i : Nat} {a b c : Int} (e : σ[i]? = some (.range a b c)) (hc : (small a && small b && small c && c != 0) = true) (h : Hx (forItems P n sc i (.range a b c) target body ((rangeInts a b c).map fun k => .one (.int k))) bs σ Q) : Hx (runFor P n sc target body (.ref i)) bs σ Q := runFor_src (.range e hc) h
theorem folded_no {e : Expr} (h : notSet e = true) (env : Env) (x : Value) : foldedSetIterable e env x = pure x := by
  cases e <;> first | rfl | exact absurd h Bool.false_ne_true
theorem hs_for {target iter : Expr} {b : List Stmt} {p : Pos} (hs : notSet iter = true) (h : Hx (ev P n sc iter) bs σ fun src bs' σ' => Hx (runFor P n sc target b src) bs' σ' Q) : Hx (exec P n sc (.For target iter b [] p)) bs σ Q := fun K ρ s i tp => by
  show wpN _ _ (PySem.exec _ _) _ _
  rw [exec_For]
  refine wpN_stand (thenP (h K ρ s i) fun a _ _ ρ₁ u t₁ h i₁ p₁ hu => ?_)
  rw [folded_no hs]
  exact wpN_bind (wpN_pure (wpN_stand (h K ρ₁ t₁ i₁ tp u hu)))
noncomputable def whileF (P : Prog) (n : Nat) (sc : Scope) (t : Expr) (b e : List Stmt) : Mm P n sc Fl := ⟨Flow, fun K ρ s R => Top K.env K.A → codeN K.M K.A (.whileLoop t b e K.env) R s, fun d h tp => codeN_mono (d tp) h, FRep⟩
theorem hs_while {t : Expr} {b e : List Stmt} {p : Pos} (h : Hx (whileF P n sc t b e) bs σ Q) : Hx (exec P n sc (.While t b e p)) bs σ Q := fun K ρ s i tp => by
  show wpN _ _ (PySem.exec _ _) _ _
  rw [exec_While]
  exact wpN_stand (wpN_runOwn (h K ρ s i tp))
inductive WhInv (K : Cfg P n sc) (ρ : List Addr) (s : Shared) (B : γ → Bs) (I : γ → Store → Prop) (μ : γ → Nat) (m : Nat) (s' : Shared) : Prop
  | mk (g : γ) (ρ' : List Addr) (bs' : Bs) (σ' : Store) (i : K.I ρ' bs' σ' s') (g₁ : Grow (Own sc K.env) ρ s ρ' s') (hI : I g σ') (hb : Sub (B g) bs') (hm : μ g = m)
theorem hx_while {t : Expr} {b e : List Stmt} {B : γ → Bs} {I : γ → Store → Prop} {μ : γ → Nat}
    (hs : ∀ g σ, I g σ → Hx (evT P n sc t) (B g) σ fun c bs' σ' => (c = true → Hx (execs P n sc b) bs' σ' (After (fun bs' σ' => ∃ g', Sub (B g') bs' ∧ I g' σ' ∧ μ g' < μ g) Q)) ∧ (c = false → Hx (execs P n sc e) bs' σ' Q)) (g : γ) (σ : Store) (bs : Bs) (hI : I g σ) (hb : Sub (B g) bs) : Hx (whileF P n sc t b e) bs σ Q := fun K ρ s i tp => by
  refine codeN_while (WhInv K ρ s B I μ) (fun m s₁ q => ?_) (μ g) (.mk g ρ bs σ i Grow.refl hI hb rfl)
  cases q with
  | mk g ρ₁ b₁ σ₁ i₁ g₁ hI hb hm =>
  refine wpN_mono (Hx.sub (hs g σ₁ hI) hb K ρ₁ s₁ i₁) fun c s₂ d => ?_
  cases d with
  | mk c' b₂ σ₂ ρ₂ q i₂ g₂ v =>
  cases v
  cases c with
  | false => exact wpN_mono (q.2 rfl K ρ₂ s₂ i₂ tp) fun _ _ d => d.trans (g₁.trans g₂)
  | true =>
    refine wpN_mono (q.1 rfl K ρ₂ s₂ i₂ tp) fun f s₃ d => ?_
    cases d with
    | mk fl b₃ σ₃ ρ₃ q i₃ g₃ v =>
    have gg := g₁.trans (g₂.trans g₃)
    cases fl with
    | next => cases v; exact (let ⟨g', h1, h2, h3⟩ := q; ⟨_, hm ▸ h3, .mk g' ρ₃ b₃ σ₃ i₃ gg h2 h1 rfl⟩)
    | cont => cases v; exact (let ⟨g', h1, h2, h3⟩ := q; ⟨_, hm ▸ h3, .mk g' ρ₃ b₃ σ₃ i₃ gg h2 h1 rfl⟩)
    | brk => cases v; exact ⟨.next, b₃, σ₃, ρ₃, q, i₃, gg, rfl⟩
    | ret w => obtain ⟨y, rfl, hy⟩ := v; exact ⟨.ret w, b₃, σ₃, ρ₃, q, i₃, gg, y, rfl, hy⟩
end Mine.H
end

section
namespace Mine
open PySem PySem.W PyProof.Rows PySem.Calls
section
variable {prog : Program} {w : World} {A : Around} {E : Value → Shared → Prop} {s : Shared}

theorem stop_tree {it l : Addr} {k : Nat} {items : Array Value} {Q : Fin → Shared → Prop} (hh : A.handled = none) (hit : s.heap.IsListIter it l k) (hl : s.heap.IsList l items) (hx : items[k]? = none)
    (hE : ∀ h' e, (∀ b o, b ≠ it → s.heap.get? b = some o → h'.get? b = some o) → (∃ o, h'.get? it = some o) → s.heap.get? e = none →
      (∃ ob t, h'.get? e = some ob ∧ ob.cls = .type "StopIteration" ∧ ob.data = .fields t ∧ t[1]? = some .none ∧ ∃ a0, t[0]? = some a0) → E (.ref e) { s with heap := h' }) :
    wpAny (model prog w) A (Builtin.«list_iterator.__next__» ⟨[.ref it], []⟩) Q E s := by
  obtain ⟨o, ho, hc, hd⟩ := id hit
  obtain ⟨ol, hol, _, nl, hdl⟩ := hl
  show wpAny _ _ (field (.ref it) 0 >>= _) _ _ s
  refine wpAny_bind (wpAny_field ho hd (x := .ref l) rfl ?_)
  show wpAny _ _ (if (Value.ref l == Value.none) = true then _ else _) _ _ s
  rw [if_neg (show ¬ ((Value.ref l == Value.none) = true) from Bool.false_ne_true)]
  show wpAny _ _ (field (.ref it) 1 >>= _) _ _ s
  refine wpAny_bind (wpAny_field ho hd (x := .int k 0) rfl ?_)
  show wpAny _ _ (seqItems? (.ref l) >>= _) _ _ s
  refine wpAny_bind (wpAny_seqItems hol hdl ?_)
  simp only [Int.toNat_natCast, hx]
  refine wpAny_bind (wpAny_rule (wpAny_bind (wpAny_setField ho hd (by simp) ?_)))
  show wpAny _ _ (newExc (.type "StopIteration") [] >>= _) _ _ _
  refine wpAny_bind ?_
  simp only [newExc, newTuple]
  refine wpAny_bind (wpAny_newObj_type ?_ (by size_fits))
  refine wpAny_bind (m := firstArgMember _ _) (wpAny_of_eq (a := Value.none) (by first | rfl | (simp only [firstArgMember]; rfl)) ?_)
  refine wpAny_newObj_type ?_ (by size_fits)
  simp only [raiseNew]
  refine wpAny_bind (wpAny_handled ?_)
  rw [hh]
  refine wpAny_bind (wpAny_pure (wpAny_throw ?_))
  refine hE _ _ (fun b ob hb e => ?_) ⟨_, Heap.get?_push_of_some _ (Heap.get?_push_of_some _ (Heap.get?_update_self _ ho (Obj.isFreed_of_fields (Obj.data_mapFields hd _))))⟩ (Heap.noneOf ?_) ⟨_, _, Heap.get?_push_size _ rfl, rfl, rfl, rfl, _, rfl⟩
  · exact Heap.get?_push_of_some _ (Heap.get?_push_of_some _ (by rw [Heap.get?_update_other _ _ (Ne.symm hb)]; exact e))
  · rw [Heap.size_push, Heap.size_update]; exact Nat.le_succ _

theorem next_end {it l : Addr} {k : Nat} {items : Array Value} {Q : Option Value → Shared → Prop} (hh : A.handled = none) (hit : s.heap.IsListIter it l k) (hl : s.heap.IsList l items) (hx : items[k]? = none)
    (hQ : ∀ h', (∀ b o, b ≠ it → s.heap.get? b = some o → h'.get? b = some o) → (∃ o, h'.get? it = some o) → Q none { s with heap := h' }) : wpAny (model prog w) A (pyNext (.ref it)) Q E s := by
  unfold pyNext
  refine wpAny_bind (wpAny_attempt (wpAny_callSpecial?_slot (name := Str.ofString "__next__") hit.typeIs slot_listiter_next
    (wpAny_call_entry slot_listiter_next hit.typeIs entry_listiter_next (stop_tree hh hit hl hx fun h' e kp hI hn ho => ?_) (args_listiter_next _))))
  obtain ⟨ob, t, hob, hc, hd, h1, _⟩ := ho
  refine wpAny_bind (wpAny_isInstance (T := "StopIteration") (b := true) ⟨_, hob, hc⟩ isSubtype_stop ?_)
  exact wpAny_pure (hQ h' kp hI)
end

namespace H
variable {P : Prog} {n : Nat} {sc : Scope} {γ : Type} {bs : Bs} {σ : Store} {Q : Fl → Bs → Store → Prop}
theorem iter_at {K : Cfg P n sc} {ρ : List Addr} {s : Shared} {it l k : Nat} {vs : List AV} (i : K.I ρ bs σ s) (h1 : σ[it]? = some (.iter l k)) (h2 : σ[l]? = some (.list vs)) :
    ∃ a al xs, ρ[it]? = some a ∧ ρ[l]? = some al ∧ s.heap.IsListIter a al k ∧ s.heap.IsList al xs ∧ VReps ρ vs xs.toList := by
  obtain ⟨a, oi, ha, hoi, al, hal, hci, hdi, _⟩ := i.rep.at h1
  obtain ⟨al', xs, m, hal', hol, hr, _⟩ := list_at i h2
  rw [hal] at hal'; cases hal'
  exact ⟨a, al, xs, ha, hal, ⟨oi, hoi, hci, hdi⟩, isList_of hol, hr⟩
theorem vreps_end {ρ : List Addr} {vs : List AV} {xs : Array Value} (r : VReps ρ vs xs.toList) {k : Nat} (h : vs.length ≤ k) : xs[k]? = none := by
  have h1 := r.length
  rw [Array.length_toList] at h1
  exact Array.getElem?_eq_none (by lia)
theorem vreps_get {ρ : List Addr} {vs : List AV} {xs : Array Value} (r : VReps ρ vs xs.toList) {k : Nat} {v : AV} (h : vs[k]? = some v) : ∃ y, xs[k]? = some y ∧ VRep ρ v y :=
  let ⟨y, h1, h2⟩ := r.get h; ⟨y, by rwa [Array.getElem?_toList] at h1, h2⟩
inductive ItInv (K : Cfg P n sc) (ρ : List Addr) (s : Shared) (vs : List AV) (B : γ → Bs) (I : γ → Nat → Store → Prop) (m : Nat) (s' : Shared) : Prop
  | mk (k : Nat) (g : γ) (ρ' : List Addr) (bs' : Bs) (σ' : Store) (i : K.I ρ' bs' σ' s') (g₁ : Grow (Own sc K.env) ρ s ρ' s') (hI : I g k σ') (hb : Sub (B g) bs') (hk : k ≤ vs.length) (hm : m = vs.length - k)
theorem hx_forIter {it l : Nat} {x : Str} {px : Pos} {b : List Stmt} {vs : List AV} {B : γ → Bs} {I : γ → Nat → Store → Prop} (hx : isLoc sc x = true) (hw : ∀ g k σ, I g k σ → σ[it]? = some (.iter l k) ∧ σ[l]? = some (.list vs))
    (hs : ∀ g k σ v, I g k σ → vs[k]? = some v → Hx (execs P n sc b) ((x, v) :: B g) (σ.set it (.iter l (k + 1))) fun fl bs' σ' => fl = .next ∧ ∃ g', Sub (B g') bs' ∧ I g' (k + 1) σ')
    (he : ∀ g k σ bs', I g k σ → vs.length ≤ k → Sub (B g) bs' → Q .next bs' (σ.set it .junk)) (g : γ) (k : Nat) (σ : Store) (bs : Bs) (hI : I g k σ) (hb : Sub (B g) bs) (hk : k ≤ vs.length) : Hx (runFor P n sc (.Name x px) b (.ref it)) bs σ Q := fun K ρ s i tp u hu => by
  obtain ⟨h1, h2⟩ := hw g k σ hI
  obtain ⟨a, al, xs, ha, hal, hit, hls, hr⟩ := iter_at i h1 h2
  obtain ⟨a', ha', rfl⟩ := hu
  rw [ha] at ha'; cases ha'
  refine wpN_bind (wpN_holding (wpN_any (wpAny_pyIter_listiter hit (wpN_runOwn ?_))))
  refine codeN_for (ItInv K ρ s vs B I) (fun m s₁ q => ?_) _ (.mk k g ρ bs σ i Grow.refl hI hb hk rfl)
  clear hI hb hk hit hls hr hal h1 h2 i
  cases q with
  | mk k g ρ₁ b₁ σ₁ i₁ g₁ hI hb hk hm =>
  obtain ⟨h1, h2⟩ := hw g k σ₁ hI
  obtain ⟨a', al, xs, ha', hal, hit, hls, hr⟩ := iter_at i₁ h1 h2
  rw [pre_get g₁.pre ha] at ha'; cases ha'
  cases hv : vs[k]? with
  | some v =>
    obtain ⟨y, hy, hvy⟩ := vreps_get hr hv
    have hlt : k < vs.length := (List.getElem?_eq_some_iff.mp hv).1
    refine wpN_any (wpAny_pyNext_list_item hit hls hy fun h' hit' hs' => wpN_pure ?_)
    obtain ⟨o', ho', hc', hd'⟩ := hit'
    have d : PostK K ρ₁ s₁ (fun _ (_ : Unit) _ => True) (fun _ bs' σ' => bs' = b₁ ∧ σ' = σ₁.set it (.iter l (k + 1))) () { s₁ with heap := h' } :=
      post_put (s' := { s₁ with heap := h' }) (ao' := .iter l (k + 1)) i₁ (pre_get g₁.pre ha) h1 rfl (fun b o hb e => hs'.extBut b o hb e) ho' ⟨al, hal, hc', hd', fun q => by lia⟩ rfl rfl (a := ()) ⟨rfl, rfl⟩ trivial
    cases d with
    | mk _ b₂ σ₂ ρ₂ q i₂ g₂ _ =>
    obtain ⟨rfl, rfl⟩ := q
    refine wpN_any (wpAny_assign_Name (wpAny_mono (wp_store i₂ (hvy.mono g₂.pre) (loc_of hx)) (fun _ t d => ?_) fun _ _ z => z))
    refine wpN_mono (Hx.sub (hs g k σ₁ v hI hv) (Sub.cons2 hb) K ρ₂ t d.1 tp) fun f t₂ d₂ => ?_
    cases d₂ with
    | mk fl b₄ σ₄ ρ₄ q i₄ g₄ v =>
    obtain ⟨rfl, g', h3, h4⟩ := q
    cases v
    exact ⟨vs.length - (k + 1), loop_lt hm hlt, .mk (k + 1) g' ρ₄ b₄ σ₄ i₄ (g₁.trans (g₂.trans (d.2.trans g₄))) h4 h3 hlt rfl⟩
  | none =>
    have hge : vs.length ≤ k := List.getElem?_eq_none_iff.mp hv
    refine wpN_any (next_end i₁.ok.handled hit hls (vreps_end hr hge) fun h' kp hI' => wpN_pure ?_)
    obtain ⟨o', ho'⟩ := hI'
    exact Post.trans (post_put (s' := { s₁ with heap := h' }) (ao' := .junk) i₁ (pre_get g₁.pre ha) h1 rfl kp ho' trivial rfl rfl (he g k σ₁ b₁ hI hge hb) (a := .next) rfl) g₁
end H
end Mine
end

section
namespace Mine.H
open PySem PySem.W PyProof.Rows PySem.Calls
variable {P : Prog} {n : Nat} {sc csc : Scope} {bs bs' B : Bs} {σ : Store} {Q : List AV → Bs → Store → Prop}
noncomputable def testsT (ifs : List Expr) (env : Env) (b : Bool) : Sem Bool := forIn ifs b fun c r => if r = true then do let ok ← PySem.isTrue c env (PySem.eval c env); pure (ForInStep.yield ok) else pure (ForInStep.yield r)
noncomputable def evTests (P : Prog) (n : Nat) (sc : Scope) (ifs : List Expr) : Mm P n sc Bool := tree (fun env => testsT ifs env true) boolV
noncomputable def evInner (P : Prog) (n : Nat) (sc : Scope) (elt : Expr) : Mm P n sc (List AV) := tree (PySem.eval elt) fun ρ vs u => ∃ v, vs = [v] ∧ VRep ρ v u
theorem tests_false {env : Env} : ∀ {ifs : List Expr}, testsT ifs env false = pure false
  | [] => rfl
  | c :: r => by
    unfold testsT
    rw [List.forIn_cons]
    exact tests_false (ifs := r)
theorem hx_tests0 {Q : Bool → Bs → Store → Prop} (h : Q true bs σ) : Hx (evTests P n sc []) bs σ Q := fun K ρ s i => wpN_pure (post_here i h rfl)
theorem hx_tests1 {e : Expr} {r : List Expr} {Q : Bool → Bs → Store → Prop} (h : Hx (evT P n sc e) bs σ fun b bs' σ' => (b = true → Hx (evTests P n sc r) bs' σ' Q) ∧ (b = false → Q false bs' σ')) : Hx (evTests P n sc (e :: r)) bs σ Q := fun K ρ s i => by
  show wpN _ _ (testsT _ _ _) _ _
  unfold testsT
  rw [List.forIn_cons]
  refine wpN_bind (wpN_bind (wpN_mono (h K ρ s i) fun c t d => wpN_pure ?_))
  cases d with
  | mk c' b₁ σ₁ ρ₁ q i₁ g₁ v =>
  cases v
  cases c with
  | true => exact wpN_mono (q.1 rfl K ρ₁ t i₁) fun _ _ d => d.trans g₁
  | false =>
    show wpN _ _ (testsT _ _ _) _ _
    rw [tests_false]
    exact wpN_pure ⟨false, b₁, σ₁, ρ₁, q.2 rfl, i₁, g₁, rfl⟩
theorem hx_inner0 {elt : Expr} (h : Hx (ev P n sc elt) bs σ fun v bs' σ' => Q [v] bs' σ') : Hx (evInner P n sc elt) bs σ Q := fun K ρ s i =>
  wpN_mono (h K ρ s i) fun u t d => by
    cases d with
    | mk v b₁ σ₁ ρ₁ q i₁ g₁ r => exact ⟨[v], b₁, σ₁, ρ₁, q, i₁, g₁, v, rfl, r⟩
def HxI (P : Prog) (n : Nat) (sc : Scope) (ifs : List Expr) (elt : Expr) (bs : Bs) (σ : Store) (Q : List AV → Bs → Store → Prop) : Prop := Hx (evTests P n sc ifs) bs σ fun c bs' σ' => (c = true → Hx (evInner P n sc elt) bs' σ' Q) ∧ (c = false → Q [] bs' σ')
def HxC (P : Prog) (n : Nat) (sc : Scope) (target : Expr) (x : Item) (ifs : List Expr) (elt : Expr) (bs : Bs) (σ : Store) (Q : List AV → Bs → Store → Prop) : Prop := ∃ bs', Binds sc target x bs bs' ∧ HxI P n sc ifs elt bs' σ Q
theorem HxC.mono {target : Expr} {x : Item} {ifs : List Expr} {elt : Expr} {Q' : List AV → Bs → Store → Prop} (h : HxC P n sc target x ifs elt bs σ Q) (hq : ∀ a bs' σ', Q a bs' σ' → Q' a bs' σ') : HxC P n sc target x ifs elt bs σ Q' :=
  let ⟨b', h1, h2⟩ := h
  ⟨b', h1, Hx.mono h2 fun c bs' σ' q => ⟨fun e => (q.1 e).mono hq, fun e => hq _ _ _ (q.2 e)⟩⟩
theorem hx_cbindN {x : Str} {q : Pos} {v : AV} {ifs : List Expr} {elt : Expr} (hx : isLoc sc x = true) (h : HxI P n sc ifs elt ((x, v) :: bs) σ Q) : HxC P n sc (.Name x q) (.one v) ifs elt bs σ Q := ⟨_, .one hx, h⟩
theorem hx_cbody {ifs : List Expr} {elt : Expr} (h : Hx (evTests P n sc ifs) bs σ fun b bs' σ' => (b = true → Hx (evInner P n sc elt) bs' σ' Q) ∧ (b = false → Q [] bs' σ')) : HxI P n sc ifs elt bs σ Q := h
noncomputable def compItems (P : Prog) (n : Nat) (csc : Scope) (gs : List Comprehension) (j : Nat) (o : AO) (target : Expr) (ifs : List Expr) (elt : Expr) (xs : List Item) : Mm P n csc (List AV) :=
  ⟨Addr × Array Value, fun K ρ s R => ∀ s₁ I ax St D p gens d iter scope pos, FeedAt K ρ s s₁ j o xs I ax St → s.heap.get? D = none → s₁.heap.PlainList D p → p.size * 2 ^ gs.length ≤ 2 ^ 21 → I ≠ D → gens[d]? = some ⟨target, iter, ifs, 0⟩ → gens.drop (d + 1) = gs →
    codeN K.M K.A (.compLoop (.ListComp elt gens scope pos) d (.ref I) (.ref D) K.env) (fun f s' => ∃ vs, s'.heap.PlainList D (p ++ vs) ∧ R (D, vs) s') s₁,
    fun h' h s₁ I ax St D p gens d iter scope pos F h1 h2 h3 h4 h5 h6 => codeN_mono (h' s₁ I ax St D p gens d iter scope pos F h1 h2 h3 h4 h5 h6) fun f s' q => let ⟨vs, q1, q2⟩ := q; ⟨vs, q1, h _ _ q2⟩, fun ρ vs u => u.1 ∉ ρ ∧ VReps ρ vs u.2.toList⟩
structure Acc (p : Array Value) (s : Shared) (ρ : List Addr) (D : Addr) (a : List AV) (ys : Array Value) : Prop where
  l : s.heap.PlainList D (p ++ ys)
  n : D ∉ ρ
  v : VReps ρ a ys.toList
theorem Acc.keep {p : Array Value} {own : Addr → Prop} {s s' : Shared} {ρ ρ' : List Addr} {D : Addr} {a : List AV} {ys : Array Value} (h : Acc p s ρ D a ys) (hD : ¬ own D) (g : Grow own ρ s ρ' s') : Acc p s' ρ' D a ys := by
  obtain ⟨m, ho⟩ := h.l
  obtain ⟨o', ho', hs⟩ := g.kept D _ ho h.n hD
  rw [hs.eq fun es ep q => by cases q] at ho'
  exact ⟨⟨m, ho'⟩, g.notIn ho h.n, h.v.mono g.pre⟩
theorem Acc.push {p : Array Value} {K : Cfg P n sc} {s : Shared} {ρ₀ ρ : List Addr} {s₀ s₁ : Shared} {I D ax : Addr} {St : Nat → Heap → Prop} {k j : Nat} {o : AO} {xs : List Item} {a : List AV} {ys : Array Value} {v : AV} {u : Value} (h : Acc p s ρ D a ys) (F : FeedAt K ρ₀ s₀ s₁ j o xs I ax St) (t : Turn K ρ₀ s₀ I St k ρ bs σ s) (apD : Apart K.X sc K.env K.A D) (hD : s₀.heap.get? D = none) (hID : I ≠ D) (hv : VRep ρ v u) (hz : (p ++ ys).size ≤ 2 ^ 23)
    {R : Value → Shared → Prop} (hR : ∀ x s', Turn K ρ₀ s₀ I St k ρ bs σ s' → Acc p s' ρ D (a ++ [v]) (ys.push u) → R x s') : wpN K.M K.A (call (.builtin "list.append") [.ref D, u]) R s := by
  refine wpN_any (wpAny_list_append_plain h.l (fun h' hpl hs => hR _ _ ?_ ?_) (Nat.le_trans hz (by decide)))
  · have kp : ∀ b o, b ≠ D → s.heap.get? b = some o → h'.get? b = some o := fun b o hb e => hs.extBut b o hb e
    exact ⟨t.i.hid (s' := { s with heap := h' }) apD h.n kp, t.g.but (s'' := { s with heap := h' }) hD kp rfl rfl, t.n, F.feed.at_ _ _ _ t.st fun ob e => kp I ob hID e⟩
  · exact ⟨by rw [Array.append_push]; exact hpl, h.n, by rw [Array.toList_push]; exact h.v.append ⟨hv, trivial⟩⟩
inductive CInv (K : Cfg P n csc) (ρ : List Addr) (s : Shared) (It D : Addr) (p : Array Value) (St : Nat → Heap → Prop) (xs : List Item) (B : Bs) (I : List AV → List Item → Store → Prop) (m : Nat) (s' : Shared) : Prop
  | mk (k : Nat) (ρ' : List Addr) (bs' : Bs) (σ' : Store) (a : List AV) (ys : Array Value) (t : Turn K ρ s It St k ρ' bs' σ' s') (ac : Acc p s' ρ' D a ys) (hk : k ≤ xs.length) (hm : m = xs.length - k) (hI : I a (xs.drop k) σ') (hb : Sub B bs') (hz : ys.size ≤ k)
theorem hx_compItems {j : Nat} {o : AO} {target : Expr} {ifs : List Expr} {elt : Expr} {I : List AV → List Item → Store → Prop} (hw : ∀ a r σ, I a r σ → σ[j]? = some o)
    (hs : ∀ a x r σ, I a (x :: r) σ → HxC P n csc target x ifs elt B σ fun vs bs' σ' => Sub B bs' ∧ I (a ++ vs) r σ') (xs : List Item) (σ : Store) (bs : Bs) (hI : I [] xs σ) (hb : Sub B bs) (he : ∀ vs σ' bs', I vs [] σ' → Sub B bs' → Q vs bs' σ') : Hx (compItems P n csc [] j o target ifs elt xs) bs σ Q := fun K ρ s i s₁ It ax St D p gens d iter scope pos F hD hac hp hID hg hg1 => by
  have hp : p.size ≤ 2 ^ 21 := by rw [List.length_nil, Nat.pow_zero, Nat.mul_one] at hp; exact hp
  have ap := Apart.of i F.new
  have apD := Apart.of i hD
  have hDn : D ∉ ρ := fun q => by obtain ⟨o, e⟩ := i.rep.there q; rw [hD] at e; cases e
  refine codeN_loop rfl rfl (CInv K ρ s It D p St xs B I) (fun m s' q => ?_) xs.length (.mk 0 ρ bs σ [] #[] (turn_first F i) ⟨by rw [Array.append_empty]; exact hac, hDn, trivial⟩ (Nat.zero_le _) rfl hI hb (Nat.le_refl _))
  cases q with
  | mk k ρ' bs' σ' a ys t ac hk hm hI hb hz =>
  rw [show K.A.under (.compLoop (.ListComp elt gens scope pos) d (.ref It) (.ref D) K.env) = K.A from Around.under_of_weight rfl]
  show wpN _ _ ((compTurn (.ListComp elt gens scope pos) d (.ref It) (.ref D) K.env).onRaise (fun x => do noteFrame x K.env; theTreesLotGoes x)) _ _
  refine wpN_onRaise ?_
  have hg2 : gens[d + 1]? = none := by rw [← List.getElem?_drop (xs := gens) (i := d + 1) (j := 0), hg1]; rfl
  unfold compTurn
  dsimp only
  rw [hg, hg2]
  refine wpN_stand (wpN_false rfl ?_)
  rcases Nat.lt_or_ge k xs.length with hlt | hge
  · rw [List.drop_eq_getElem_cons hlt] at hI
    obtain ⟨b₁, hb₁, hx₁⟩ := hs a _ _ _ hI
    obtain ⟨b₂, hb₂, hs₂⟩ := Binds.sub hb₁ hb
    refine wpN_bind (wpN_mono (turn_draw (R := fun s' => Turn K ρ s It St (k + 1) ρ' b₂ σ' s' ∧ Acc p s' ρ' D a ys) F ap t (List.getElem?_eq_getElem hlt) (hw _ _ _ hI) hb₂ fun s₃ t₁ kp => ⟨t₁, ?_⟩) fun r s h => ?_)
    · obtain ⟨m, ho⟩ := ac.l
      obtain ⟨o', ho', hs⟩ := kp D _ ac.n (fun q => q.elim apD.notOwn fun q => hID q.symm) ho
      rw [hs.eq fun es ep q => by cases q] at ho'
      exact ⟨⟨m, ho'⟩, ac.n, ac.v⟩
    obtain ⟨v, rfl, h⟩ := h
    refine wpN_bind (wpN_mono h fun _ t h => wpN_bind (wpN_mono h fun _ s₃ h => ?_))
    obtain ⟨t₁, ac₁⟩ := h
    refine wpN_bind (wpN_mono (Hx.sub hx₁ hs₂ K ρ' s₃ t₁.i) fun c s₄ d => ?_)
    cases d with
    | mk c' b₄ σ₄ ρ₄ q i₄ g₄ v =>
    cases v
    have t₂ := turn_more F ap t₁ g₄ i₄
    have ac₂ := ac₁.keep apD.notOwn g₄
    cases c with
    | false =>
      obtain ⟨q1, q2⟩ := q.2 rfl
      rw [List.append_nil] at q2
      exact wpN_false rfl (wpN_pure (.inl ⟨rfl, xs.length - (k + 1), loop_lt hm hlt, .mk (k + 1) ρ₄ b₄ σ₄ a ys t₂ ac₂ hlt rfl q2 q1 (Nat.le_succ_of_le hz)⟩))
    | true =>
      refine wpN_true rfl (wpN_bind (wpN_bind (wpN_mono (q.1 rfl K ρ₄ s₄ i₄) fun u s₅ d => ?_)))
      cases d with
      | mk vs b₅ σ₅ ρ₅ q i₅ g₅ r =>
      obtain ⟨v, rfl, hv⟩ := r
      refine wpN_bind ((ac₂.keep apD.notOwn g₅).push F (turn_more F ap t₂ g₅ i₅) apD hD hID hv (by rw [Array.size_append]; exact Nat.le_trans (Nat.add_le_add hp (Nat.le_trans hz (Nat.le_trans hk F.len))) (by decide)) fun _ s₆ t₆ ac₆ => wpN_pure (wpN_pure (.inl ⟨rfl, xs.length - (k + 1), loop_lt hm hlt, .mk (k + 1) ρ₅ b₅ σ₅ (a ++ [v]) (ys.push u) t₆ ac₆ hlt rfl q.2 q.1 ?_⟩)))
      rw [Array.size_push]
      exact Nat.succ_le_succ hz
  · have hkl : k = xs.length := Nat.le_antisymm hk hge
    subst hkl
    rw [List.drop_eq_nil_of_le (Nat.le_refl _)] at hI
    refine wpN_bind (turn_done F ap t (hw _ _ _ hI) fun s₂ i₂ g₂ kp => wpN_pure ?_)
    obtain ⟨m, ho⟩ := ac.l
    exact ⟨ys, ⟨m, kp D _ (Ne.symm hID) ho⟩, a, bs', σ', ρ', he a σ' bs' hI hb, i₂, g₂, ac.n, ac.v⟩
end Mine.H
end

section
namespace Mine
open PySem PySem.W PyProof.Rows PySem.Calls

noncomputable def closOf (env : Env) : List (Str × NameKind) → List (Str × Addr) → List (Str × Addr)
  | [], acc => acc
  | (n, k) :: r, acc => if k == .free then closOf env r ((n, (env.cells.lookup n).getD 0) :: acc) else closOf env r acc

theorem closOf_lookup {env : Env} {x : Str} {c : Addr} (hc : env.cells.lookup x = some c) : ∀ (names : List (Str × NameKind)) (acc : List (Str × Addr)), (x, NameKind.free) ∈ names ∨ acc.lookup x = some c → (closOf env names acc).lookup x = some c
  | [], acc, h => by
    rcases h with h | h
    · cases h
    · exact h
  | (n, k) :: r, acc, h => by
    unfold closOf
    have key : (x, NameKind.free) ∈ r ∨ (x = n ∧ k = .free) ∨ acc.lookup x = some c := by
      rcases h with h | h
      · rcases List.mem_cons.mp h with h | h
        · cases h; exact .inr (.inl ⟨rfl, rfl⟩)
        · exact .inl h
      · exact .inr (.inr h)
    split
    · rename_i hk
      refine closOf_lookup hc r _ ?_
      rcases key with h | ⟨rfl, rfl⟩ | h
      · exact .inl h
      · right; rw [List.lookup_cons]; simp [hc]
      · right
        rw [List.lookup_cons]
        by_cases hx : x = n
        · subst hx; simp [hc]
        · have : (x == n) = false := by simpa using hx
          rw [this]; exact h
    · rename_i hk
      refine closOf_lookup hc r _ ?_
      rcases key with h | ⟨rfl, rfl⟩ | h
      · exact .inl h
      · exact absurd rfl hk
      · exact .inr h

theorem closureFor_of {env : Env} {scope : Scope} (h : ∀ p ∈ scope.names, p.2 = .free → ∃ c, env.cells.lookup p.1 = some c) : closureFor scope env = pure (closOf env scope.names []) := by
  unfold closureFor
  have key : ∀ (names : List (Str × NameKind)) (acc : List (Str × Addr)), (∀ p ∈ names, p.2 = .free → ∃ c, env.cells.lookup p.1 = some c) →
      (forIn names acc fun x __s => if (x.2 == NameKind.free) = true then do
          let a ← cellOf env x.1
          pure (ForInStep.yield ((x.1, a) :: __s))
        else pure (ForInStep.yield __s) : Sem (List (Str × Addr))) = pure (closOf env names acc) := by
    intro names
    induction names with
    | nil => intro acc _; rfl
    | cons p r ih =>
      intro acc hp
      obtain ⟨n, k⟩ := p
      rw [List.forIn_cons]
      unfold closOf
      by_cases hk : (k == NameKind.free) = true
      · obtain ⟨c, hc⟩ := hp (n, k) (.head _) (by simpa using hk)
        dsimp only at hc ⊢
        rw [if_pos hk, if_pos hk]
        unfold cellOf
        rw [hc]
        exact ih _ fun q hq => hp q (.tail _ hq)
      · dsimp only
        rw [if_neg hk, if_neg hk]
        exact ih _ fun q hq => hp q (.tail _ hq)
  have := key scope.names [] h
  show (forIn scope.names [] _ >>= fun cs => pure cs : Sem (List (Str × Addr))) = _
  rw [bind_pure]
  exact this

theorem cellsFrom_acc : ∀ (names : List (Str × NameKind)) (n : Nat) (acc : List (Str × Addr)), cellsFrom n names acc = cellsFrom n names [] ++ acc
  | [], _, _ => rfl
  | (x, k) :: r, n, acc => by
    unfold cellsFrom
    split
    · rw [cellsFrom_acc r (n + 1) ((x, n) :: acc), cellsFrom_acc r (n + 1) [(x, n)], List.append_assoc]; rfl
    · exact cellsFrom_acc r n acc
theorem cellsFrom_names {x : Str} {c : Addr} : ∀ (names : List (Str × NameKind)) (n : Nat) (acc : List (Str × Addr)), (x, c) ∈ cellsFrom n names acc → (x, c) ∈ acc ∨ (x, NameKind.cell) ∈ names
  | [], _, _, h => .inl h
  | (y, k) :: r, n, acc, h => by
    unfold cellsFrom at h
    split at h
    · rename_i hk
      rcases cellsFrom_names r _ _ h with h | h
      · rcases List.mem_cons.mp h with h | h
        · cases h
          have : k = .cell := by simpa using hk
          subst this
          exact .inr (.head _)
        · exact .inl h
      · exact .inr (.tail _ h)
    · rcases cellsFrom_names r _ _ h with h | h
      · exact .inl h
      · exact .inr (.tail _ h)

theorem relabel_lookup {env : Env} {x : Str} {k : NameKind} : ∀ {names : List (Str × NameKind)}, names.lookup x = some k →
    (names.map fun (n, k) => if (k == NameKind.free && env.scope.kind == .function && env.kindOf n == some .cell) then (n, NameKind.cell) else (n, k)).lookup x = some k ∨
      (k = .free ∧ (names.map fun (n, k) => if (k == NameKind.free && env.scope.kind == .function && env.kindOf n == some .cell) then (n, NameKind.cell) else (n, k)).lookup x = some .cell)
  | [], h => by cases h
  | (n, k') :: r, h => by
    rw [List.lookup_cons] at h
    rw [List.map_cons]
    by_cases hx : (x == n) = true
    · rw [hx] at h
      cases h
      dsimp only
      split
      · rename_i hc
        simp only [Bool.and_eq_true, beq_iff_eq] at hc
        exact .inr ⟨hc.1.1, by rw [List.lookup_cons, hx]⟩
      · exact .inl (by rw [List.lookup_cons, hx])
    · have hx' : (x == n) = false := by simpa using hx
      rw [hx'] at h
      dsimp only
      have ih := relabel_lookup (env := env) h
      split <;> (rw [List.lookup_cons, hx']; exact ih)

noncomputable def compEnv' (csc : Scope) (cl : List (Str × Addr)) (L : Addr) (env : Env) : Env :=
  { scope := relabel csc env, locals := L, globals := env.globals, cells := cellsFrom (L + 1) csc.names cl, qual := env.qual, func := none, code := env.code, frame := env.frame, builtins := env.builtins }

noncomputable def compBs (csc : Scope) : Bs → Bs
  | [] => []
  | p :: r => if csc.names.lookup p.1 = some .free then p :: compBs csc r else compBs csc r
theorem compBs_get {csc : Scope} {x : Str} {v : AV} : ∀ {bs : Bs}, (compBs csc bs).lookup x = some v → csc.names.lookup x = some .free ∧ bs.lookup x = some v
  | [], h => by cases h
  | (y, w) :: r, h => by
    unfold compBs at h
    split at h
    · rename_i hy
      rw [List.lookup_cons] at h ⊢
      split at h
      · rename_i hx; simp only [beq_iff_eq] at hx; subst hx; exact ⟨hy, h⟩
      · exact compBs_get h
    · rename_i hy
      obtain ⟨h1, h2⟩ := compBs_get h
      refine ⟨h1, ?_⟩
      rw [List.lookup_cons]
      have : (x == y) = false := by
        have : x ≠ y := fun q => hy (q ▸ h1)
        simpa using this
      rw [this]; exact h2
section
variable {X : Cx} {sc csc : Scope} {env : Env} {A : Around} {N : Nat} {ρ : List Addr} {bs : Bs} {σ : Store} {s s' : Shared}

theorem compOk_parts (h : compOk sc csc = true) : csc.kind = .function ∧ ∀ p ∈ csc.names, csc.names.lookup p.1 = some p.2 ∧ (p.2 = .free → sc.names.lookup p.1 = some .cell ∨ sc.names.lookup p.1 = some .free) := by
  unfold compOk at h
  simp only [Bool.and_eq_true, List.all_eq_true, beq_iff_eq, Bool.or_eq_true] at h
  refine ⟨h.1, fun p hp => ⟨(h.2 p hp).1, fun hf => ?_⟩⟩
  rcases (h.2 p hp).2 with ((h1 | h1) | h1) | h1
  · rw [hf] at h1; cases h1
  · rw [hf] at h1; cases h1
  · rw [hf] at h1; cases h1
  · exact h1.2

theorem comp_clos (hc : compOk sc csc = true) (i : Inv X sc env A N ρ bs σ s) : closureFor csc env = pure (closOf env csc.names []) := by
  obtain ⟨_, hp⟩ := compOk_parts hc
  refine closureFor_of fun p hm hf => ?_
  obtain ⟨c, u, g1, _⟩ := i.fr.cell p.1 ((hp p hm).2 hf)
  exact ⟨c, g1⟩

theorem comp_frame (hc : compOk sc csc = true) (i : Inv X sc env A N ρ bs σ s) {h₁ : Heap} {L : Addr} (hLs : ∀ b, L ≤ b → s.heap.get? b = none) (hkp : ∀ b o, s.heap.get? b = some o → h₁.get? b = some o) (hLh : h₁.Ns L fun _ => none)
    (cok : CellsOk h₁ (L + 1) (cellsFrom (L + 1) csc.names [])) (hs' : s'.heap = h₁) (hg : s'.gens = s.gens) (ho : s'.os = s.os) : Inv X csc (compEnv' csc (closOf env csc.names []) L env) A N ρ (compBs csc bs) σ s' := by
  obtain ⟨hk, hp⟩ := compOk_parts hc
  have keep : ∀ b o, s.heap.get? b = some o → s'.heap.get? b = some o := fun b o e => by rw [hs']; exact hkp b o e
  have i' := Inv.ext (s' := s') i keep hg ho
  have fresh : ∀ c, L ≤ c → c ∉ ρ ∧ X.at c = none := fun c hc' => by
    have hn := hLs c hc'
    refine ⟨fun q => ?_, ?_⟩
    · obtain ⟨o, e⟩ := i.rep.there q
      rw [e] at hn; cases hn
    · cases e : X.at c with
      | none => rfl
      | some o => rw [i.rep.keepA _ _ e] at hn; cases hn
  have cellNew : ∀ {x : Str}, csc.names.lookup x = some .cell → ∃ c, (cellsFrom (L + 1) csc.names (closOf env csc.names [])).lookup x = some c ∧ (x, c) ∈ cellsFrom (L + 1) csc.names [] := fun hx => by
    obtain ⟨c, hc⟩ := cellsFrom_mem csc.names (L + 1) [] (.inr (lookup_mem hx))
    obtain ⟨c', hc'⟩ := mem_lookup hc
    refine ⟨c', ?_, lookup_mem hc'⟩
    rw [cellsFrom_acc, List.lookup_append, hc']; rfl
  have cellOld : ∀ {x : Str}, csc.names.lookup x = some .free → (sc.names.lookup x = some .cell ∨ sc.names.lookup x = some .free) ∧ ∀ c, env.cells.lookup x = some c → (cellsFrom (L + 1) csc.names (closOf env csc.names [])).lookup x = some c := fun {x} hx => by
    refine ⟨(hp (x, .free) (lookup_mem hx)).2 rfl, fun c hc => ?_⟩
    rw [cellsFrom_acc, List.lookup_append]
    have : (cellsFrom (L + 1) csc.names []).lookup x = none := by
      cases e : (cellsFrom (L + 1) csc.names []).lookup x with
      | none => rfl
      | some c' =>
        rcases cellsFrom_names _ _ _ (lookup_mem e) with h | h
        · cases h
        · have := (hp _ h).1
          rw [hx] at this; cases this
    rw [this]
    exact closOf_lookup hc _ _ (.inl (lookup_mem hx))
  refine ⟨i'.rep, ⟨hk, i.fr.glob, i.fr.bi, fun x k hx => relabel_lookup hx, ⟨_, by rw [hs']; exact hLh, fun x v hx hv => ?_⟩, (fresh L (Nat.le_refl _)).1, (fresh L (Nat.le_refl _)).2, fun x hx => ?_, fun x y c hx hy h1 h2 => ?_⟩, i'.ok⟩
  · have := (compBs_get hv).1
    rw [hx] at this; cases this
  · rcases hx with hx | hx
    · obtain ⟨c, h1, h2⟩ := cellNew hx
      have h3 := cok.empty _ _ h2
      refine ⟨c, none, h1, by rw [hs']; exact h3.1, .inl (fresh c (Nat.le_of_succ_le h3.2)), fun v hv => ?_⟩
      have := (compBs_get hv).1
      rw [hx] at this; cases this
    · obtain ⟨hsc, hl⟩ := cellOld hx
      obtain ⟨c, u, h1, h2, h3, h5⟩ := i'.fr.cell x hsc
      exact ⟨c, u, hl c h1, h2, h3.imp id (fun h => ⟨hx, h.2⟩), fun v hv => h5 v (compBs_get hv).2⟩
  · have old : ∀ {x : Str} {c : Addr}, csc.names.lookup x = some .free → (cellsFrom (L + 1) csc.names (closOf env csc.names [])).lookup x = some c → env.cells.lookup x = some c ∧ s.heap.get? c ≠ none := fun {x c} hx h => by
      obtain ⟨hsc, hl⟩ := cellOld hx
      obtain ⟨c', u, g1, ⟨o, g2, _⟩, _⟩ := i.fr.cell x hsc
      rw [hl c' g1] at h; cases h
      exact ⟨g1, fun q => by rw [g2] at q; cases q⟩
    have new : ∀ {x : Str} {c : Addr}, csc.names.lookup x = some .cell → (cellsFrom (L + 1) csc.names (closOf env csc.names [])).lookup x = some c → (x, c) ∈ cellsFrom (L + 1) csc.names [] ∧ s.heap.get? c = none := fun {x c} hx h => by
      obtain ⟨c', g1, g2⟩ := cellNew hx
      rw [g1] at h; cases h
      have := (cok.empty _ _ g2).2
      exact ⟨g2, hLs _ (Nat.le_of_succ_le this)⟩
    rcases hx with hx | hx <;> rcases hy with hy | hy
    · exact name_of_addr cok.apart (new hx h1).1 (new hy h2).1
    · exact absurd (new hx h1).2 (old hy h2).2
    · exact absurd (new hy h2).2 (old hx h1).2
    · exact i.fr.apart x y c (cellOld hx).1 (cellOld hy).1 (old hx h1).1 (old hy h2).1

theorem comp_cells (hc : compOk sc csc = true) (i : Inv X sc env A N ρ bs σ s) {h₁ : Heap} {L : Addr} (cok : CellsOk h₁ (L + 1) (cellsFrom (L + 1) csc.names [])) {x : Str} {c : Addr} (hx : csc.names.lookup x = some .cell ∨ csc.names.lookup x = some .free)
    (h : (compEnv' csc (closOf env csc.names []) L env).cells.lookup x = some c) : ((sc.names.lookup x = some .cell ∨ sc.names.lookup x = some .free) ∧ env.cells.lookup x = some c ∧ csc.names.lookup x = some .free) ∨ L + 1 ≤ c := by
  obtain ⟨hk, hp⟩ := compOk_parts hc
  have h : (cellsFrom (L + 1) csc.names (closOf env csc.names [])).lookup x = some c := h
  rw [cellsFrom_acc, List.lookup_append] at h
  cases e : (cellsFrom (L + 1) csc.names []).lookup x with
  | some c' =>
    rw [e] at h
    cases h
    exact .inr (cok.empty _ _ (lookup_mem e)).2
  | none =>
    rw [e] at h
    rcases hx with hx | hx
    · obtain ⟨c', hc'⟩ := cellsFrom_mem csc.names (L + 1) [] (.inr (lookup_mem hx))
      obtain ⟨c'', hc''⟩ := mem_lookup hc'
      rw [e] at hc''; cases hc''
    · have hsc := (hp (x, .free) (lookup_mem hx)).2 rfl
      obtain ⟨c', u, g1, _⟩ := i.fr.cell x hsc
      have h2 := closOf_lookup g1 csc.names [] (.inl (lookup_mem hx))
      have h : (closOf env csc.names []).lookup x = some c := h
      rw [h2] at h; cases h
      exact .inl ⟨hsc, g1, hx⟩

theorem Rep.adopt {σ : Store} {h : Heap} {D : Addr} {o : Obj} {ao : AO} (r : Rep X ρ σ h) (hn : D ∉ ρ) (hX : X.at D = none) (hD : h.get? D = some o) (q : OR X (ρ ++ [D]) o ao) : Rep X (ρ ++ [D]) (σ ++ [ao]) h where
  len := by simp [r.len]
  nodup := by
    rw [List.nodup_append]
    refine ⟨r.nodup, by simp, fun x hx y hy => ?_⟩
    simp only [List.mem_singleton] at hy
    subst hy
    intro q; subst q
    exact hn hx
  obj := fun i b bo hb hbo => by
    rcases Nat.lt_or_ge i σ.length with hi | hi
    · rw [List.getElem?_append_left hi] at hbo
      rw [List.getElem?_append_left (r.len ▸ hi)] at hb
      obtain ⟨o', e, q'⟩ := r.obj i b bo hb hbo
      exact ⟨o', e, q'.mono (List.prefix_append ..)⟩
    · rw [List.getElem?_append_right hi] at hbo
      rw [List.getElem?_append_right (r.len ▸ hi)] at hb
      rw [r.len] at hb
      cases hj : i - σ.length with
      | zero => rw [hj] at hb hbo; simp at hb hbo; subst hb; subst hbo; exact ⟨o, hD, q⟩
      | succ j => rw [hj] at hb; simp at hb
  newA := fun i b bo hb hbo hf => by
    rcases Nat.lt_or_ge i σ.length with hi | hi
    · rw [List.getElem?_append_left hi] at hbo
      rw [List.getElem?_append_left (r.len ▸ hi)] at hb
      exact r.newA i b bo hb hbo hf
    · rw [List.getElem?_append_right (r.len ▸ hi), r.len] at hb
      cases hj : i - σ.length with
      | zero => rw [hj] at hb; simp at hb; subst hb; exact hX
      | succ j => rw [hj] at hb; simp at hb
  keepA := r.keepA
theorem Grow.adopt {own : Addr → Prop} {ρ' : List Addr} {D : Addr} (g : Grow own ρ s ρ' s') (hD : s.heap.get? D = none) : Grow own ρ s (ρ' ++ [D]) s' :=
  ⟨g.pre.trans (List.prefix_append ..), fun b hb => by
    rcases List.mem_append.mp hb with h | h
    · exact g.fresh b h
    · simp only [List.mem_singleton] at h; subst h; exact .inr hD, g.live, g.kept, g.gens, g.os⟩

theorem wpAny_compFrame {M : Model} {E : Value → Shared → Prop} {cl : List (Str × Addr)} {Q : Env → Shared → Prop}
    (hQ : ∀ h₁ : Heap, (h₁.Ns s.heap.objs.size fun _ => none) → CellsOk h₁ (s.heap.objs.size + 1) (cellsFrom (s.heap.objs.size + 1) csc.names []) → (∀ b o, s.heap.get? b = some o → h₁.get? b = some o) →
      Q { compEnv' csc cl s.heap.objs.size env with scope := csc } { s with heap := h₁ }) : wpAny M A (newFunctionEnv csc env.globals cl [] env.qual none .none (some env)) Q E s := by
  simp only [newFunctionEnv, Option.isSome_some, if_true]
  refine wpAny_bind (wpAny_alloc ?_)
  refine wpAny_bind (wpAny_layCells _ (fun name kind cells => by cases hkc : kind == NameKind.cell <;> simp [hkc]) _ _ _ _ ?_)
  have ok := cellsFrom_ok csc.names (s.heap.push { cls := .type "dict", data := .dict #[] }) (s.heap.objs.size + 1) [] ⟨fun _ _ hm => (nomatch hm), List.Pairwise.nil⟩ (by rw [Heap.size_push]; exact Nat.le_refl _)
  rw [Heap.size_push] at ok
  rw [show ({ s with heap := s.heap.push { cls := .type "dict", data := .dict #[] } } : Shared).heap.objs.size = s.heap.objs.size + 1 from Heap.size_push ..]
  refine wpAny_bind (wpAny_pure (wpAny_pure ?_))
  exact hQ _ ((Heap.Ns.new s.heap (.type "dict")).keeps (pushCells_keeps _ _)) ok fun b o e => pushCells_keeps _ _ b o (Heap.get?_push_of_some _ e)
end
end Mine
end

section
namespace Mine
open PySem PySem.W PyProof.Rows PySem.Calls
namespace H
section
variable {prog : Program} {w : World} {A : Around} {s : Shared}

theorem codeN_compStart {elt : Expr} {gens : List Comprehension} {scope : Scope} {pos : Pos} {d : Nat} {target iter : Expr} {ifs : List Expr} {it acc : Value} {env : Env} {R : Flow → Shared → Prop} (hg : gens[d]? = some ⟨target, iter, ifs, 0⟩)
    (h0 : codeN (model prog w) A (.compLoop (.ListComp elt gens scope pos) d it acc env) R s)
    (h : wpN (model prog w) A (pyIter it) (fun it' s' => codeN (model prog w) A (.compLoop (.ListComp elt gens scope pos) d it' acc env) R s') s) :
    codeN (model prog w) A (.compStart (.ListComp elt gens scope pos) d it acc env) R s := by
  refine codeN_tree rfl ?_
  have hA : A.under (.compStart (.ListComp elt gens scope pos) d it acc env) = A := Around.under_of_weight rfl
  rw [hA]
  show wpN _ _ ((PySem.compStart (.ListComp elt gens scope pos) d it acc env).onRaise (fun x => do noteFrame x env; standAt theWindowsPlace)) _ _
  refine wpN_onRaise ?_
  unfold PySem.compStart
  have hcl : (clausesOf (.ListComp elt gens scope pos))[d]? = some ⟨target, iter, ifs, 0⟩ := hg
  rw [hcl]
  refine wpN_false rfl ?_
  refine wpN_bind (wpN_any (wpAny_askSetting ?_))
  dsimp only
  split
  · exact wpN_pure ⟨rfl, h0⟩
  · refine wpN_bind (wpN_rule (wpN_stand (wpN_bind (wpN_mono h fun it' s' h' => wpN_pure ⟨rfl, h'⟩))))

def CompEnd (M : Model) (A : Around) (use : Option (Value → Sem Unit)) (L : Addr) (acc : Value) (Q : Value → Shared → Prop) (s' : Shared) : Prop := match use with
  | none => ∃ m, s'.heap.Ns L m ∧ ∀ h', Heap.SameBut L s'.heap h' → Q acc { s' with heap := h' }
  | some u => wpN M A (u acc) (fun _ s'' => ∃ m, s''.heap.Ns L m ∧ ∀ h', Heap.SameBut L s''.heap h' → Q .none { s'' with heap := h' }) s'
theorem wpN_comprehension {M : Model} {e : Expr} {scope : Scope} {env : Env} {pos : Pos} {newAcc first : Sem Value} {g : Comprehension} {gs : List Comprehension} {cl : List (Str × Addr)} {use : Option (Value → Sem Unit)} {Q : Value → Shared → Prop}
    (hcl : clausesOf e = g :: gs) (hs : ∀ x, foldedSetIterable g.iter env x = pure x) (hclos : closureFor scope env = pure cl)
    (hkind : scope.kind = .function) (hnames : ∀ x ∈ scope.names, x.2 = .local → scope.names.lookup x.1 = some .local)
    (h : wpN M A first (fun x s₁ => wpN M A (pyIter x) (fun it s₂ => wpN M A newAcc (fun acc s₃ =>
      wpN M A (newFunctionEnv scope env.globals cl [] env.qual none .none (some env)) (fun cenv s₄ =>
        codeN M A (.compStart e 0 it acc { cenv with scope := relabel scope env }) (fun _ s' => CompEnd M A use cenv.locals acc Q s') s₄) s₃) s₂) s₁) s) :
    wpN M A (comprehension e scope env pos newAcc false first use) Q s := by
  unfold comprehension
  rw [hclos, hcl]
  have standIf : ∀ {c : Prop} [Decidable c] {pos : Pos} {k : PUnit → Sem Value} {s : Shared}, wpN M A (k ()) Q s → wpN M A (if c then (standAt pos >>= k) else k ()) Q s := fun h => by
    split
    · exact wpN_stand h
    · exact h
  refine wpN_bind (wpN_mono h fun x s₁ h₁ => wpN_stand (wpN_bind ?_))
  rw [hs x]
  refine wpN_pure (wpN_bind (wpN_holding (wpN_mono h₁ fun it s₂ h₂ => standIf (wpN_bind (wpN_mono h₂ fun acc s₃ h₃ => wpN_bind (wpN_pure (wpN_bind (wpN_mono h₃ fun cenv s₄ h₄ => ?_))))))))
  dsimp only
  have hv : ∀ x ∈ (scope.names.filter fun x => (x.2 == .local || x.2 == .cell) && x.1 != (".0" : Str)).reverse, x.2 = .local →
      Env.kindOf { cenv with scope := relabel scope env } x.1 = some .local := fun x hx hl => lookup_relabel_local (hnames x (List.mem_filter.mp (List.mem_reverse.mp hx)).1 hl)
  have hv' : ∀ x ∈ (scope.names.filter fun x => (x.2 == .local || x.2 == .cell) && x.1 != (".0" : Str)).reverse.drop 1 ++ (scope.names.filter fun x => (x.2 == .local || x.2 == .cell) && x.1 != (".0" : Str)).reverse.take 1,
      x.2 = .local → Env.kindOf { cenv with scope := relabel scope env } x.1 = some .local := fun x hx hl => by
    rcases List.mem_append.mp hx with h1 | h1
    · exact hv x (List.mem_of_mem_drop h1) hl
    · exact hv x (List.mem_of_mem_take h1) hl
  refine wpN_holding (wpN_bind (wpN_attempt (wpN_holding (wpN_run (codeN_mono h₄ fun f s' hr => ?_)))))
  cases use with
  | none =>
    obtain ⟨m, hn, hr⟩ := hr
    exact wpN_bind (wpN_holding (wpN_any (wpAny_comp_letGo (cenv := { cenv with scope := relabel scope env }) hkind _ s' m hv hn fun h' m' _ hs' => wpN_pure (hr h' hs'))))
  | some u =>
    refine wpN_bind (wpN_rule (wpN_bind (wpN_holding (wpN_mono hr fun _ s'' hr' => ?_))))
    obtain ⟨m, hn, hr'⟩ := hr'
    exact wpN_bind (wpN_any (wpAny_comp_letGo (cenv := { cenv with scope := relabel scope env }) hkind _ s'' m hv' hn fun h' m' _ hs' => wpN_pure (hr' h' hs')))
end

variable {P : Prog} {n : Nat} {sc csc : Scope} {bs : Bs} {σ : Store}
noncomputable def _root_.Mine.Cfg.comp (K : Cfg P n sc) (csc : Scope) (L : Addr) : Cfg P n csc := ⟨K.X, compEnv' csc (closOf K.env csc.names []) L K.env, K.A, K.N, K.hP, K.F, K.hN⟩
theorem comp_rest {K : Cfg P n sc} {ρ : List Addr} {s s₂ : Shared} {j : Nat} {o : AO} {xs : List Item} {I ax : Addr} {St : Nat → Heap → Prop} {target iter elt : Expr} {ifs : List Expr} {gs : List Comprehension} {scope : Scope} {pos : Pos} {Q : List AV → Bs → Store → Prop} {R : Value → Addr → Shared → Prop} (hc : compOk sc csc = true) (i : K.I ρ bs σ s) (F : FeedAt K ρ s s₂ j o xs I ax St)
    (hx : Hx (compItems P n csc gs j o target ifs elt xs) (compBs csc bs) σ Q)
    (hR : ∀ D L ys vs bs' σ' ρ' s', Q vs bs' σ' → K.I ρ' bs σ' s' → Grow noOwn ρ s ρ' s' → s.heap.get? D = none → Acc #[] s' ρ' D vs ys → (∃ m, s'.heap.Ns L m) → L ∉ ρ' → L ≠ D → s.heap.get? L = none → R (.ref D) L s') :
    wpN K.M K.A (newList []) (fun acc s₃ => wpN K.M K.A (newFunctionEnv csc K.env.globals (closOf K.env csc.names []) [] K.env.qual none .none (some K.env)) (fun cenv s₄ => codeN K.M K.A (.compStart (.ListComp elt (⟨target, iter, ifs, 0⟩ :: gs) scope pos) 0 (.ref I) acc { cenv with scope := relabel csc K.env }) (fun _ s' => R acc cenv.locals s') s₄) s₃) s₂ := by
  refine wpN_any (wpAny_newObj_type (wpN_any (wpAny_compFrame fun h₁ hns cok kp₁ => ?_)) (by size_fits))
  dsimp only at hns cok kp₁ ⊢
  generalize hH2 : (s₂.heap.push { cls := .type "list", dict := none, data := .seq ([] : List Value).toArray }) = H2 at hns cok kp₁ ⊢
  have hL : H2.objs.size = s₂.heap.objs.size + 1 := by rw [← hH2, Heap.size_push]
  have kp2 : ∀ b o, s₂.heap.get? b = some o → H2.get? b = some o := fun b o e => hH2 ▸ Heap.get?_push_of_some _ e
  have gone : ∀ b, s₂.heap.objs.size ≤ b → s.heap.get? b = none := fun b hb => by
    cases q : s.heap.get? b with
    | none => rfl
    | some o => have := F.keep b o q; rw [Heap.noneOf hb] at this; cases this
  have hD := gone s₂.heap.objs.size (Nat.le_refl _)
  have hDat : H2.get? s₂.heap.objs.size = some { cls := .type "list", dict := none, data := .seq ([] : List Value).toArray } := hH2 ▸ Heap.get?_push_size _ rfl
  obtain ⟨oI, hoI, _⟩ := F.feed.obj _ _ F.st
  have hIlt : I < s₂.heap.objs.size := Heap.lt_size hoI
  have hh : ∀ {b : Addr} {o : Obj}, h₁.get? b = some o → b ≠ I → b ≠ s₂.heap.objs.size → (hideAll h₁ [I, s₂.heap.objs.size]).get? b = some o := fun e h1 h2 => hideAll_get _ e (by simp [h1, h2])
  have hi : ∀ {b : Addr}, b ∈ [I, s₂.heap.objs.size] → (hideAll h₁ [I, s₂.heap.objs.size]).get? b = none := fun h => hideAll_none _ h
  have up : ∀ {b : Addr}, H2.objs.size ≤ b → b ≠ I ∧ b ≠ s₂.heap.objs.size := fun {b} h => have h' : s₂.heap.objs.size < b := Nat.lt_of_lt_of_le (hL ▸ Nat.lt_succ_self _) h; ⟨Nat.ne_of_gt (Nat.lt_trans hIlt h'), Nat.ne_of_gt h'⟩
  have kf : ∀ b o, s.heap.get? b = some o → (hideAll h₁ [I, s₂.heap.objs.size]).get? b = some o := fun b o e => by
    have e2 := F.keep b o e
    refine hh (kp₁ _ _ (kp2 _ _ e2)) (fun q => ?_) (fun q => ?_)
    · rw [q, F.new] at e; cases e
    · rw [q, hD] at e; cases e
  have iC : (K.comp csc H2.objs.size).I ρ (compBs csc bs) σ { s₂ with heap := hideAll h₁ [I, s₂.heap.objs.size] } := by
    refine comp_frame (s := s) (s' := { s₂ with heap := hideAll h₁ [I, s₂.heap.objs.size] }) hc i ?_ kf ?_ ⟨fun x c h => ?_, cok.apart⟩ rfl F.gens F.os
    · exact fun b hb => gone b (Nat.le_trans (Nat.le_of_lt (hL ▸ Nat.lt_succ_self _)) hb)
    · obtain ⟨oL, es, ep, e1, e2⟩ := hns
      exact ⟨oL, es, ep, hh e1 (up (Nat.le_refl _)).1 (up (Nat.le_refl _)).2, e2⟩
    · obtain ⟨⟨oc, e1, e2⟩, e3⟩ := cok.empty x c h
      exact ⟨⟨oc, hh e1 (up (Nat.le_of_succ_le e3)).1 (up (Nat.le_of_succ_le e3)).2, e2⟩, e3⟩
  have FC : FeedAt (K.comp csc H2.objs.size) ρ { s₂ with heap := hideAll h₁ [I, s₂.heap.objs.size] } { s₂ with heap := h₁, toks := s₂.toks + ([] : List (Str × Value)).length } j o xs I ax St :=
    ⟨F.feed, hi (.head _), fun b ob e => of_hideAll _ e, rfl, rfl, F.at_, F.feed.at_ _ _ _ F.st fun ob e => kp₁ _ _ (kp2 _ _ e), F.len⟩
  have main := hx (K.comp csc H2.objs.size) ρ _ iC _ I ax St s₂.heap.objs.size #[] (⟨target, iter, ifs, 0⟩ :: gs) 0 iter scope pos FC (hi (.tail _ (.head _))) ⟨_, kp₁ _ _ hDat⟩ (by rw [show (#[] : Array Value).size = 0 from rfl, Nat.zero_mul]; exact Nat.zero_le _) (Nat.ne_of_lt hIlt) rfl rfl
  refine codeN_mono (codeN_compStart rfl main (wpN_any (F.feed.self 0 K.A _ _ FC.st main))) fun f s' q => ?_
  obtain ⟨ys, hy, q⟩ := q
  cases q with
  | mk vs b₃ σ₃ ρ₃ q i₃ g₃ v =>
  have g₄ : Grow noOwn ρ s ρ₃ s' := (Grow.ext (own := noOwn) (s' := { s₂ with heap := hideAll h₁ [I, s₂.heap.objs.size] }) kf F.gens F.os).trans_new g₃ fun b hb => .inr ?_
  · obtain ⟨m, hm, _⟩ := i₃.fr.ns
    exact hR _ _ ys vs b₃ σ₃ ρ₃ s' q (Inv.step i g₄ i₃.rep) g₄ hD ⟨hy, v.1, v.2⟩ ⟨m, hm⟩ i₃.fr.notIn (up (Nat.le_refl _)).2 (gone _ (Nat.le_of_lt (hL ▸ Nat.lt_succ_self _)))
  · rcases hb with rfl | ⟨x, hx, hcx⟩
    · exact gone _ (Nat.le_of_lt (hL ▸ Nat.lt_succ_self _))
    · rcases comp_cells hc i cok (.inl hx) hcx with ⟨_, _, h1⟩ | h1
      · rw [hx] at h1; cases h1
      · exact gone b (Nat.le_trans (Nat.le_of_lt (hL ▸ Nat.lt_succ_self _)) (Nat.le_of_succ_le h1))
end H
end Mine
end

section
namespace Mine.H
open PySem PySem.W PyProof.Rows PySem.Calls
variable {P : Prog} {n : Nat} {sc csc : Scope} {δ : Type} {bs bs' : Bs} {σ : Store}
def HxRun (P : Prog) (n : Nat) (csc : Scope) (gs : List Comprehension) (t : Expr) (ifs : List Expr) (elt : Expr) (src : AV) (bs : Bs) (σ : Store) (Q : List AV → Bs → Store → Prop) : Prop :=
  (∃ i o xs, src = .ref i ∧ Src σ i o xs ∧ Hx (compItems P n csc gs i o t ifs elt xs) bs σ Q) ∨
  (∃ i d es xs, src = .ref i ∧ SrcD σ d es i xs ∧ Hx (compItems P n csc gs d (.fdict es) t ifs elt xs) bs (σ.set d (.fdict es)) fun a bs' σ' => σ'[d]? = some (.fdict es) ∧ Q a bs' (σ'.set d (.dict es)))
section
variable {t elt : Expr} {ifs : List Expr} {gs : List Comprehension} {Q : List AV → Bs → Store → Prop} {i : Nat}
theorem runComp_list {vs : List AV} (e : σ[i]? = some (.list vs)) (h : Hx (compItems P n csc gs i (.list vs) t ifs elt (vs.map .one)) bs σ Q) : HxRun P n csc gs t ifs elt (.ref i) bs σ Q := .inl ⟨i, _, _, rfl, .list e, h⟩
theorem runComp_range {a b c : Int} (e : σ[i]? = some (.range a b c)) (hc : (small a && small b && small c && c != 0) = true) (h : Hx (compItems P n csc gs i (.range a b c) t ifs elt ((rangeInts a b c).map fun k => .one (.int k))) bs σ Q) : HxRun P n csc gs t ifs elt (.ref i) bs σ Q := .inl ⟨i, _, _, rfl, .range e hc, h⟩
theorem runComp_srcD {d : Nat} {es : List (Int × AV)} {xs : List Item} (e : SrcD σ d es i xs) (h : Hx (compItems P n csc gs d (.fdict es) t ifs elt xs) bs (σ.set d (.fdict es)) fun a bs' σ' => σ'[d]? = some (.fdict es) ∧ Q a bs' (σ'.set d (.dict es))) : HxRun P n csc gs t ifs elt (.ref i) bs σ Q := .inr ⟨i, d, es, xs, rfl, e, h⟩
end
def NewC (vs : List AV) (bs : Bs) (σ : Store) (Q : AV → Bs → Store → Prop) : Prop := vs.length ≤ 1000000 ∧ Q (.ref σ.length) bs (σ ++ [.list vs])
theorem hx_newC {vs : List AV} {Q : AV → Bs → Store → Prop} (hl : vs.length ≤ 1000000) (h : Q (.ref σ.length) bs (σ ++ [.list vs])) : NewC vs bs σ Q := ⟨hl, h⟩
theorem _root_.Mine.Post.letGo {α β : Type} {X : Cx} {env : Env} {A : Around} {N : Nat} {ρ₁ ρ' : List Addr} {s₁ s' s'' : Shared} {V : List Addr → α → β → Prop} {Q : α → Bs → Store → Prop} {u : β} {L : Addr} (ap : Apart X sc env A L) (hL : s₁.heap.get? L = none) (g₀ : Grow (Own sc env) ρ₁ s₁ ρ' s') (hn : L ∉ ρ')
    (hLs : ∃ m, s'.heap.Ns L m) (d : Post X sc env A N ρ' s' V Q u s'') : ∃ m, s''.heap.Ns L m ∧ ∀ h'', Heap.SameBut L s''.heap h'' → Post X sc env A N ρ₁ s₁ V Q u { s'' with heap := h'' } := by
  obtain ⟨m, hm⟩ := hLs
  obtain ⟨o, ho⟩ := Heap.Ns.there hm
  cases d with
  | mk a b σ ρ₂ q i g v =>
  refine ⟨m, Heap.Ns.sim hm fun o e => g.kept _ _ e hn ap.notOwn, fun h'' hs => ?_⟩
  have kp : ∀ b o, b ≠ L → s''.heap.get? b = some o → h''.get? b = some o := fun b o hb e => (hs.2 b hb).trans e
  exact ⟨a, b, σ, ρ₂, q, i.hid (s' := { s'' with heap := h'' }) ap (g.notIn ho hn) kp, (g₀.trans g).but (s'' := { s'' with heap := h'' }) hL kp rfl rfl, v⟩
def UseR (M : Model) (A : Around) (use : Option (Value → Sem Unit)) (acc : Value) (s' : Shared) (R : Value → Shared → Prop) : Prop := match use with
  | none => R acc s'
  | some u => wpN M A (u acc) (fun _ s'' => R .none s'') s'
theorem comp_core {K : Cfg P n sc} {ρ : List Addr} {s : Shared} {target iter elt : Expr} {ifs : List Expr} {gs : List Comprehension} {pos p' : Pos} {first : Sem Value} {use : Option (Value → Sem Unit)} {Q : AV → Bs → Store → Prop} {V : List Addr → δ → Value → Prop} {Q₂ : δ → Bs → Store → Prop} (hset : notSet iter = true) (hc : compOk sc csc = true) (i : K.I ρ bs σ s)
    (hf : wpN K.M K.A first (PostK K ρ s VRep fun src bs' σ' => HxRun P n csc gs target ifs elt src (compBs csc bs') σ' fun vs _ σ'' => NewC vs bs' σ'' Q) s)
    (hu : ∀ ρ' bs' σ' s' k D, K.I ρ' bs' σ' s' → VRep ρ' (.ref k) (.ref D) → Q (.ref k) bs' σ' → UseR K.M K.A use (.ref D) s' (PostK K ρ' s' V Q₂)) :
    wpN K.M K.A (comprehension (.ListComp elt (⟨target, iter, ifs, 0⟩ :: gs) csc pos) csc K.env p' (newList []) false first use) (PostK K ρ s V Q₂) s := by
  obtain ⟨hk, hp⟩ := compOk_parts hc
  refine wpN_comprehension (cl := closOf K.env csc.names []) (gs := gs) (g := ⟨target, iter, ifs, 0⟩) rfl (fun x => folded_no hset K.env x) (comp_clos hc i) hk (fun x hx hxl => hxl ▸ (hp x hx).1) (wpN_mono hf fun u s₁ d => ?_)
  cases d with
  | mk src bs₁ σ₁ ρ₁ q i₁ g₁ hsrc =>
  have fin : ∀ {D L : Addr} {ys : Array Value} {vs : List AV} {σ' : Store} {ρ' : List Addr} {s' : Shared}, NewC vs bs₁ σ' Q → K.I ρ' bs₁ σ' s' → Grow noOwn ρ₁ s₁ ρ' s' → s₁.heap.get? D = none → Acc #[] s' ρ' D vs ys → (∃ m, s'.heap.Ns L m) → L ∉ ρ' → L ≠ D → s₁.heap.get? L = none →
      CompEnd K.M K.A use L (.ref D) (PostK K ρ s V Q₂) s' := fun {D L ys vs σ' ρ' s'} nq i₂ g₂ hD ac hm hLn hLD hL => by
    have hl := ac.l
    rw [Array.empty_append] at hl
    obtain ⟨z, hoD⟩ := hl
    have g₅ := g₂.adopt hD
    have U := hu _ _ _ _ _ _ (Inv.step i₁ g₅ (i₂.rep.adopt (ao := .list vs) ac.n (Apart.of i₁ hD).base hoD ⟨⟨ys, z, rfl, ac.v.mono (List.prefix_append ..)⟩, nq.1⟩)) (vrep_new i₂ D) nq.2
    have hLin : L ∉ ρ' ++ [D] := fun q => (List.mem_append.mp q).elim hLn fun q => hLD (List.mem_singleton.mp q)
    have go : ∀ {u : Value} {s'' : Shared}, PostK K (ρ' ++ [D]) s' V Q₂ u s'' → ∃ m, s''.heap.Ns L m ∧ ∀ h'', Heap.SameBut L s''.heap h'' → PostK K ρ s V Q₂ u { s'' with heap := h'' } := fun d =>
      let ⟨m, h1, h2⟩ := Post.letGo (Apart.of i₁ hL) hL g₅.weaken hLin hm d
      ⟨m, h1, fun h'' hs => (h2 h'' hs).trans g₁⟩
    cases use with
    | none => exact go U
    | some u => exact wpN_mono U fun _ s'' d => go d
  rcases q with ⟨k, o, xs, rfl, hS, hx⟩ | ⟨k, d, es, xs, rfl, hS, hx⟩
  · exact wpN_any (iter_of hS i₁ hsrc fun s₂ I ax St F => comp_rest (R := fun acc L s' => CompEnd K.M K.A use L acc (PostK K ρ s V Q₂) s') hc i₁ F hx fun D L ys vs _ σ' ρ' s' q i₂ g₂ hD ac hm hLn hLD hL => fin q i₂ g₂ hD ac hm hLn hLD hL)
  · obtain ⟨ax, ob, ha, ho, it⟩ := iterD_of hS i₁ hsrc
    exact wpN_any (it _ fun s₂ I St F => comp_rest (K := K.frz ax ob) (R := fun acc L s' => CompEnd K.M K.A use L acc (PostK K ρ s V Q₂) s') hc (Inv.freeze i₁ ha hS.at ho) F hx fun D L ys vs _ σ' ρ' s' q i₂ g₂ hD ac hm hLn hLD hL =>
      fin q.2 (Inv.thaw i₂ (i₁.rep.newA d ax _ ha hS.at rfl) (pre_get g₂.pre ha) q.1) g₂ hD ac hm hLn hLD hL)
section
variable {elt t i : Expr} {ifs : List Expr} {gs : List Comprehension}
def CompAt (P : Prog) (n : Nat) (sc csc : Scope) (gs : List Comprehension) (elt t i : Expr) (ifs : List Expr) (bs : Bs) (σ : Store) (Q : AV → Bs → Store → Prop) : Prop := (genOk ⟨t, i, ifs, 0⟩ && compOk sc csc) = true ∧ Hx (ev P n sc i) bs σ fun src bs' σ' => HxRun P n csc gs t ifs elt src (compBs csc bs') σ' fun vs _ σ'' => NewC vs bs' σ'' Q
theorem genOk_set (h : genOk ⟨t, i, ifs, 0⟩ = true) : notSet i = true := by
  cases i <;> first | rfl | exact absurd h Bool.false_ne_true
theorem hx_comp {p : Pos} {Q : AV → Bs → Store → Prop} (hc : (genOk ⟨t, i, ifs, 0⟩ && compOk sc csc) = true) (h : Hx (ev P n sc i) bs σ fun src bs' σ' => HxRun P n csc gs t ifs elt src (compBs csc bs') σ' fun vs _ σ'' => NewC vs bs' σ'' Q) : Hx (ev P n sc (.ListComp elt (⟨t, i, ifs, 0⟩ :: gs) csc p)) bs σ Q := fun K ρ s iv => by
  show wpN _ _ (PySem.eval _ _) _ _
  rw [arm_eval_ListComp]
  exact comp_core (K := K) (genOk_set ((Bool.and_eq_true _ _).mp hc).1) ((Bool.and_eq_true _ _).mp hc).2 iv (h K ρ s iv) fun ρ' bs' σ' s' k D i hv q => post_here i q hv
theorem swaps_bool {gens : List Comprehension} {pos p : Pos} {x : Str} {l : Nat} {env : Env} : ∃ b, swapsWith (.ListComp elt gens csc pos) (some (.Name x p)) l env = pure b := ⟨_, rfl⟩
theorem assign_comp {x : Str} {q p cp : Pos} {Q : Fl → Bs → Store → Prop} (hx : isLoc sc x = true) (hc : (genOk ⟨t, i, ifs, 0⟩ && compOk sc csc) = true) (h : Hx (ev P n sc i) bs σ fun src bs' σ' => HxRun P n csc gs t ifs elt src (compBs csc bs') σ' fun vs _ σ'' => NewC vs bs' σ'' fun v bs' σ' => Q .next ((x, v) :: bs') σ') :
    Hx (exec P n sc (.Assign [.Name x q] (.ListComp elt (⟨t, i, ifs, 0⟩ :: gs) csc cp) p)) bs σ Q := fun K ρ s iv tp => by
  show wpN _ _ (PySem.exec _ _) _ _
  obtain ⟨b, hb⟩ := swaps_bool (csc := csc) (elt := elt) (gens := (⟨t, i, ifs, 0⟩ :: gs)) (pos := cp) (p := q) (x := x) (l := p.line) (env := K.env)
  cases b with
  | false =>
    rw [exec_Assign_Name K.env x q _ p hb]
    refine wpN_stand (thenP (hx_comp hc h K ρ s iv) fun a _ _ ρ₁ u t₁ h i₁ p₁ hu => ?_)
    exact wpN_stand (wpN_bind (wpN_any (wpAny_mono (wpAny_bindName (wp_store i₁ hu (loc_of hx))) (fun _ t₂ d => wpN_pure ⟨.next, _, _, ρ₁, h, d.1, d.2, rfl⟩) fun _ _ x => x)))
  | true =>
    rw [exec_Assign_Name_used x q _ p hb]
    refine wpN_stand (wpN_bind (wpN_bind (wpN_mono (comp_core (K := K) (V := fun _ _ _ => True) (Q₂ := fun (_ : Unit) => Q .next) (use := some (assign (.Name x q) K.env)) (genOk_set ((Bool.and_eq_true _ _).mp hc).1) ((Bool.and_eq_true _ _).mp hc).2 iv (h K ρ s iv) fun ρ' bs' σ' s' k D i hv hq => ?_) fun _ t d => wpN_pure (wpN_pure ?_))))
    · exact wpN_any (wpAny_assign_Name (wpAny_mono (wp_store i hv (loc_of hx)) (fun _ t₂ d => ⟨(), _, _, ρ', hq, d.1, d.2, trivial⟩) fun _ _ x => x))
    · cases d with
      | mk a b σ ρ' q i g v => exact ⟨.next, b, σ, ρ', q, i, g, rfl⟩
end
end Mine.H
end

section
namespace Mine
open PySem PySem.W PyProof.Rows PySem.Calls
open Sem (wp)
open H (wpN_stand)

def wpE {α : Type} (M : Model) (A : Around) (t : Sem α) (Q : α → Shared → Prop) (E : Value → Shared → Prop) (s : Shared) : Prop :=
  ∀ Γ p, Γ.In A → codeFree Γ.code = true → CleanL Γ.below → wp M Γ t (fun a _ s' => Q a s') (fun e _ s' => E e s') p s

section
variable {α β : Type} {M : Model} {A : Around} {s : Shared} {Q Q' : α → Shared → Prop} {E : Value → Shared → Prop} {t m : Sem α}
theorem wpE_any (h : wpAny M A t Q E s) : wpE M A t Q E s := fun Γ p hΓ _ _ => h Γ p hΓ
theorem wpE_N (h : wpN M A t Q s) : wpE M A t Q E s := fun Γ p hΓ hc hb => Sem.wp_mono M Γ t (fun _ _ _ h => h) (fun _ _ _ h => h.elim) p s (h.go Γ p hΓ hc hb)
theorem wpE_pure {a : α} (h : Q a s) : wpE M A (pure a) Q E s := fun _ _ _ _ _ => h
theorem wpE_bind {f : α → Sem β} {Q : β → Shared → Prop} (h : wpE M A m (fun a s' => wpE M A (f a) Q E s') E s) : wpE M A (m >>= f) Q E s := fun Γ p hΓ hc hb => by
  rw [Sem.wp_bind']
  exact Sem.wp_mono M Γ m (fun a p' s' h' => h' Γ p' hΓ hc hb) (fun _ _ _ h' => h') p s (h Γ p hΓ hc hb)
theorem wpE_bindN {f : α → Sem β} {Q : β → Shared → Prop} (h : wpN M A m (fun a s' => wpE M A (f a) Q E s') s) : wpE M A (m >>= f) Q E s := wpE_bind (wpE_N h)
theorem wpE_stand {pos : Pos} {Q : α → Shared → Prop} (h : wpE M A m Q E s) : wpE M A (standAt pos >>= fun _ => m) Q E s := wpE_bind fun _ _ _ _ _ => h
theorem wpN_attemptE {Q : Except Value α → Shared → Prop} (h : wpE M A m (fun a => Q (.ok a)) (fun e => Q (.error e)) s) : wpN M A m.attempt Q s := .mk fun Γ p hΓ hc hb => by
  rw [Sem.wp_attempt]
  exact h Γ p hΓ hc hb
end

theorem bound_next {it : Addr} : checkBoundCall "list_iterator.__next__" ⟨[.ref it], []⟩ = pure () := by kernel_rfl
theorem quiet_next {as : Args} : (Code.builtin "list_iterator.__next__" as).quiet = true := Code.quiet_builtin _ (by decide +kernel)

section
variable {prog : Program} {w : World} {A : Around} {E : Value → Shared → Prop} {s : Shared}

theorem code_wrapper {b it : Addr} {R : Result → Shared → Prop} (hb : s.heap.get? b = some { cls := .type "method-wrapper", data := .fields #[.builtin "list_iterator.__next__", .ref it] })
    (h : wpAny (model prog w) (A.under (.builtin "list_iterator.__next__" ⟨[.ref it], []⟩)) (Builtin.«list_iterator.__next__» ⟨[.ref it], []⟩)
      (fun fin s' => match fin with | .done f => R (.ok f) s' | .again c' => c'.quiet = true ∧ codeAny (model prog w) A c' R s') (fun e s' => R (.error e) s') s) :
    codeAny (model prog w) A (.call (.ref b) ⟨[], []⟩) R s := by
  refine codeAny_of_tree ?_
  show wpAny _ A.in1 (callAny (.ref b) _) _ _ _
  unfold callAny
  refine wpAny_bind (wpAny_load hb ?_)
  dsimp only
  show wpAny _ _ (do checkBoundCall "list_iterator.__next__" ⟨[.ref it], []⟩; return ← again (.builtin "list_iterator.__next__" ⟨[.ref it], []⟩)) _ _ _
  rw [bound_next]
  refine wpAny_pure ⟨quiet_next, codeAny_builtin entry_listiter_next h⟩

theorem item_tree {it l : Addr} {k : Nat} {items : Array Value} {x : Value} {Q : Fin → Shared → Prop} (hit : s.heap.IsListIter it l k) (hl : s.heap.IsList l items) (hx : items[k]? = some x)
    (hQ : ∀ h', h'.IsListIter it l (k + 1) → Heap.SameBut it s.heap h' → Q (.done (.ret x)) { s with heap := h' }) : wpAny (model prog w) A (Builtin.«list_iterator.__next__» ⟨[.ref it], []⟩) Q E s := by
  obtain ⟨o, ho, hc, hd⟩ := id hit
  obtain ⟨ol, hol, _, nl, hdl⟩ := hl
  show wpAny _ _ (field (.ref it) 0 >>= _) _ _ s
  refine wpAny_bind (wpAny_field ho hd (x := .ref l) rfl ?_)
  show wpAny _ _ (if (Value.ref l == Value.none) = true then _ else _) _ _ s
  rw [if_neg (show ¬ ((Value.ref l == Value.none) = true) from Bool.false_ne_true)]
  show wpAny _ _ (field (.ref it) 1 >>= _) _ _ s
  refine wpAny_bind (wpAny_field ho hd (x := .int k 0) rfl ?_)
  show wpAny _ _ (seqItems? (.ref l) >>= _) _ _ s
  refine wpAny_bind (wpAny_seqItems hol hdl ?_)
  simp only [Int.toNat_natCast, hx]
  refine wpAny_bind (wpAny_setField ho hd (by simp) (wpAny_pure (hQ _ ?_ (Heap.SameBut.update ..))))
  exact ⟨_, Heap.get?_update_self _ ho (Obj.isFreed_of_fields (Obj.data_mapFields hd _)), (Obj.cls_mapFields ..).trans hc, by
    rw [Obj.data_mapFields hd]; simp [rawInt]⟩

theorem evalArgs_nil {M : Model} {f : Value} : wpN M A (evalArgs f true [] []) (fun x s' => x = ⟨[], []⟩ ∧ s' = s) s := by
  unfold evalArgs
  dsimp only
  refine wpN_bind (wpN_pure (wpN_bind (wpN_pure (wpN_holding ?_))))
  refine wpN_true rfl ?_
  exact wpN_bind (wpN_pure (wpN_bind (wpN_pure (wpN_pure ⟨rfl, rfl⟩))))

theorem wpE_callWith0 {pos : Pos} {b it : Addr} {Q : Value → Shared → Prop} (hb : s.heap.get? b = some { cls := .type "method-wrapper", data := .fields #[.builtin "list_iterator.__next__", .ref it] })
    (h : wpAny (model prog w) (A.under (.builtin "list_iterator.__next__" ⟨[.ref it], []⟩)) (Builtin.«list_iterator.__next__» ⟨[.ref it], []⟩) (fun fin s' => ∃ v, fin = .done (.ret v) ∧ Q v s') E s) :
    wpE (model prog w) A (callWith pos (.ref b) [] [] []) Q E s := by
  unfold callWith
  refine wpE_bindN (wpN_holding (wpN_mono evalArgs_nil fun x s₁ hx => ?_))
  obtain ⟨rfl, rfl⟩ := hx
  refine wpE_stand ?_
  dsimp only
  refine wpE_bindN (wpN_mono (Q := fun k s' => k = Keeper.machine ∧ s' = s₁) ?_ fun k s₂ hk => ?_)
  · unfold keeperOf
    refine wpN_bind (wpN_any (wpAny_load hb ?_))
    exact wpN_pure ⟨rfl, rfl⟩
  obtain ⟨rfl, rfl⟩ := hk
  refine wpE_bind (wpE_any (wpAny_call (codeAny_mono (code_wrapper hb (wpAny_mono h (fun fin s' hf => ?_) fun _ _ z => z)) fun r s' hr => hr)))
  obtain ⟨v, rfl, hv⟩ := hf
  exact wpE_bindN (wpN_holding (wpN_point (wpE_pure hv)))
end
end Mine
end

section
namespace Mine
open PySem PySem.W PyProof.Rows PySem.Calls
open Sem (wp)
open H
theorem tn_exc : isSubtype (.type "StopIteration") (.type "BaseException") = pure true := by rw [isSubtype_type]; kernel_rfl
theorem tn_tup : isSubtype (.type ((Manifest.find? "StopIteration").elim "type" fun y => y.metatype)) (.type "tuple") = pure false := by rw [isSubtype_type]; kernel_rfl
theorem tn_sub : isSubtype (.type "StopIteration") (.type "StopIteration") = pure true := by rw [isSubtype_type]; kernel_rfl
theorem tn_pop : typeOf (.builtin "list.pop") = pure (.type "method_descriptor") := by kernel_rfl
theorem call0_tree {env : Env} {o : Expr} {x : Str} {ap pos : Pos} (hline : ap.endLine = pos.line) (hn : attributeBase o x env (PySem.eval o env) = PySem.eval o env) : ∃ pl, PySem.eval (.Call (.Attribute o x ap) [] [] pos) env = (do
      let ov ← PySem.eval o env
      standAt ap.atName
      let (f, first) ← holding [ov] (getMethod ov x pl)
      callWith pos f first (backTo pos (starEach [] env)) []) := by
  rw [arm_eval_Call, hn]
  unfold methodCall
  have hform : methodCallForm (([] : List Expr).length + ([] : List Keyword).length) (backTo pos (starEach [] env)) (backToKw pos (keywordEach [] env)) = true := rfl
  rw [hform]
  have hpos : methodCallPos true o env ap pos = pure pos := by
    unfold methodCallPos
    rw [hline]
    simp
  rw [hpos]
  exact ⟨_, rfl⟩
section
variable {X : Cx} {sc : Scope} {env : Env} {A A' : Around} {N : Nat} {ρ : List Addr} {bs : Bs} {σ : Store} {s s' : Shared} {E : Value → Shared → Prop}
def LocAt (sc : Scope) (bs : Bs) (x : Str) (v : AV) : Prop := (sc.names.lookup x = some .local ∧ (x == ("__debug__" : Str)) = false) ∧ bs.lookup x = some v
theorem name_local {x : Str} {v : AV} {p : Pos} {Q : Value → Shared → Prop} (i : Inv X sc env A N ρ bs σ s) (h : LocAt sc bs x v) (q : ∀ y, VRep ρ v y → Q y s) : wpAny (model X.prog X.w) A' (PySem.eval (.Name x p) env) Q E s := by
  obtain ⟨⟨hk, hd⟩, hw⟩ := h
  have hkind : env.kindOf x = some .local := (i.fr.names x _ hk).elim id fun h => by cases h.1
  obtain ⟨m, hm, hall⟩ := i.fr.ns
  obtain ⟨u, hu, hr⟩ := hall x _ hk hw
  exact wpAny_Name (wpAny_loadName_local i.fr.kind hkind hm hu (q u hr)) hd
theorem pop_row {ρ : List Addr} {vs : List AV} {v : AV} {xs : Array Value} (h : VReps ρ (vs ++ [v]) xs.toList) : ∃ y, xs[xs.size - 1]? = some y ∧ VRep ρ v y ∧ VReps ρ vs (xs.eraseIdxIfInBounds (xs.size - 1)).toList := by
  have hl := h.length
  rw [Array.length_toList, List.length_append, List.length_singleton] at hl
  obtain ⟨y, h1, h2⟩ := h.get (i := vs.length) (v := v) (by simp)
  have ht := h.take vs.length
  rw [List.take_left] at ht
  rw [hl, Nat.add_sub_cancel]
  refine ⟨y, by rwa [Array.getElem?_toList] at h1, h2, ?_⟩
  rw [Array.eraseIdxIfInBounds, dif_pos (by lia), Array.toList_eraseIdx, List.eraseIdx_eq_take_drop_succ, List.drop_of_length_le (by rw [Array.length_toList]; lia), List.append_nil]
  exact ht
theorem op_pop {j : Nat} {vs : List AV} {v : AV} {u : Value} {pl : Sem Bool} {pos : Pos} {Q : Value → Shared → Prop} (i : Inv X sc env A N ρ bs σ s) (hu : VRep ρ (.ref j) u) (e : σ[j]? = some (.list (vs ++ [v])))
    (h : ∀ y s', VRep ρ v y → Inv X sc env A N ρ bs (σ.set j (.list vs)) s' → Grow (Own sc env) ρ s ρ s' → Q y s') :
    wpAny (model X.prog X.w) A' (getMethod u "pop" pl) (fun fx s₁ => wpAny (model X.prog X.w) A' (callWith pos fx.1 fx.2 (backTo pos (starEach [] env)) []) Q E s₁) E s := by
  obtain ⟨a, xs, m, ha, ho, hr, hl, hz⟩ := list_at i e
  obtain ⟨a', ha', rfl⟩ := hu
  rw [ha] at ha'; cases ha'
  have hd : ∀ b, Value.ref a = .ref b → ∃ o, s.heap.get? b = some o ∧ o.dict = Option.none := fun b e => by cases e; exact ⟨_, ho, rfl⟩
  refine getMethod_builtin ⟨_, ho, rfl⟩ PySem.F.plainAttrs_list PySem.F.slot_list_pop tn_pop hd (callWith_method0 ?_)
  obtain ⟨y, hy, hvy, hr'⟩ := pop_row hr
  obtain ⟨m', hg⟩ := upd_seq (fun ys => ys.eraseIdxIfInBounds (xs.size - 1)) ho
  refine call_meets PySem.F.slot_list_pop ⟨_, ho, rfl⟩ PySem.F.entry_list_pop (PySem.F.args_list_pop_1 _) (PySem.MeetsSeq.list_pop_last a xs m y hy (by rw [sizeLine_eq]; lia)) ⟨ho, ?_⟩
  rw [List.length_append] at hl
  have g : ∀ {own : Addr → Prop}, Grow own ρ s ρ { s with heap := s.heap.update a (Obj.mapSeq fun ys => ys.eraseIdxIfInBounds (xs.size - 1)) } := Grow.put (List.mem_of_getElem? ha) (upd_keeps _) ⟨_, hg⟩ rfl rfl
  exact h _ { s with heap := s.heap.update a (Obj.mapSeq fun ys => ys.eraseIdxIfInBounds (xs.size - 1)) } hvy (i.step g (i.rep.put ha e rfl (upd_keeps _) hg ⟨⟨_, _, rfl, hr'⟩, Nat.le_of_succ_le hl⟩)) g
theorem popped {x : Str} {xp ap cp : Pos} {j : Nat} {vs : List AV} {v : AV} {Q : Value → Shared → Prop} (hline : ap.endLine = cp.line) (i : Inv X sc env A N ρ bs σ s) (hx : LocAt sc bs x (.ref j)) (e : σ[j]? = some (.list (vs ++ [v])))
    (h : ∀ y s', VRep ρ v y → Inv X sc env A N ρ bs (σ.set j (.list vs)) s' → Grow (Own sc env) ρ s ρ s' → Q y s') : wpAny (model X.prog X.w) A' (PySem.eval (.Call (.Attribute (.Name x xp) "pop" ap) [] [] cp) env) Q E s := by
  obtain ⟨pl, t⟩ := call0_tree (env := env) (o := .Name x xp) (x := "pop") hline rfl
  rw [t]
  exact wpAny_bind (name_local i hx fun y hy => wpAny_bind (wpAny_standAt (wpAny_bind (wpAny_holding (op_pop i hy e h)))))
theorem suite_ok {d st its : Str} {ap cp ap' cp' sp dp ep p1 p2 p3 : Pos} {di si ii : Nat} {es : List (Int × AV)} {S I : List AV} {v : Int} {w : AV} {Q : Flow → Shared → Prop} (hl1 : ap.endLine = cp.line) (hl2 : ap'.endLine = cp'.line) (i : Inv X sc env A N ρ bs σ s)
    (hd : LocAt sc bs d (.ref di)) (hst : LocAt sc bs st (.ref si)) (hi : LocAt sc bs its (.ref ii)) (e1 : σ[si]? = some (.list (S ++ [.int v]))) (e2 : (σ.set si (.list S))[di]? = some (.dict es)) (ha : es.any (·.1 == v) = true) (e3 : ((σ.set si (.list S)).set di (.dict (ddel es v)))[ii]? = some (.list (I ++ [w])))
    (h : ∀ s', Inv X sc env A N ρ bs (((σ.set si (.list S)).set di (.dict (ddel es v))).set ii (.list I)) s' → Grow (Own sc env) ρ s ρ s' → Q .next s') :
    wpAny (model X.prog X.w) A' (PySem.execs [.Delete [.Subscript (.Name d p1) (.Call (.Attribute (.Name st p2) "pop" ap) [] [] cp) sp] dp, .Expr (.Call (.Attribute (.Name its p3) "pop" ap') [] [] cp') ep] env) Q E s := by
  rw [arm_execs_cons, arm_exec_Delete]
  refine wpAny_bind ?_
  rw [arm_deleteEach_cons, arm_deleteEach_nil]
  refine wpAny_bind (wpAny_standAt (wpAny_bind (wpAny_bind ?_)))
  rw [arm_delete_Subscript]
  refine wpAny_bind (name_local i hd fun y hy => wpAny_bind (wpAny_holding (popped hl1 i hst e1 fun k s₁ hk i₁ g₁ => ?_)))
  refine wpAny_bind (wpAny_standAt (wpAny_bind (wpAny_holding (op_delItem i₁ hy hk e2 ha fun s₂ i₂ g₂ => ?_))))
  refine wpAny_release (wpAny_pure (wpAny_pure ?_))
  dsimp only
  rw [arm_execs_cons]
  have hi' : interactive env = false := by unfold interactive; rw [i.fr.kind]; rfl
  refine wpAny_bind (wpAny_Expr_any (popped hl2 i₂ hi e3 fun _ s₃ _ i₃ g₃ => ?_) hi' rfl)
  exact wpAny_pure (h s₃ i₃ (g₁.trans (g₂.trans g₃)))
end
end Mine
end

section
namespace Mine
open PySem PySem.W PyProof.Rows PySem.Calls
open Sem (wp)
open H
section
variable {M : Model} {A : Around} {s : Shared} {env : Env}
theorem tryN {body orelse : Sem Flow} {h₀ : ExceptHandler} {hs : List ExceptHandler} {Q : Flow → Shared → Prop}
    (h : wpE M A body (fun f s₁ => match f with | .next => wpN M A orelse Q s₁ | f => Q f s₁)
      (fun e s₁ => wpAny M A (noteFrame e env) (fun _ s₂ => wpAny M A (setFlight e none) (fun _ s₃ => wpAny M A (handleBy e env (h₀ :: hs)) Q (fun _ _ => False) s₃) (fun _ _ => False) s₂) (fun _ _ => False) s₁) s) :
    wpN M A (tryStmt false body (h₀ :: hs) orelse [] env) Q s := by
  unfold tryStmt
  simp only [List.isEmpty_nil, if_true, List.isEmpty_cons, Bool.false_and, Bool.false_eq_true, if_false]
  refine wpN_bind (wpN_attemptE fun Γ p hΓ hc hb => Sem.wp_mono M Γ body (fun f p' s₁ h₁ => ?_) (fun e p' s₁ h₁ => ?_) p s (h Γ p hΓ hc hb))
  · cases f <;> first | exact h₁ | exact wpN_pure h₁
  · exact wpN_any (wpAny_bind (wpAny_mono h₁ (fun _ _ h₂ => wpAny_bind h₂) fun _ _ x => x))
end

theorem frames_hide {h : Heap} {as : List Addr} {P : Addr → Prop} : ∀ {fr : List Env}, (∀ e ∈ fr, e.scope.kind = .function ∧ ∃ L o es ep, e.frame = some L ∧ h.get? L = some o ∧ o.data = .dict es ep ∧ P L) → (∀ e ∈ fr, ∀ L, e.frame = some L → L ∈ as) → h.FunFrames (hideAll h as) fr
  | [], _, _ => trivial
  | e :: fr, hf, ha => by
    obtain ⟨hk, L, o, es, ep, h1, h2, h3, _⟩ := hf e (.head _)
    exact ⟨by rw [hk]; exact fun q => (nomatch q), ⟨L, o, h1, hideAll_none _ (ha e (.head _) L h1), h2, fun vs q => by rw [h3] at q; cases q⟩, frames_hide (fun e' he => hf e' (.tail _ he)) fun e' he => ha e' (.tail _ he)⟩

theorem Rep.aside {X : Cx} {ρ : List Addr} {σ : Store} {h h' : Heap} {as : List Addr} (r : Rep X ρ σ h) (k : ∀ b o, b ∉ as → h.get? b = some o → h'.get? b = some o) (hρ : ∀ b ∈ ρ, b ∉ as) (hX : ∀ b ∈ as, X.at b = none) : Rep X ρ σ h' where
  len := r.len
  nodup := r.nodup
  obj := fun i a ao ha hao => by
    obtain ⟨o, e, q⟩ := r.obj i a ao ha hao
    exact ⟨o, k a o (hρ a (List.mem_of_getElem? ha)) e, q⟩
  newA := r.newA
  keepA := fun b o e => k b o (fun q => by rw [hX b q] at e; cases e) (r.keepA b o e)

section
variable {X : Cx} {sc : Scope} {env : Env} {A A' : Around} {N : Nat} {ρ : List Addr} {bs : Bs} {σ : Store} {s s' : Shared} {E : Value → Shared → Prop}

theorem lands {e it : Addr} {h' : Heap} {ob : Obj} {t : Array Value} {a0 : Value} {l k : Nat} {t0 : Expr} {b₀ : Stmt} {suite : List Stmt} {hp : Pos} {Q : Flow → Shared → Prop} (i : Inv X sc env A N ρ bs σ s) (tp : Top env A)
    {j : Nat} (hit : ρ[j]? = some it) (hσ : σ[j]? = some (.iter l k)) (kp : ∀ b o, b ≠ it → s.heap.get? b = some o → h'.get? b = some o) (hit' : ∃ o, h'.get? it = some o) (hn : s.heap.get? e = none) (ho : h'.get? e = some ob) (hc : ob.cls = .type "StopIteration") (hd : ob.data = .fields t) (h1 : t[1]? = some .none) (h0 : t[0]? = some a0)
    (ht : ∀ (A' : Around) (E : Value → Shared → Prop) (Q : Value → Shared → Prop) (s₁ : Shared) (ρ₁ : List Addr) (b₁ : Bs) (t₁ : Store), Inv X sc env A N ρ₁ b₁ t₁ s₁ → Q (.type "StopIteration") s₁ → wpAny (model X.prog X.w) A' (PySem.eval t0 env) Q E s₁)
    (hs : ∀ (A' : Around) (E : Value → Shared → Prop) (s₁ : Shared), Inv X sc env A N ρ bs (σ.set j .junk) s₁ → Grow (Own sc env) ρ s ρ s₁ → wpAny (model X.prog X.w) A' (PySem.execs (b₀ :: suite) env) Q E s₁) :
    wpAny (model X.prog X.w) A (noteFrame (.ref e) env) (fun _ s₂ => wpAny (model X.prog X.w) A (setFlight (.ref e) none) (fun _ s₃ => wpAny (model X.prog X.w) A (handleBy (.ref e) env [.ExceptHandler (some t0) none (b₀ :: suite) hp]) Q (fun _ _ => False) s₃) (fun _ _ => False) s₂) (fun _ _ => False) { s with heap := h' } := by
  obtain ⟨outer, hfr⟩ := tp
  obtain ⟨fr, hfr', hall⟩ := i.ok.frames
  rw [hfr] at hfr'; cases hfr'
  obtain ⟨hk, L, oL, esL, epL, hfL, hL, hLd, hLn, hLX⟩ := hall env (.head _)
  let as : List Addr := e :: (env :: outer).filterMap (·.frame)
  have hmem : ∀ e' ∈ (env :: outer), ∀ L', e'.frame = some L' → L' ∈ as := fun e' he L' hl => .tail _ (List.mem_filterMap.mpr ⟨e', he, hl⟩)
  have itIn : it ∈ ρ := List.mem_of_getElem? hit
  have lIt : ∀ {e' : Env} {L' : Addr}, e' ∈ (env :: outer) → e'.frame = some L' → L' ∉ ρ ∧ X.at L' = none ∧ ∃ o es ep, s.heap.get? L' = some o ∧ o.data = .dict es ep := fun {e' L'} he hl => by
    obtain ⟨_, L2, o2, es2, ep2, q1, q2, q3, q4, q5⟩ := hall e' he
    rw [hl] at q1; cases q1
    exact ⟨q4, q5, o2, es2, ep2, q2, q3⟩
  have hall' : ∀ e' ∈ (env :: outer), e'.scope.kind = .function ∧ ∃ L o es ep, e'.frame = some L ∧ h'.get? L = some o ∧ o.data = .dict es ep ∧ (L ∉ ρ ∧ X.at L = none) := fun e' he => by
    obtain ⟨q0, L2, o2, es2, ep2, q1, q2, q3, q4, q5⟩ := hall e' he
    exact ⟨q0, L2, o2, es2, ep2, q1, kp _ _ (fun q => q4 (q ▸ itIn)) q2, q3, q4, q5⟩
  have FF := frames_hide (as := as) hall' hmem
  have notAs : ∀ {b : Addr}, b ∈ as → b = e ∨ ∃ e' ∈ (env :: outer), e'.frame = some b := fun {b} hb => by
    rcases List.mem_cons.mp hb with hb | hb
    · exact .inl hb
    · obtain ⟨e', he, hl⟩ := List.mem_filterMap.mp hb
      exact .inr ⟨e', he, hl⟩
  have out : ∀ (h₂ : Heap), (hideAll h' as).StaysIn h₂ → h'.UpToSlots h₂ → Inv X sc env A N ρ bs (σ.set j .junk) { s with heap := h₂ } ∧ Grow (Own sc env) ρ s ρ { s with heap := h₂ } := fun h₂ k1 k2 => by
    have keepB : ∀ b o, b ∉ as → h'.get? b = some o → h₂.get? b = some o := fun b o hb q => k1 b o (hideAll_get _ q hb)
    have itAs : it ∉ as := fun q => by
      rcases notAs q with q | ⟨e', he, hl⟩
      · obtain ⟨oi, hoi⟩ := i.rep.there itIn
        rw [q, hn] at hoi; cases hoi
      · exact (lIt he hl).1 itIn
    have g : Grow noOwn ρ s ρ { s with heap := h₂ } := by
      have main : ∀ b o, s.heap.get? b = some o → b ≠ it → ∃ o', h₂.get? b = some o' ∧ Sim o o' := fun b o eb hb => by
        have e1 := kp b o hb eb
        by_cases hbas : b ∈ as
        · rcases notAs hbas with q | ⟨e', he, hl⟩
          · rw [q, hn] at eb; cases eb
          · obtain ⟨_, _, o2, es2, ep2, q2, q3⟩ := lIt he hl
            rw [eb] at q2; cases q2
            obtain ⟨sl, h3⟩ := k2 b o e1 fun vs q => by rw [q3] at q; cases q
            exact ⟨_, h3, .inr ⟨⟨es2, ep2, q3⟩, sl, rfl⟩⟩
        · exact ⟨o, keepB b o hbas e1, .refl o⟩
      refine ⟨List.prefix_rfl, fun b hb => .inl hb, fun b o eb => ?_, fun b o eb hb _ => main b o eb fun q => hb (q ▸ itIn), rfl, rfl⟩
      by_cases hb : b = it
      · obtain ⟨o', ho'⟩ := hit'
        subst hb
        exact ⟨o', keepB _ _ itAs ho'⟩
      · obtain ⟨o', ho', _⟩ := main b o eb hb
        exact ⟨o', ho'⟩
    have rAs : ∀ {b : Addr}, b ∈ ρ → b ∉ as := fun {b} hb q => by
      rcases notAs q with q | ⟨e', he, hl⟩
      · obtain ⟨oi, hoi⟩ := i.rep.there hb
        rw [q, hn] at hoi; cases hoi
      · exact (lIt he hl).1 hb
    have r : Rep X ρ (σ.set j .junk) h₂ := by
      obtain ⟨o', ho'⟩ := hit'
      refine (i.rep.put (o := o') (ao' := .junk) hit hσ rfl kp ho' trivial).aside (as := as) keepB (fun b hb => rAs hb) fun b hb => ?_
      rcases notAs hb with q | ⟨e', he, hl⟩
      · cases hz : X.at b with
        | none => rfl
        | some oz => have := i.rep.keepA b oz hz; rw [q, hn] at this; cases this
      · exact (lIt he hl).2.1
    exact ⟨i.step g r, g.weaken⟩
  unfold noteFrame
  simp only [hfL]
  have hsz : 1 < t.size := (Array.getElem?_eq_some_iff.mp h1).1
  refine wpAny_bind (wpAny_field ho hd h1 ?_)
  rw [if_neg (by decide)]
  refine wpAny_entryW (base := hideAll h' as) hfr FF hfL ho (fun b o q => of_hideAll _ q) (hideAll_none _ (.head _)) hd hsz h0 fun h₂ hN => ?_
  obtain ⟨k1, k2, k3, k4⟩ := hN
  rw [hc] at k3
  have held : Heap.HeldW (hideAll h' as) (env :: outer) e (.type "StopIteration") a0 L h₂ := ⟨k1, hideAll_none _ (.head _), k2, k3⟩
  refine wpAny_landsW held fun h₃ hfl₃ hsm₃ => ?_
  have sm₃ : h'.UpToSlots h₃ := Heap.UpToSlots.trans k4 hsm₃
  obtain ⟨i₃, g₃⟩ := out h₃ hfl₃.1 sm₃
  refine wpAny_handleBy_builtin (X := "StopIteration") (T := "StopIteration") (b := true) tn_exc tn_tup tn_sub (ht _ _ _ _ _ _ _ i₃ ⟨rfl, ?_, ?_⟩)
  · obtain ⟨o2, ho2, hc2⟩ := hfl₃.there
    exact ⟨o2, ho2, hc2⟩
  · rw [if_pos rfl]
    refine lands_againW hfl₃ fun h₄ hfl₄ hsm₄ => ?_
    obtain ⟨i₄, g₄⟩ := out h₄ hfl₄.1 (Heap.UpToSlots.trans sm₃ hsm₄)
    exact hs _ _ _ i₄ g₄

end
namespace H
variable {P : Prog} {n : Nat} {sc : Scope} {bs : Bs} {σ : Store} {Q : Fl → Bs → Store → Prop}
theorem plain_arm {f : Expr} (h : plainCallee f = true) (es : List Expr) (pos : Pos) (env : Env) : PySem.eval (.Call f es [] pos) env = (do callWith pos (← PySem.eval f env) [] (backTo pos (starEach es env)) []) := by
  cases f <;> first | rfl | exact absurd h Bool.false_ne_true
theorem try_call {f : Expr} {x : Str} {xp cp0 apos bp pos : Pos} {h₀ : ExceptHandler} {i j l k : Nat} {vs : List AV} {V : List Addr → Fl → Flow → Prop} (hpl : plainCallee f = true) (hf : Pv (ev P n sc f) bs σ (.ref i)) (h1 : σ[i]? = some (.nextOf j)) (h2 : σ[j]? = some (.iter l k)) (h3 : σ[l]? = some (.list vs))
    {K : Cfg P n sc} {ρ : List Addr} {s : Shared} (iv : K.I ρ bs σ s)
    (h : ∀ ρ₁ s₁ ita al xs, K.I ρ₁ bs σ s₁ → Grow (Own sc K.env) ρ s ρ₁ s₁ → ρ₁[j]? = some ita → ρ₁[l]? = some al → s₁.heap.IsListIter ita al k → s₁.heap.IsList al xs → VReps ρ₁ vs xs.toList →
      wpAny K.M (K.A.under (.builtin "list_iterator.__next__" ⟨[.ref ita], []⟩)) (Builtin.«list_iterator.__next__» ⟨[.ref ita], []⟩) (fun fin s' => ∃ v, fin = .done (.ret v) ∧ wpN K.M K.A (bindName K.env x v) (fun _ s₂ => PostK K ρ₁ s₁ FRep Q .brk s₂) s')
        (fun e s₁' => wpAny K.M K.A (noteFrame e K.env) (fun _ s₂ => wpAny K.M K.A (setFlight e none) (fun _ s₃ => wpAny K.M K.A (handleBy e K.env [h₀]) (PostK K ρ₁ s₁ FRep Q) (fun _ _ => False) s₃) (fun _ _ => False) s₂) (fun _ _ => False) s₁') s₁) :
    wpN K.M K.A (PySem.exec (.Try [.Assign [.Name x xp] (.Call f [] [] cp0) apos, .Break bp] [h₀] [] [] pos) K.env) (PostK K ρ s FRep Q) s := by
  rw [arm_exec_Try]
  refine wpN_stand (tryN ?_)
  rw [arm_execs_cons, exec_Assign_Name K.env x xp _ apos rfl, plain_arm hpl]
  refine wpE_bind (wpE_stand (wpE_bind (wpE_bindN (wpN_mono (hf K ρ s iv) fun u t d => ?_))))
  cases d with
  | mk a b₁ σ₁ ρ₁ q i₁ g₁ hu =>
  obtain ⟨rfl, rfl, rfl⟩ := q
  obtain ⟨a', ha', rfl⟩ := hu
  obtain ⟨a, ob, ha, hob, ita, hita, rfl⟩ := i₁.rep.at h1
  rw [ha] at ha'; cases ha'
  obtain ⟨ita', al, xs, hita', hal, hIt, hls, hr⟩ := iter_at i₁ h2 h3
  rw [hita] at hita'; cases hita'
  show wpE _ _ (callWith cp0 (.ref _) [] [] []) _ _ _
  refine wpE_callWith0 hob (wpAny_mono (h ρ₁ t ita al xs i₁ g₁ hita hal hIt hls hr) (fun fin s' q => ?_) fun e s' q => ?_)
  · obtain ⟨v, rfl, q⟩ := q
    refine ⟨v, rfl, wpE_stand (wpE_bindN (wpN_mono q fun _ t₃ d => wpE_pure (wpE_N ?_)))⟩
    rw [arm_execs_cons]
    exact wpN_bind (wpN_stand (wpN_pure (wpN_pure (d.trans g₁))))
  · exact wpAny_mono q (fun _ _ q => wpAny_mono q (fun _ _ q => wpAny_mono q (fun _ _ d => d.trans g₁) fun _ _ z => z) fun _ _ z => z) fun _ _ z => z
theorem hx_tryDraw {f : Expr} {x : Str} {xp cp0 apos bp pos : Pos} {h₀ : ExceptHandler} {i j l k : Nat} {vs : List AV} {v : AV} (hpl : plainCallee f = true) (hf : Pv (ev P n sc f) bs σ (.ref i)) (h1 : σ[i]? = some (.nextOf j)) (h2 : σ[j]? = some (.iter l k)) (h3 : σ[l]? = some (.list vs)) (hv : vs[k]? = some v) (hx : isLoc sc x = true)
    (h : Q .brk ((x, v) :: bs) (σ.set j (.iter l (k + 1)))) : Hx (exec P n sc (.Try [.Assign [.Name x xp] (.Call f [] [] cp0) apos, .Break bp] [h₀] [] [] pos)) bs σ Q := fun K ρ s iv tp => by
  refine try_call (K := K) (V := FRep) hpl hf h1 h2 h3 iv fun ρ₁ s₁ ita al xs i₁ g₁ hita hal hIt hls hr => ?_
  obtain ⟨y, hy, hvy⟩ := vreps_get hr hv
  refine item_tree hIt hls hy fun h' hit' hs' => ⟨y, rfl, ?_⟩
  obtain ⟨o', ho', hc', hd'⟩ := hit'
  have kp : ∀ b o, b ≠ ita → s₁.heap.get? b = some o → h'.get? b = some o := fun b o hb e => hs'.extBut b o hb e
  have g : ∀ {own : Addr → Prop}, Grow own ρ₁ s₁ ρ₁ { s₁ with heap := h' } := Grow.put (List.mem_of_getElem? hita) kp ⟨_, ho'⟩ rfl rfl
  have i₂ := Inv.step (s' := { s₁ with heap := h' }) i₁ g (i₁.rep.put (ao' := .iter l (k + 1)) hita h2 rfl kp ho' ⟨al, hal, hc', hd', fun q => by lia⟩)
  exact wpN_any (wpAny_mono (wpAny_bindName (wp_store i₂ hvy (loc_of hx))) (fun _ t d => ⟨.brk, _, _, ρ₁, h, d.1, g.trans d.2, rfl⟩) fun _ _ z => z)
theorem hx_tryStop {f : Expr} {x d st its : Str} {xp cp0 apos bp ecp p1 p2 ap cp sp dp p3 ap' cp' ep hp pos : Pos} {i j l k si di ii : Nat} {vs S I : List AV} {v : Int} {w : AV} {es : List (Int × AV)} (hpl : plainCallee f = true) (hl : ap.endLine = cp.line ∧ ap'.endLine = cp'.line ∧ sc.names.lookup ("StopIteration" : Str) = some .globalImplicit ∧ P.glob "StopIteration" = some (.ext (.type "StopIteration")))
    (hf : Pv (ev P n sc f) bs σ (.ref i)) (h1 : σ[i]? = some (.nextOf j)) (h2 : σ[j]? = some (.iter l k)) (h3 : σ[l]? = some (.list vs)) (hv : vs[k]? = none)
    (nd : LocAt sc bs d (.ref di)) (ns : LocAt sc bs st (.ref si)) (ni : LocAt sc bs its (.ref ii))
    (e1 : (σ.set j .junk)[si]? = some (.list (S ++ [.int v]))) (e2 : ((σ.set j .junk).set si (.list S))[di]? = some (.dict es)) (ha : es.any (·.1 == v) = true)
    (e3 : (((σ.set j .junk).set si (.list S)).set di (.dict (ddel es v)))[ii]? = some (.list (I ++ [w])))
    (h : Q .next bs ((((σ.set j .junk).set si (.list S)).set di (.dict (ddel es v))).set ii (.list I))) :
    Hx (exec P n sc (.Try [.Assign [.Name x xp] (.Call f [] [] cp0) apos, .Break bp]
        [.ExceptHandler (some (.Name "StopIteration" ecp)) Option.none [.Delete [.Subscript (.Name d p1) (.Call (.Attribute (.Name st p2) "pop" ap) [] [] cp) sp] dp, .Expr (.Call (.Attribute (.Name its p3) "pop" ap') [] [] cp') ep] hp] [] [] pos)) bs σ Q := fun K ρ s iv tp => by
  refine try_call (K := K) (V := FRep) hpl hf h1 h2 h3 iv fun ρ₁ s₁ ita al xs i₁ g₁ hita hal hIt hls hr => ?_
  refine stop_tree (by exact iv.ok.handled) hIt hls (vreps_end hr (List.getElem?_eq_none_iff.mp hv)) fun h' e kp hI hn ho => ?_
  obtain ⟨ob', t', hob', hc', hd', h1', a0, h0'⟩ := ho
  refine lands i₁ tp hita h2 kp hI hn hob' hc' hd' h1' h0' (fun A' E Q s₁ ρ₁ b₁ t₁ i₁ hq => ?_) fun A' E s₂ i₅ g₅ => suite_ok hl.1 hl.2.1 i₅ nd ns ni e1 e2 ha e3 fun s₃ i₆ g₆ => ⟨.next, _, _, ρ₁, h, i₆, g₅.trans g₆, rfl⟩
  obtain ⟨mg, mb, hmg, hmb, hall⟩ := K.F.glob
  obtain ⟨u, hu, hv⟩ := hall _ _ (K.hP ▸ hl.2.2.2)
  have hu' : u = .type "StopIteration" := hv []
  subst hu'
  have hkind : K.env.kindOf "StopIteration" = some .globalImplicit := (iv.fr.names _ _ hl.2.2.1).elim id fun h => by cases h.1
  have kg : s₁.heap.Ns K.env.globals mg := by rw [iv.fr.glob]; exact hmg.keeps i₁.rep.keep
  have kb : s₁.heap.Ns K.env.builtins mb := by rw [iv.fr.bi]; exact hmb.keeps i₁.rep.keep
  refine Name_function_global iv.fr.kind hkind ?_ (by decide)
  rcases hu with hu | ⟨hu, hu'⟩
  · exact loadGlobal_global kg hu hq
  · exact loadGlobal_builtin kg hu kb hu' hq
theorem hs_try0 {body : List Stmt} {hs : List ExceptHandler} {p : Pos} (h : Hx (execs P n sc body) bs σ Q) : Hx (exec P n sc (.Try body hs [] [] p)) bs σ Q := fun K ρ s i tp => by
  show wpN _ _ (PySem.exec _ _) _ _
  rw [arm_exec_Try]
  refine wpN_stand ?_
  unfold tryStmt
  simp only [List.isEmpty_nil, if_true, Bool.false_and, Bool.false_eq_true, if_false]
  refine wpN_bind (wpN_attempt (wpN_mono (h K ρ s i tp) fun f s₁ h₁ => ?_))
  cases f <;> exact wpN_pure h₁
end H
end Mine
end

section
namespace Mine.H
open PySem PySem.W PyProof.Rows PySem.Calls
section
variable {α β γ ι : Type} {bs B : Bs} {σ : Store} {P : Prog} {n : Nat} {sc csc : Scope}
theorem Sub.refl {bs : Bs} : Sub bs bs := fun _ _ e => e
theorem Sub.nil {bs : Bs} : Sub [] bs := fun _ _ e => by cases e
theorem Sub.cons {x : Str} {v : AV} {r bs : Bs} (h : bs.lookup x = some v) (hr : Sub r bs) : Sub ((x, v) :: r) bs := by
  intro y u e
  rw [List.lookup_cons] at e
  split at e
  · rename_i hy; simp only [beq_iff_eq] at hy; subst hy; cases e; exact h
  · exact hr y u e
theorem lt_of {i : Nat} {o : AO} (e : σ[i]? = some o) : i < σ.length := by
  rcases Nat.lt_or_ge i σ.length with h | h
  · exact h
  · rw [List.getElem?_eq_none h] at e; cases e
theorem Sub.trans {a b c : Bs} (x : Sub a b) (y : Sub b c) : Sub a c := fun _ _ e => y _ _ (x _ _ e)
theorem hx_forFold {i : Nat} {o : AO} {target : Expr} {b : List Stmt} {mk : ι → Item} {xs : List ι} {Q : Fl → Bs → Store → Prop} (B : β → Bs) (S : β → Store → Prop) (step : β → ι → β) (s₀ : β) (hw : ∀ s σ, S s σ → σ[i]? = some o)
    (hs : ∀ s x σ, x ∈ xs → S s σ → HxB P n sc target (mk x) b (B s) σ fun fl bs' σ' => (fl = .next ∨ fl = .cont) ∧ Sub (B (step s x)) bs' ∧ S (step s x) σ') (h0 : S s₀ σ) (hb : Sub (B s₀) bs)
    (he : ∀ σ' bs', S (xs.foldl step s₀) σ' → Sub (B (xs.foldl step s₀)) bs' → Q .next bs' σ') : Hx (forItems P n sc i o target b (xs.map mk)) bs σ Q := by
  refine hx_forItems (γ := β) (B := B) (I := fun s r σ => S s σ ∧ ∃ r', r = r'.map mk ∧ r' <:+ xs ∧ r'.foldl step s = xs.foldl step s₀) (fun s r σ h => hw s σ h.1) (fun s x r σ h => ?_) (fun s σ' bs' h hb => ?_) (xs.map mk) s₀ σ bs ⟨h0, xs, rfl, List.suffix_rfl, rfl⟩ hb
  · obtain ⟨h1, r', h0, h2, h3⟩ := h
    cases r' with
    | nil => cases h0
    | cons y r' =>
      cases h0
      refine (hs s y σ (h2.subset (.head _)) h1).mono fun fl bs' σ' h => ?_
      obtain ⟨h4, h5, h6⟩ := h
      have h7 : ∃ g', Sub (B g') bs' ∧ S g' σ' ∧ ∃ r'', r'.map mk = r''.map mk ∧ r'' <:+ xs ∧ r''.foldl step g' = xs.foldl step s₀ := ⟨_, h5, h6, r', rfl, (List.suffix_cons ..).trans h2, h3⟩
      rcases h4 with rfl | rfl
      · exact h7
      · exact h7
  · obtain ⟨h1, r', h0, _, h3⟩ := h
    cases r' with
    | cons y r' => cases h0
    | nil =>
      have h3 : s = xs.foldl step s₀ := h3
      subst h3
      exact he _ _ h1 hb
def Ext (σ σ' : Store) : Prop := ∀ (i : Nat) (o : AO), σ[i]? = some o → σ'[i]? = some o
theorem Ext.refl {σ : Store} : Ext σ σ := fun _ _ h => h
theorem Ext.trans {a b c : Store} (x : Ext a b) (y : Ext b c) : Ext a c := fun i o h => y i o (x i o h)
theorem Ext.len {a b : Store} (x : Ext a b) : a.length ≤ b.length := by
  rcases Nat.eq_zero_or_pos a.length with h | h
  · lia
  · have e : a[a.length - 1]? = some a[a.length - 1] := List.getElem?_eq_getElem (by lia)
    have := lt_of (x _ _ e)
    lia
theorem st_old {i : Nat} {o : AO} {t : Store} (h : σ[i]? = some o) : (σ ++ t)[i]? = some o := by rw [List.getElem?_append_left (lt_of h)]; exact h
theorem st_new {o : AO} : (σ ++ [o])[σ.length]? = some o := by simp
theorem Ext.get {σ₀ : Store} {i : Nat} {o : AO} (x : Ext σ₀ σ) (h : σ₀[i]? = some o) : σ[i]? = some o := x i o h
theorem Ext.app {σ₀ t : Store} (x : Ext σ₀ σ) : Ext σ₀ (σ ++ t) := fun i o h => st_old (x i o h)
theorem Ext.set {σ₀ : Store} {i : Nat} {o : AO} (x : Ext σ₀ σ) (h : σ₀.length ≤ i) : Ext σ₀ (σ.set i o) := fun j u e => by
  have := lt_of e
  rw [List.getElem?_set_ne (by lia)]; exact x j u e
theorem st_set {i : Nat} {o o' : AO} (h : σ[i]? = some o') : (σ.set i o)[i]? = some o := by rw [List.getElem?_set_self (lt_of h)]
theorem st_set_ne {i j : Nat} {o o' : AO} (hn : i ≠ j) (h : σ[j]? = some o) : (σ.set i o')[j]? = some o := by rw [List.getElem?_set_ne hn]; exact h
theorem seq_next {R : Bs → Store → Prop} {Q : Fl → Bs → Store → Prop} (h : R bs σ) : Seq R Q .next bs σ := h
theorem seq_brk {R : Bs → Store → Prop} {Q : Fl → Bs → Store → Prop} (h : Q .brk bs σ) : Seq R Q .brk bs σ := h
theorem seq_cont {R : Bs → Store → Prop} {Q : Fl → Bs → Store → Prop} (h : Q .cont bs σ) : Seq R Q .cont bs σ := h
theorem seq_ret {R : Bs → Store → Prop} {Q : Fl → Bs → Store → Prop} {v : AV} (h : Q (.ret v) bs σ) : Seq R Q (.ret v) bs σ := h
theorem ex_bool {b : Bool} {R : Bool → Prop} (h : R b) : ∃ c, AV.bool b = .bool c ∧ R c := ⟨b, rfl, h⟩
theorem imp_of {p A : Prop} (_ : p) (h : A) : p → A := fun _ => h
theorem br_true {A B : Prop} (h : A) : (true = true → A) ∧ (true = false → B) := ⟨fun _ => h, fun q => by cases q⟩
theorem br_false {A B : Prop} (h : B) : (false = true → A) ∧ (false = false → B) := ⟨fun q => (by cases q), fun _ => h⟩
theorem pv_call1 {f e : Expr} {p : Pos} {id : String} {a v : AV} (hf : plainCallee f = true) (hs : isStar e = false) (h1 : Pv (ev P n sc f) bs σ (.ext (.builtin id))) (h2 : Pv (ev P n sc e) bs σ a) (h : Pv (builtinV id [a] : Mm P n sc AV) bs σ v) : Pv (ev P n sc (.Call f [e] [] p)) bs σ v :=
  hx_call hf (hx_pv h1 (hx_args1 hs (hx_pv h2 (hx_args0 (hx_callB h)))))
theorem pv_inA {m : Addr} {i : Nat} {k : Int} {vs : List AV} {ns : List Int} (e : σ[i]? = some (.list vs)) (hn : asInts vs = some ns) : Pv (cmpV m .In (.int k) (.ref i) : Mm P n sc AV) bs σ (.bool (ns.contains k)) := by
  obtain rfl := asInts_eq hn; exact pv_inL e
theorem pv_notinA {m : Addr} {i : Nat} {k : Int} {vs : List AV} {ns : List Int} (e : σ[i]? = some (.list vs)) (hn : asInts vs = some ns) : Pv (cmpV m .NotIn (.int k) (.ref i) : Mm P n sc AV) bs σ (.bool (!(ns.contains k))) := by
  obtain rfl := asInts_eq hn; exact pv_notinL e
theorem hs_augA {o e : Expr} {x : Str} {q p : Pos} {a b : Int} {i : AV} {Q : Fl → Bs → Store → Prop} (h1 : Pv (ev P n sc o) bs σ i) (h2 : Pv (getAttrV P i x : Mm P n sc AV) bs σ (.int a)) (h3 : Pv (ev P n sc e) bs σ (.int b))
    (h : Hx (setAttrV P i x (.int (a + b)) : Mm P n sc Unit) bs σ fun _ bs' σ' => Q .next bs' σ') : Hx (exec P n sc (.AugAssign (.Attribute o x q) .Add e p)) bs σ Q := hs_aug (.inl rfl) h1 h2 h3 h
theorem hs_augS {o e : Expr} {x : Str} {q p : Pos} {a b : Int} {i : AV} {Q : Fl → Bs → Store → Prop} (h1 : Pv (ev P n sc o) bs σ i) (h2 : Pv (getAttrV P i x : Mm P n sc AV) bs σ (.int a)) (h3 : Pv (ev P n sc e) bs σ (.int b))
    (h : Hx (setAttrV P i x (.int (a - b)) : Mm P n sc Unit) bs σ fun _ bs' σ' => Q .next bs' σ') : Hx (exec P n sc (.AugAssign (.Attribute o x q) .Sub e p)) bs σ Q := hs_aug (.inr rfl) h1 h2 h3 h
theorem fn_and {f : Addr} {A : Prop} (h : A) : (∃ g, MK.fn f = .fn g) ∧ A := ⟨⟨f, rfl⟩, h⟩
theorem pv_tests0 : Pv (evTests P n sc []) bs σ true := hx_tests0 ⟨rfl, rfl, rfl⟩
theorem pv_tests1 {e : Expr} {c : Bool} (h : Pv (evT P n sc e) bs σ c) : Pv (evTests P n sc [e]) bs σ c :=
  hx_tests1 (hx_pv h ⟨fun e => by subst e; exact pv_tests0, fun e => ⟨e.symm, rfl, rfl⟩⟩)
section
variable {i : Nat} {o : AO} {target elt : Expr} {ifs : List Expr} {Q : List AV → Bs → Store → Prop}
theorem Sub.bind {x : Str} {v : AV} (hn : B.lookup x = none) : Sub B ((x, v) :: B) := fun y u e => by
  rw [List.lookup_cons]
  have : (y == x) = false := by
    have : y ≠ x := fun q => by rw [q, hn] at e; cases e
    simpa using this
  rw [this]; exact e
theorem hx_compL {mk : ι → Item} {xs : List ι} (I : List AV → List ι → Store → Prop) (hw : ∀ a r σ, I a r σ → σ[i]? = some o)
    (hs : ∀ a x r σ, x ∈ xs → I a (x :: r) σ → HxC P n csc target (mk x) ifs elt B σ fun vs bs' σ' => Sub B bs' ∧ I (a ++ vs) r σ') (hI : I [] xs σ) (he : ∀ vs σ' bs', I vs [] σ' → Q vs bs' σ') : Hx (compItems P n csc [] i o target ifs elt (xs.map mk)) B σ Q := by
  refine hx_compItems (B := B) (I := fun a r σ' => ∃ r', r = r'.map mk ∧ r' <:+ xs ∧ I a r' σ') (fun a r σ' h => let ⟨r', _, _, h⟩ := h; hw a r' σ' h) (fun a x r σ' h => ?_) (xs.map mk) σ B ⟨xs, rfl, List.suffix_rfl, hI⟩ Sub.refl fun vs σ' bs' h _ => ?_
  · obtain ⟨r', h1, h2, h3⟩ := h
    cases r' with
    | nil => cases h1
    | cons y r' =>
      cases h1
      exact (hs a y r' σ' (h2.subset (.head _)) h3).mono fun vs bs' σ'' h => ⟨h.1, r', rfl, (List.suffix_cons ..).trans h2, h.2⟩
  · obtain ⟨r', h1, h2, h3⟩ := h
    cases r' with
    | cons y r' => cases h1
    | nil => exact he vs σ' bs' h3
theorem hx_compN {x : Str} {q : Pos} {xs : List ι} (w : ι → AV) (c : ι → Bool) (f : ι → AV) (hx : isLoc csc x = true) (hn : B.lookup x = none) (hw : σ[i]? = some o)
    (ht : ∀ k ∈ xs, Pv (evTests P n csc ifs) ((x, w k) :: B) σ (c k)) (hf : ∀ k ∈ xs, c k = true → Pv (ev P n csc elt) ((x, w k) :: B) σ (f k)) (hq : ∀ bs', Q ((xs.filter c).map f) bs' σ) :
    Hx (compItems P n csc [] i o (.Name x q) ifs elt (xs.map fun k => .one (w k))) B σ Q := by
  refine hx_compL (fun a r σ' => σ' = σ ∧ a ++ (r.filter c).map f = (xs.filter c).map f) (fun a r σ' h => by rw [h.1]; exact hw) (fun a k r σ' hk h => ?_) ⟨rfl, rfl⟩ fun vs σ' bs' h => ?_
  · obtain ⟨rfl, h⟩ := h
    refine hx_cbindN hx (hx_cbody (hx_pv (ht k hk) ⟨fun e => hx_inner0 (hx_pv (hf k hk e) ⟨Sub.bind hn, rfl, ?_⟩), fun e => ⟨Sub.bind hn, rfl, ?_⟩⟩))
    · rw [List.filter_cons, if_pos e, List.map_cons] at h
      rw [List.append_assoc]; exact h
    · rw [List.filter_cons, if_neg (by rw [e]; exact Bool.false_ne_true)] at h
      rw [List.append_nil]; exact h
  · obtain ⟨rfl, h⟩ := h
    have h : vs = (xs.filter c).map f := by simpa using h
    rw [h]; exact hq bs'
theorem hx_compE {G : ι → List AV} {mk : ι → Item} {xs : List ι} (hw : σ[i]? = some o)
    (hs : ∀ x ∈ xs, ∀ σ', Ext σ σ' → HxC P n csc target (mk x) ifs elt B σ' fun vs bs' σ'' => Sub B bs' ∧ Ext σ σ'' ∧ vs = G x) (he : ∀ bs' σ', Ext σ σ' → Q (xs.flatMap G) bs' σ') : Hx (compItems P n csc [] i o target ifs elt (xs.map mk)) B σ Q := by
  refine hx_compL (fun a r σ' => Ext σ σ' ∧ a ++ r.flatMap G = xs.flatMap G) (fun a r σ' h => h.1.get hw) (fun a k r σ' hk h => ?_) ⟨Ext.refl, rfl⟩ fun vs σ' bs' h => ?_
  · refine (hs k hk σ' h.1).mono fun vs bs' σ'' q => ⟨q.1, q.2.1, ?_⟩
    rw [q.2.2, List.append_assoc]; exact h.2
  · obtain ⟨h0, h⟩ := h
    have h : vs = xs.flatMap G := by simpa using h
    rw [h]; exact he bs' σ' h0
def Rows {ι : Type} (R : ι → AV → Prop) : List ι → List AV → Prop
  | [], [] => True
  | x :: xs, v :: vs => R x v ∧ Rows R xs vs
  | _, _ => False
end
theorem hx_forG {i : Nat} {o : AO} {target : Expr} {b : List Stmt} {mk : ι → Item} {xs : List ι} {Q : Fl → Bs → Store → Prop} (B : γ → Bs) (S : γ → List ι → Store → Prop) (c₀ : γ) (hw : ∀ c pre σ, S c pre σ → σ[i]? = some o)
    (hs : ∀ c pre x post σ, xs = pre ++ x :: post → S c pre σ → HxB P n sc target (mk x) b (B c) σ fun fl bs' σ' => (fl = .next ∨ fl = .cont) ∧ ∃ c', Sub (B c') bs' ∧ S c' (pre ++ [x]) σ') (h0 : S c₀ [] σ) (hb : Sub (B c₀) bs)
    (he : ∀ c σ' bs', S c xs σ' → Sub (B c) bs' → Q .next bs' σ') : Hx (forItems P n sc i o target b (xs.map mk)) bs σ Q := by
  refine hx_forItems (γ := γ × List ι) (B := fun q => B q.1) (I := fun q r σ => S q.1 q.2 σ ∧ ∃ post, r = post.map mk ∧ xs = q.2 ++ post) (fun s r σ h => hw s.1 s.2 σ h.1) (fun q x r σ h => ?_) (fun s σ' bs' h hb => ?_) (xs.map mk) (c₀, []) σ bs ⟨h0, xs, rfl, rfl⟩ hb
  · obtain ⟨h1, post, h2, h3⟩ := h
    cases post with
    | nil => cases h2
    | cons y post =>
      cases h2
      refine (hs q.1 q.2 y post σ h3 h1).mono fun fl bs' σ' h => ?_
      obtain ⟨h4, c', h5, h6⟩ := h
      have h7 : ∃ g' : γ × List ι, Sub (B g'.1) bs' ∧ S g'.1 g'.2 σ' ∧ ∃ p, post.map mk = p.map mk ∧ xs = g'.2 ++ p := ⟨(c', q.2 ++ [y]), h5, h6, post, rfl, by rw [h3, List.append_assoc]; rfl⟩
      rcases h4 with rfl | rfl
      · exact h7
      · exact h7
  · obtain ⟨h1, post, h2, h3⟩ := h
    cases post with
    | cons y r' => cases h2
    | nil =>
      rw [List.append_nil] at h3
      rw [← h3] at h1
      exact he _ _ _ h1 hb
theorem rangeInts_nat (n : Nat) : rangeInts 0 n 1 = (List.range n).map fun (k : Nat) => (k : Int) := by
  unfold rangeInts
  rw [if_pos (by decide)]
  have : (((n : Int) - 0 + 1 - 1) / 1).toNat = n := by rw [Int.ediv_one]; lia
  rw [this]
  refine List.map_congr_left fun k _ => ?_
  lia
theorem range_items (n : Nat) : (rangeInts 0 n 1).map (fun k => Item.one (.int k)) = (List.range n).map fun (i : Nat) => Item.one (.int i) := by rw [rangeInts_nat, List.map_map]; rfl
theorem flatMap_if {α β : Type} {c : α → Bool} {f : α → β} : ∀ (l : List α), l.flatMap (fun x => if c x = true then [f x] else []) = (l.filter c).map f
  | [] => rfl
  | x :: l => by
    rw [List.flatMap_cons, flatMap_if l, List.filter_cons]
    cases c x <;> simp
theorem insertI_perm (x : Int) : ∀ l, (insertI x l).Perm (x :: l)
  | [] => .refl _
  | y :: r => by
    unfold insertI
    split
    · exact .refl _
    · exact ((insertI_perm x r).cons y).trans (.swap _ _ _)
theorem sortI_perm : ∀ l, (sortI l).Perm l
  | [] => .refl _
  | x :: l => (insertI_perm x _).trans ((sortI_perm l).cons x)
theorem insertI_sorted (x : Int) : ∀ l, l.Pairwise (· ≤ ·) → (insertI x l).Pairwise (· ≤ ·)
  | [], _ => by simp [insertI]
  | y :: r, h => by
    obtain ⟨h1, h2⟩ := List.pairwise_cons.mp h
    unfold insertI
    split
    · rename_i hx
      refine List.pairwise_cons.mpr ⟨fun z hz => ?_, h⟩
      rcases List.mem_cons.mp hz with rfl | hz
      · exact hx
      · have := h1 z hz; lia
    · rename_i hx
      refine List.pairwise_cons.mpr ⟨fun z hz => ?_, insertI_sorted x r h2⟩
      rcases List.mem_cons.mp ((insertI_perm x r).mem_iff.mp hz) with rfl | hz
      · lia
      · exact h1 z hz
theorem sortI_sorted : ∀ l, (sortI l).Pairwise (· ≤ ·)
  | [] => .nil
  | x :: l => insertI_sorted x _ (sortI_sorted l)
theorem sortI_eq {l l' : List Int} (h : l.Perm l') (hs : l'.Pairwise (· ≤ ·)) : sortI l = l' :=
  List.Perm.eq_of_pairwise (le := (· ≤ ·)) (fun a b _ _ h1 h2 => by lia) (sortI_sorted l) hs ((sortI_perm l).trans h)
theorem pv_itemC {i : Nat} {j : Int} {vs : List AV} {v : AV} (h : σ[i]? = some (.list vs)) (hj : 0 ≤ j ∧ j < 1000) (e : vs[j.toNat]? = some v) : Pv (getItemV (.ref i) (.int j) : Mm P n sc AV) bs σ v := by
  have hl : j.toNat < vs.length := by
    rcases Nat.lt_or_ge j.toNat vs.length with c | c
    · exact c
    · rw [List.getElem?_eq_none c] at e; cases e
  refine pv_itemL h (by lia) ?_
  unfold place
  rw [if_pos hj.1, if_pos (by lia)]
  exact e
noncomputable def natsV (l : List Nat) : List AV := l.map fun (i : Nat) => AV.int i
theorem natsV_len {l : List Nat} : (natsV l).length = l.length := List.length_map _
end
end Mine.H
end

section
namespace Mine
open PySem PySem.W PySem.Calls PyProof.Rows

theorem clean_ends {prog : Program} {w : World} {t : Sem Fin} {s : Shared} {R : Result → Shared → Prop} (hreg : s.asleep)
    (h : wpN (model prog w) callerA t (fun fin s' => ∃ f, fin = .done f ∧ (R (.ok f) s' ∧ leftWithCleanup s'.gens = false)) s) :
    ∃ n r s' s'', runN (denote table) prog w n s ⟨t, .builtin "claim.caller" {}, default, []⟩ = .halted (outcomeOf r) s' ∧
      schedN (denote table) prog w n (.single s ⟨t, .builtin "claim.caller" {}, default, []⟩) = .halted (outcomeOf r) s' ∧ s'.forget = s''.forget ∧ R r s'' := by
  have h0 := h.go ⟨.builtin "claim.caller" {}, none, none, [], none⟩ default caller_in (by decide +kernel) CleanL.nil
  obtain ⟨n, r, s₁, s₂, hs, hn, hfo, hR⟩ := wp_halts_full (M := model prog w) (R := R) hreg
    (Sem.wp_mono _ _ t (fun fin p' s' h' => by obtain ⟨f, rfl, hf⟩ := h'; exact hf) (fun _ _ _ h' => h'.elim) default s h0)
  exact ⟨n, r, s₂, s₁, hn, hs, hfo, hR⟩

theorem clean_callFrom {c : ClaimW} {tree : List Value → Sem Fin} {w : World} {s : Shared} {free : Addr → Prop} {gens : Prop} {kept : Heap → Prop} (hz : s.asleep) (hgens : s.gens = #[])
    (hspec : ∀ args, c.pre args = true → WData.layableAll args = true → ∀ ord : List DictEntry → List DictEntry, (∀ l, (ord l).Perm l) →
      ∃ vs s₁, layAllW c.records (classAt s.heap) w.params ord args s = some (vs, s₁) ∧
        wpN (model c.prog w) callerA (tree vs) (fun fin s' => ∃ f, fin = .done f ∧ (c.Ends s args vs s₁ (.ok f) s' ∧ s'.os = s.os ∧ AllBare s'.gens ∧ kept s'.heap)) s₁) :
    c.CallFrom (fun vs => ⟨tree vs, .builtin "claim.caller" {}, default, []⟩) w free gens kept s := by
  intro args hpre hlay ord hord
  obtain ⟨vs, s₁, hlaid, hcode⟩ := hspec args hpre hlay ord hord
  have hal := layAllW_rest _ _ _ hlaid
  obtain ⟨k, r, s', s'', hrun, hsched, hfo, hcase, hos, hkp⟩ := clean_ends (prog := c.prog) (w := w) (t := tree vs) (s := s₁)
    (R := fun r s' => c.Ends s args vs s₁ r s' ∧ s'.os = s.os ∧ kept s'.heap) (Shared.asleep_of_life hal.2.2.2 hz)
    (wpN_mono hcode fun fin s' q => by
      obtain ⟨f, e, h1, h2, h3, h4⟩ := q
      exact ⟨f, e, ⟨h1, h2, h4⟩, leftWithCleanup_false_of_bare h3⟩)
  obtain ⟨eh, _, _, eo, _⟩ := Shared.forget_eq hfo
  have hcase := hcase.congr eh
  have hkp : kept s'.heap := eh ▸ hkp
  rw [← eo] at hos
  have hlife : s'.heap.life = s.heap.life := (runN_life _ _ _ hrun).trans hal.2.2.2
  refine ⟨vs, s₁, hlaid, k, _, s', hsched, ?_, (fun _ i x hx => by rw [hgens] at hx; simp at hx), hkp, by rw [hlife], Shared.rest_eq hos⟩
  rcases hcase with ⟨v, rfl, d1, d2, d3, d4, d5⟩ | ⟨e, ob, cls, rfl, d1, d2, d3, d4, d5⟩
  · exact .inl ⟨v, rfl, d1, d2, d3, fun b o y _ => d4 b o y, d5⟩
  · exact .inr ⟨e, ob, cls, rfl, d1, d2, d3, d4, fun b o y _ => d5 b o y⟩

abbrev WalkM (q : Program) (loose : List Str) (XP : (Str → Option Value) → Heap → Prop) (YP : World → Heap → Prop) (r : RowW) (d : DefRec) (kwd : List (Str × Expr)) : Prop :=
  ∀ (w : World) (s₀ s₁ : Shared) (mg mb : Str → Option Value), Ground q loose r.records XP w s₀ mg mb s₁.heap → YP w s₁.heap → ∀ (a : Addr) (o : Obj) (pm cd doc dV kV : Value), s₁.heap.get? a = some o →
    o.data = .func { docDef d.name d.params d.body d.scope pm cd doc with defaults := dV, kwdefaults := kV } → s₁.heap.CodeRec cd d.name → Dflts mg s₁.heap d.params kwd dV kV → mg d.name = some (.ref a) → s₁.gens = #[] →
    ∀ (args : List WData) (vals : List Value) (as : List Addr), r.claim.pre args = true → WData.layableAll args = true → ReadsAllW r.records (classAt s₀.heap) s₁.heap vals args as → WellAll w.params s₁.heap vals args → (∀ a ∈ as, (a == sysModules) = false) →
      wpN (model r.prog w) callerA (PySem.call (.ref a) vals) (fun v s' => GoodWG r.claim (classAt s₀.heap) (ExcName.means s₀.heap) args s₁ (.ok (.ret v)) s') s₁

theorem clean_open {r : RowW} {tree : List Value → Sem Fin} {q : Program} {loose defs kps : List Str} {writes : Bool} {Xt : Shared → Bool} {XP : (Str → Option Value) → Heap → Prop} {α : Type} {Yf : Shared → α} {Ya : World → α} {YP : World → Heap → Prop} {N : Nat}
    (left : LeftO r.prog q loose Xt Yf Ya N) (hY : ∀ w s, Yf s = Ya w → YP w s.heap) (hYk : ∀ w h h', YP w h → (∀ b o, h.get? b = some o → h'.get? b = some o) → YP w h')
    (hX : ∀ s, Xt s = true → XP (s.heap.nsMap mainGlobals) s.heap) (hXk : ∀ mg h h', XP mg h → (∀ b o, h.get? b = some o → h'.get? b = some o) → XP mg h')
    (hRf : ∀ s, Xt s = true → RecFacts r.records s.heap) (hwr : (!writes || r.records.isEmpty) = true) (ok : (chainsOk q && opensWell r.prog && (frees r && r.within.isEmpty)) = true) (hb : r.prog.bare) (hw : r.promised)
    (ht : ∀ vs (w : World) (s : Shared) mg f (Q : Fin → Shared → Prop), s.heap.Ns mainGlobals mg → mg r.name = some f → wpN (model r.prog w) callerA (PySem.call f vs) (fun v s' => Q (.done (.ret v)) s') s → wpN (model r.prog w) callerA (tree vs) Q s)
    (pin : ∀ w s, s.heap.isNs mainGlobals = true → Ground q loose [] XP w s (s.heap.nsMap mainGlobals) (s.heap.nsMap builtinsNs) s.heap → ∀ n ∈ defs, isTheDefsW r.prog s.heap n)
    (call : ∀ (w : World) (s₀ s₁ : Shared) (mg mb : Str → Option Value), Ground q loose r.records XP w s₀ mg mb s₁.heap → YP w s₁.heap → ∀ (args : List WData) (vs : List Value) (as : List Addr),
      r.claim.pre args = true → WData.layableAll args = true → Laid r.records w s₀ s₁ args vs as → sysModules < s₀.heap.objs.size → ∃ f, mg r.name = some f ∧
        wpN (model r.prog w) callerA (PySem.call f vs) (fun v s' => GoodWG r.claim (classAt s₀.heap) (ExcName.means s₀.heap) args s₁ (.ok (.ret v)) s') s₁) :
    r.claim.HoldsOpenBy (fun vs => ⟨tree vs, .builtin "claim.caller" {}, default, []⟩) defs kps writes := by
  obtain ⟨ok, k5⟩ := Bool.and_eq_true_iff.mp ok
  obtain ⟨hch, o1⟩ := Bool.and_eq_true_iff.mp ok
  obtain ⟨k5, k6⟩ := Bool.and_eq_true_iff.mp k5
  obtain ⟨hsame, hu, ha, hap, hm⟩ := frees_parts k5
  refine ⟨⟨hb, o1, by show r.makers.map _ = []; rw [hm]; rfl⟩, hw.witness, fun w => ⟨(left.behind hX hch w).1, fun s' hs' => ?_⟩⟩
  obtain ⟨s₀, hf, hg0, s, hT, hz, hgens, hg, G00, y⟩ := (left.behind (XP := fun mg h => XP mg h ∧ RecFacts r.records h) (fun s hs => ⟨hX s hs, hRf s hs⟩) hch w).2 s' hs'
  have G0 : Ground q loose [] XP w s (s.heap.nsMap mainGlobals) (s.heap.nsMap builtinsNs) s.heap := ⟨G00.T, G00.B, G00.D, G00.TE, G00.TD, G00.W, G00.X.1, G00.cls, G00.has, G00.apart, G00.once, G00.K⟩
  have RF := G00.X.2
  have hT' := hT
  refine ⟨s₀, hf, hg0, s, hT, pin w s hg G0, RF.1, RF.2.1, ?_⟩
  have hgens : s.gens = #[] := Array.eq_empty_of_size_eq_zero (beq_iff_eq.mp hgens)
  have G : Ground q loose r.records XP w s _ _ s.heap := RF.ground G0
  refine clean_callFrom (c := r.claim) hz hgens fun args hpre hlay ord hord => ?_
  obtain ⟨⟨vs, s₁⟩, hlaid⟩ := Option.isSome_iff_exists.mp (layAllW_isSome (P := w.params) (ord := ord) G.has args r.args s (pre_splitW hpre).1)
  have keeps := layAllW_keeps _ _ _ hlaid
  have hal := layAllW_rest _ _ _ hlaid
  obtain ⟨as, hrd, hin, hold⟩ := reads_layAllW hord _ _ _ hlaid hlay s₁.heap (fun _ _ e => e)
  have L : Laid r.records w s s₁ args vs as := ⟨⟨ord, hord, hlaid⟩, hrd, hin, hold, keeps, hal.1.trans hgens, hal.2.2.1⟩
  have G₁ := G.keeps hXk keeps
  obtain ⟨f, hf, h⟩ := call w s s₁ _ _ G₁ (hYk _ _ _ (hY w s y) keeps) args vs as hpre hlay L G.low
  have hi := ident_freeW hu ha hap
  have hwi : r.claim.within = [] := List.isEmpty_iff.mp k6
  exact ⟨vs, s₁, hlaid, ht vs w s₁ _ f _ G₁.T.g hf (wpN_mono h (fun v s' g => ⟨_, rfl, have z := g.laid (c := r.claim) hsame hwi hi L; ⟨z.1, z.2.1, z.2.2, fun q => ⟨namesKept_of hT' hg kps keeps g.2.1.old, noTable hwr q⟩⟩⟩))⟩

theorem clean_holds {r : OpenRow} {q : Program} {loose : List Str} {Xt : Shared → Bool} {XP : (Str → Option Value) → Heap → Prop} {α : Type} {Yf : Shared → α} {Ya : World → α} {YP : World → Heap → Prop} {d : DefRec} {kwd : List (Str × Expr)} {N : Nat}
    (left : LeftO r.prog q loose Xt Yf Ya N) (hY : ∀ w s, Yf s = Ya w → YP w s.heap) (hYk : ∀ w h h', YP w h → (∀ b o, h.get? b = some o → h'.get? b = some o) → YP w h')
    (hX : ∀ s, Xt s = true → XP (s.heap.nsMap mainGlobals) s.heap) (hXk : ∀ mg h h', XP mg h → (∀ b o, h.get? b = some o → h'.get? b = some o) → XP mg h')
    (hdef : defOf q r.name = some (d, kwd)) (hp : r.prog.theDef r.name = some (d.params, d.body, d.scope)) (hk : kwWritten? d.params.kwonlyargs d.params.kw_defaults = some kwd) (hRf : ∀ s, Xt s = true → RecFacts r.records s.heap) (hwr : (!r.writes || r.records.isEmpty) = true)
    (k1 : r.wellSaid = true) (ok : (chainsOk q && opensWell r.prog && (frees r.toRowW && r.within.isEmpty)) = true) (hb : r.prog.bare) (hw : r.toRowW.promised)
    (call : WalkM q loose XP YP r.toRowW d kwd) : r.Holds := by
  refine ⟨k1, hw, clean_open (r := r.toRowW) (tree := fun vs => do match ← nsGet mainNs r.name with
      | some f => do ret (← PySem.call f vs)
      | none => unsupported "claim.caller:no-such-global") left hY hYk hX hXk hRf hwr ok hb hw
    (fun vs w s mg f Q hg hf h => wpN_bind (wpN_any (wpAny_nsGet hg (by rw [hf]; exact wpN_bind (wpN_mono h (fun _ _ x => wpN_pure x))))))
    (fun w s hg G n hn => ?_) fun w s₀ s₁ mg mb G Y args vs as hpre hlay L low => ?_⟩
  · obtain rfl : n = r.name := by split at hn <;> simp_all
    exact pinned_of_view hg G hdef hp hk
  · obtain ⟨a, o, pm, cd, doc, dV, kV, h1, h2, h3, h4, h5⟩ := G.fn hdef
    exact ⟨.ref a, h1, call w s₀ s₁ mg mb G Y a o pm cd doc dV kV h2 h3 h4 h5 (defOf_name hdef ▸ h1) L.gens args vs as hpre hlay L.reads L.well (L.low low)⟩
end Mine
end

section
namespace Mine
open _root_.PySem _root_.PySem.W
noncomputable def noPos : Pos := ⟨0, 0, 0, 0⟩
noncomputable def stmtAt (l : List Stmt) (i : Nat) : Stmt := (l[i]?).getD (.Pass noPos)
noncomputable def argsOf : Stmt → Arguments
  | .FunctionDef _ args _ _ _ _ _ _ _ _ => args
  | _ => ⟨[], [], none, [], [], none, []⟩
noncomputable def bodyOf : Stmt → List Stmt
  | .FunctionDef _ _ body _ _ _ _ _ _ _ => body
  | .ClassDef _ _ _ body _ _ _ _ _ _ _ => body
  | _ => []
noncomputable def scopeOf : Stmt → Scope
  | .FunctionDef _ _ _ _ _ _ scope _ _ _ => scope
  | _ => ⟨.function, [], false, false, []⟩
noncomputable def fnOf (s : Stmt) : Fn := ⟨(argsOf s).args.map (·.arg), (argsOf s).vararg.map (·.arg), bodyOf s, scopeOf s⟩
end Mine
end

section
open PySem PySem.W PyProof.Rows PySem.Calls
namespace Mine

noncomputable def fnObj (s : Stmt) (name qual mod : Str) (t : Tok) (dv cd : Value) : Obj := { cls := .type "function", data := .func ⟨name, qual, argsOf s, .stmts (bodyOf s), scopeOf s, 3, [], dv, .none, .none, .str mod t, none, cd, .none, 0⟩ }
noncomputable def scopeChk (s : Stmt) : Bool :=
  !(scopeOf s).isCoroutine && !(scopeOf s).isGenerator && (scopeOf s).kind == .function && (argsOf s).posonlyargs.isEmpty && (argsOf s).kwonlyargs.isEmpty && (argsOf s).kwarg.isNone &&
    ((scopeOf s).names.all fun p => p.2 != .free) && (((fnOf s).params ++ (fnOf s).vararg.toList).all fun x => (scopeOf s).names.lookup x == some .local || (scopeOf s).names.lookup x == some .cell) && decide (((fnOf s).params ++ (fnOf s).vararg.toList).Nodup)

theorem lookup_all {α β : Type} [BEq α] [LawfulBEq α] {p : α × β → Bool} {k : α} {v : β} : ∀ {l : List (α × β)}, l.all p = true → l.lookup k = some v → p (k, v) = true
  | [], _, h => by cases h
  | (a, b) :: l, ha, h => by
    rw [List.all_cons, Bool.and_eq_true] at ha
    rw [List.lookup_cons] at h
    split at h
    · rename_i q
      cases h
      rw [beq_iff_eq.mp q]; exact ha.1
    · exact lookup_all ha.2 h

section
variable {X : Cx}
theorem fnOk_of {a c : Addr} {s : Stmt} {name qual mod : Str} {t tk : Tok} {dv : Value} {co : Obj} {vs : Array Value} {D : List Value} (hK : X.K.In X.h₀) (ho : X.K.lookup a = some (fnObj s name qual mod t dv (.ref c))) (hc : X.K.lookup c = some co) (hcd : co.data = .fields vs) (hv : vs[1]? = some (.str qual tk))
    (chk : scopeChk s = true) (hd : DfltAt X.h₀ dv D) (hr : ∀ ρ, VReps ρ (X.P.dflt a) D) (hl : D.length ≤ (fnOf s).params.length) (hva : (fnOf s).vararg.isSome = true → D = []) : ∃ o fd D, FnOk X a (fnOf s) o fd D := by
  unfold scopeChk at chk
  simp only [Bool.and_eq_true, Bool.not_eq_true', beq_iff_eq, List.isEmpty_iff, Option.isNone_iff_eq_none, decide_eq_true_eq] at chk
  obtain ⟨⟨⟨⟨⟨⟨⟨⟨c1, c2⟩, c3⟩, c4⟩, c5⟩, c6⟩, c7⟩, c8⟩, c9⟩ := chk
  refine ⟨fnObj s name qual mod t dv (.ref c), ⟨name, qual, argsOf s, .stmts (bodyOf s), scopeOf s, 3, [], dv, .none, .none, .str mod t, none, .ref c, .none, 0⟩, D, ?_⟩
  exact {
    obj := hK _ _ ho, data := rfl, scope := rfl, co := c1, gen := c2, body := rfl, code := ⟨c, co, vs, tk, rfl, hK _ _ hc, hcd, hv⟩, glob := rfl, bi := rfl, clo := rfl
    shape := ⟨c4, rfl, c5, c6, rfl⟩
    dflt := hd, dreps := hr, dlen := hl, dva := hva
    names := ⟨c3, fun x hx => by
        have := List.all_eq_true.mp c8 x hx
        simp only [Bool.or_eq_true, beq_iff_eq] at this
        exact this, fun x h => by
        have := lookup_all c7 h
        simp at this, c9⟩ }

theorem allN {α : Type} {Q : Str → α → Prop} : ∀ q ∈ ([] : List (Str × α)), Q q.1 q.2 := fun _ h => nomatch h
theorem allC {α : Type} {Q : Str → α → Prop} {p : Str × α} {l : List (Str × α)} (h : Q p.1 p.2) (t : ∀ q ∈ l, Q q.1 q.2) : ∀ q ∈ p :: l, Q q.1 q.2 := fun q hq => by
  rcases List.mem_cons.mp hq with rfl | hq
  · exact h
  · exact t q hq
theorem look_all {α : Type} {Q : Str → α → Prop} {l : List (Str × α)} (h : ∀ p ∈ l, Q p.1 p.2) {x : Str} {v : α} (e : l.lookup x = some v) : Q x v := h _ (lookup_mem e)
theorem allNA {α : Type} {Q : Addr → α → Prop} : ∀ q ∈ ([] : List (Addr × α)), Q q.1 q.2 := fun _ h => nomatch h
theorem allCA {α : Type} {Q : Addr → α → Prop} {p : Addr × α} {l : List (Addr × α)} (h : Q p.1 p.2) (t : ∀ q ∈ l, Q q.1 q.2) : ∀ q ∈ p :: l, Q q.1 q.2 := fun q hq => by
  rcases List.mem_cons.mp hq with rfl | hq
  · exact h
  · exact t q hq
theorem lookA_mem {α : Type} {x : Addr} {v : α} : ∀ {l : List (Addr × α)}, l.lookup x = some v → (x, v) ∈ l
  | [], h => by cases h
  | (y, w) :: l, h => by
    rw [List.lookup_cons] at h
    split at h
    · rename_i hb
      cases h
      have : x = y := by simpa using hb
      subst this; exact .head _
    · exact .tail _ (lookA_mem h)
theorem look_allA {α : Type} {Q : Addr → α → Prop} {l : List (Addr × α)} (h : ∀ p ∈ l, Q p.1 p.2) {x : Addr} {v : α} (e : l.lookup x = some v) : Q x v := h _ (lookA_mem e)

noncomputable def GQ (mg mb : Str → Option Value) (x : Str) (v : AV) : Prop := ∃ u, (mg x = some u ∨ (mg x = none ∧ mb x = some u)) ∧ ∀ ρ, VRep ρ v u
theorem gq_ext {mg mb : Str → Option Value} {x : Str} {v : Value} (h : mg x = some v) : GQ mg mb x (.ext v) := ⟨v, .inl h, fun _ => rfl⟩
theorem gq_int {mg mb : Str → Option Value} {x : Str} {i : Int} {t : Tok} (h : mg x = some (.int i t)) : GQ mg mb x (.int i) := ⟨_, .inl h, fun _ => ⟨t, rfl⟩⟩
theorem gq_bi {mg mb : Str → Option Value} {x : Str} {v : Value} (h : mg x = none) (h' : mb x = some v) : GQ mg mb x (.ext v) := ⟨v, .inr ⟨h, h'⟩, fun _ => rfl⟩
noncomputable def FQ (X : Cx) (a : Addr) (fn : Fn) : Prop := ∃ o fd D, FnOk X a fn o fd D

theorem glob_own {h : Heap} {mg mb : Str → Option Value} {es : Array DictEntry} {ep : Nat} {cls : Value} {dct : Option Addr} {sl : Array (Option Value)} {x : Str} {u : Value} (hn : h.Ns mainGlobals mg) (ho : h.get? mainGlobals = some ⟨cls, dct, .dict es ep, sl⟩) (hf : nsFind es x = some u) : mg x = some u := by
  obtain ⟨o, es', ep', ho', hd, _, hall⟩ := hn
  rw [ho] at ho'; cases ho'
  cases hd
  rw [← hall]; exact hf
theorem glob_miss {h : Heap} {mg mb : Str → Option Value} {es : Array DictEntry} {ep : Nat} {cls : Value} {dct : Option Addr} {sl : Array (Option Value)} {x : Str} (hn : h.Ns mainGlobals mg) (ho : h.get? mainGlobals = some ⟨cls, dct, .dict es ep, sl⟩) (hf : nsFind es x = none) : mg x = none := by
  obtain ⟨o, es', ep', ho', hd, _, hall⟩ := hn
  rw [ho] at ho'; cases ho'
  cases hd
  rw [← hall]; exact hf
end
end Mine
end

section
open PySem PySem.W PyProof.Rows PySem.Calls
namespace Mine
noncomputable def fragO (k : Frag) (i : Nat) : Obj := match k[i]? with
  | some x => x.2
  | none => ⟨.none, none, .plain, #[]⟩
noncomputable def tpO (l : List Value) : Obj := ⟨.type "tuple", none, .seq l.toArray 0, #[]⟩
noncomputable def flO (l : List Value) : Obj := ⟨.none, none, .fields l.toArray, #[]⟩
noncomputable def diO (l : List DictEntry) : Obj := ⟨.type "dict", none, .dict l.toArray l.length, #[]⟩
noncomputable def enO (P : Params) (n : Str) (k : Nat) (v : Value) : DictEntry := ⟨PyData.keyHash P n, .str n k, v⟩
noncomputable def fnO (n q : Str) (s : Stmt) : Obj := ⟨.none, none, .func ⟨n, q, argsOf s, .stmts (bodyOf s), scopeOf s, 0, [], .none, .none, .none, .none, none, .none, .none, 0⟩, #[]⟩
noncomputable def coO (n q : Str) (k : Nat) (L A F : Int) (r : Nat) (b : Bool) (v : List Value) (t : Nat) : Obj :=
  ⟨.type "code", none, .fields (List.toArray (([.str n k, .str q (k + 1), .str "/claim/cut.py" (k + 2), .int L 0, .int A 0, .int 0 0, .int 0 0, .int F 0, .ref r, .bool b, .int 181 0, .ref (r + 1), .none] : List Value) ++ (v ++ [.int t 0, .int L 0, .str "/claim/cut.py" (t + 1)]))), #[]⟩
noncomputable def mdO (n : Str) (k r : Nat) (i : Int) : Obj := ⟨.type "member_descriptor", none, .fields #[.str n k, .ref r, .builtin "proto.slot", .builtin "proto.slot#set", .int i 0], #[]⟩
noncomputable def cO (k : Frag) (c : Addr) : Obj := (k.lookup c).getD (flO [])
noncomputable def vO (o : Obj) : Array Value := match o.data with
  | .fields vs => vs
  | _ => #[]
noncomputable def vC : List Value := [.none, .none, .none]
noncomputable def vN (r : Nat) : List Value := [.none, .none, .ref (r + 2)]
noncomputable def vR (r : Nat) : List Value := [.ref (r + 2), .ref (r + 3), .ref (r + 4)]
noncomputable def fkL (k : Frag) (a c : Addr) (s : Stmt) := (k.lookup a, k.lookup c, (cO k c).data, (vO (cO k c))[1]?, scopeChk s)
noncomputable def fkR (k : Frag) (c : Addr) (s : Stmt) (name qual mod : Str) (t tk : Tok) (dv : Value) := (some (fnObj s name qual mod t dv (.ref c)), some (cO k c), Data.fields (vO (cO k c)), some (Value.str qual tk), true)
theorem fk {X : Cx} (hK : X.K.In X.h₀) (a c : Addr) (s : Stmt) (name qual mod : Str) (t tk : Tok) (dv : Value) (D : List Value)
    (e : fkL X.K a c s = fkR X.K c s name qual mod t tk dv)
    (hd : DfltAt X.h₀ dv D) (hr : ∀ ρ, VReps ρ (X.P.dflt a) D) (hl : D.length ≤ (fnOf s).params.length) (hva : (fnOf s).vararg.isSome = true → D = []) : ∃ o fd D, FnOk X a (fnOf s) o fd D :=
  fnOk_of hK (congrArg Prod.fst e) (congrArg (·.2.1) e) (congrArg (·.2.2.1) e) (congrArg (·.2.2.2.1) e) (congrArg (·.2.2.2.2) e) hd hr hl hva
theorem fk0 {X : Cx} (hK : X.K.In X.h₀) (a c : Addr) (s : Stmt) (name qual mod : Str) (t tk : Tok)
    (e : fkL X.K a c s = fkR X.K c s name qual mod t tk .none) (e' : X.P.dflt a = []) : ∃ o fd D, FnOk X a (fnOf s) o fd D :=
  fk hK a c s name qual mod t tk .none [] e (.inl ⟨rfl, rfl⟩) (fun _ => e' ▸ trivial) (Nat.zero_le _) fun _ => rfl
theorem at_boot {X : Shared → Prop} {h : Heap} {g : Array GenState} {d : Drawn} {k : Nat} (H : ∀ os, X ⟨h, g, d, k, os⟩) (s : Shared) (e : (s.heap, s.gens, s.drawn, s.toks) = (h, g, d, k)) : X s :=
  (congrArg (fun x => X ⟨x.1, x.2.1, x.2.2.1, x.2.2.2, s.os⟩) e).mpr (H s.os)
theorem pick {S α : Type} {o : Option S} {c : S → Bool} {f : S → α} {y : α} (r : o.map (fun s => (c s, f s)) = some (true, y)) : (o.bind fun s => match c s with | true => some s | false => none).map f = some y :=
  (Option.map_eq_some_iff.mp r).elim fun s e => (congrArg (fun o => (Option.bind o fun s => match c s with | true => some s | false => none).map f) e.1).trans ((congrArg (fun b : Bool => (match b with | true => some s | false => none).map f) (congrArg Prod.fst e.2)).trans (congrArg (fun x => some (Prod.snd x)) e.2))
theorem topFrom_of {p : Program} {w : World} {N : Nat} {s₀ : Shared} {α : Type} {f : Shared → α} {y : α} (z : (s₀.heap.isNs mainGlobals && s₀.gens.size == 0) = true)
    (r : (topRun treeTable p w s₀.heap.objs.size (s₀.heap.nsMap mainGlobals "__annotations__") N s₀ (topStub p)).map (fun s => ((staticsOk (importedModules p.main.body) s₀.heap s.heap && namesBound p s.heap && gensDone s && laidKept s₀.heap s.heap), f s)) = some (true, y)) :
    (topFrom treeTable p w N s₀).map f = some y := by
  unfold topFrom
  rw [z]
  exact pick r
theorem go_map {p : Program} {w : World} {m : Nat} {ann : Option Value} {n N : Nat} {s s' : Shared} {t t' : Thread} {β : Type} {f : Shared → β} {y : β} (h : topGo treeTable p w m ann n s t = some (s', t'))
    (k : (topRun treeTable p w m ann N s' t').map f = some y) : (topRun treeTable p w m ann (n + N) s t).map f = some y :=
  (Option.map_eq_some_iff.mp k).elim fun r a => Option.map_eq_some_iff.mpr ⟨r, go_top h a.1, a.2⟩
theorem left_of_cut {p : Program} {N : Nat} {w : World} {α : Type} {f : Shared → α} {y : α}
    (op : opening p = plainProg p.main.scope.names) (h6 : Nat.ble 600 N = true) (fm : ∀ s, fenceModules? p s = some s)
    (run : ∀ os, (topFrom treeTable p w N ⟨boot_heap w.params, Array.mk [], boot_drawn, boot_toks, os⟩).map f = some y) : (openEnds treeTable p w N).map f = some y :=
  (Option.map_eq_some_iff.mp (boot_open op h6 fm w)).elim fun s e =>
    (congrArg (fun x => (Option.bind x (topFrom treeTable p w N)).map f) e.1).trans (at_boot (X := fun s => (topFrom treeTable p w N s).map f = some y) run s e.2)
end Mine
end

section
set_option maxHeartbeats 0
open PySem PySem.W PyProof.Rows PySem.Calls
namespace Mine
noncomputable abbrev pw0 : Program := PySem.Challenge.pw_op0154_01
noncomputable def top (i : Nat) : Stmt := stmtAt pw0.main.body i
noncomputable def meth (i j : Nat) : Stmt := stmtAt (bodyOf (top i)) j
noncomputable def inner (i j : Nat) : Stmt := stmtAt (bodyOf (top i)) j
noncomputable def kk (P : Params) : Frag := [
  ⟨3, ⟨.type "dict", none, .dict #[enO P "__name__" 165 (.str "law_op0154_01" 404), enO P "__doc__" 166 .none, enO P "__package__" 167 .none, enO P "__loader__" 168 (.builtin "__main__.__loader__#opaque"), enO P "__spec__" 169 .none, enO P "__annotations__" 170 (.ref 6), enO P "__builtins__" 171 (.ref 4), enO P "__file__" 173 (.str "/claim/cut.py" 172), enO P "__cached__" 174 .none, enO P "_wall" 193 (.ref 21), enO P "_initial_missing" 196 (.ref 22), enO P "reduce" 208 (.ref 30), enO P "_NODE_OUT" 213 (.int (-1) 212), enO P "_NODE_DONE" 216 (.int (-2) 215), enO P "_NodeInfo" 253 (.ref 49), enO P "CycleError" 271 (.ref 64), enO P "TopologicalSorter" 390 (.ref 146), enO P "_byteswap" 403 (.ref 157), enO P "_law_needs" 411 (.ref 162), enO P "_law_meetings" 417 (.ref 167), enO P "_law_order" 423 (.ref 172), enO P "_law_turned" 432 (.ref 179), enO P "_law_exchange" 441 (.ref 186), enO P "_law_one_slide" 452 (.ref 193), enO P "_law_evacuated" 461 (.ref 200), enO P "_law_slides" 470 (.ref 207), enO P "law" 476 (.ref 212)] 27, #[]⟩⟩,
  ⟨20, coO "_wall" "_wall" 187 1 1 3 15 true (vR 15) 191⟩,
  ⟨21, fnObj (top 0) "_wall" "_wall" "__main__" 164 .none (.ref 20)⟩,
  ⟨22, ⟨.type "object", none, .plain, #[]⟩⟩,
  ⟨23, tpO [.ref 22]⟩,
  ⟨29, coO "reduce" "reduce" 197 6 3 3 24 true (vR 24) 206⟩,
  ⟨30, fnObj (top 3) "reduce" "reduce" "cpy313.functools" 194 (.ref 23) (.ref 29)⟩,
  ⟨44, coO "__init__" "_NodeInfo.__init__" 233 24 2 3 39 true (vR 39) 238⟩,
  ⟨45, fnObj (meth 7 1) "__init__" "_NodeInfo.__init__" "cpy313.graphlib" 209 .none (.ref 44)⟩,
  ⟨48, ⟨.type "dict", none, .dict #[enO P "__module__" 224 (.str "cpy313.graphlib" 209), enO P "__firstlineno__" 228 (.int 21 227), enO P "__slots__" 232 (.ref 38), enO P "__init__" 240 (.ref 45), enO P "__static_attributes__" 244 (.ref 46), enO P "node" 246 (.ref 50), enO P "npredecessors" 248 (.ref 51), enO P "successors" 250 (.ref 52), enO P "__doc__" 251 .none] 5, #[]⟩⟩,
  ⟨49, ⟨.type "type", none, .cls ⟨"_NodeInfo", [.type "object"], [.ref 49, .type "object"], 48, "_NodeInfo", false, ["node", "npredecessors", "successors"], [], false, none, false⟩, #[none, none, some (.str "_NodeInfo" 217), some (.str "_NodeInfo" 225), some (.builtin "object.__new__"), some (.bool false)]⟩⟩,
  ⟨50, mdO "node" 245 49 2⟩,
  ⟨51, mdO "npredecessors" 247 49 1⟩,
  ⟨52, mdO "successors" 249 49 0⟩,
  ⟨63, ⟨.type "dict", none, .dict #[enO P "__module__" 261 (.str "cpy313.graphlib" 209), enO P "__firstlineno__" 265 (.int 28 264), enO P "__static_attributes__" 266 (.ref 62), enO P "__weakref__" 268 (.ref 65), enO P "__doc__" 269 .none] 3, #[]⟩⟩,
  ⟨64, ⟨.type "type", none, .cls ⟨"CycleError", [.type "ValueError"], [.ref 64, .type "ValueError", .type "Exception", .type "BaseException", .type "object"], 63, "CycleError", true, [], [], false, none, false⟩, #[some (.ref 55), none, some (.str "CycleError" 254), some (.str "CycleError" 262), some (.builtin "ValueError.__new__"), some (.bool true)]⟩⟩,
  ⟨75, tpO [.none]⟩,
  ⟨81, coO "__init__" "TopologicalSorter.__init__" 284 32 2 3 76 true (vR 76) 291⟩,
  ⟨82, fnObj (meth 9 0) "__init__" "TopologicalSorter.__init__" "cpy313.graphlib" 209 (.ref 75) (.ref 81)⟩,
  ⟨88, coO "_get_nodeinfo" "TopologicalSorter._get_nodeinfo" 294 41 2 3 83 true (vR 83) 300⟩,
  ⟨89, fnObj (meth 9 1) "_get_nodeinfo" "TopologicalSorter._get_nodeinfo" "cpy313.graphlib" 209 .none (.ref 88)⟩,
  ⟨95, coO "add" "TopologicalSorter.add" 303 46 2 7 90 true (vR 90) 312⟩,
  ⟨96, fnObj (meth 9 2) "add" "TopologicalSorter.add" "cpy313.graphlib" 209 .none (.ref 95)⟩,
  ⟨100, coO "prepare" "TopologicalSorter.prepare" 315 55 1 3 97 true (vN 97) 318⟩,
  ⟨101, fnObj (meth 9 3) "prepare" "TopologicalSorter.prepare" "cpy313.graphlib" 209 .none (.ref 100)⟩,
  ⟨107, coO "get_ready" "TopologicalSorter.get_ready" 321 63 1 3 102 true (vR 102) 328⟩,
  ⟨108, fnObj (meth 9 4) "get_ready" "TopologicalSorter.get_ready" "cpy313.graphlib" 209 .none (.ref 107)⟩,
  ⟨114, coO "is_active" "TopologicalSorter.is_active" 331 74 1 3 109 true (vR 109) 335⟩,
  ⟨115, fnObj (meth 9 5) "is_active" "TopologicalSorter.is_active" "cpy313.graphlib" 209 .none (.ref 114)⟩,
  ⟨121, coO "__bool__" "TopologicalSorter.__bool__" 338 79 1 3 116 true (vR 116) 342⟩,
  ⟨122, fnObj (meth 9 6) "__bool__" "TopologicalSorter.__bool__" "cpy313.graphlib" 209 .none (.ref 121)⟩,
  ⟨128, coO "done" "TopologicalSorter.done" 345 82 1 7 123 true (vR 123) 356⟩,
  ⟨129, fnObj (meth 9 7) "done" "TopologicalSorter.done" "cpy313.graphlib" 209 .none (.ref 128)⟩,
  ⟨135, coO "_find_cycle" "TopologicalSorter._find_cycle" 359 105 1 3 130 true (vR 130) 369⟩,
  ⟨136, fnObj (meth 9 8) "_find_cycle" "TopologicalSorter._find_cycle" "cpy313.graphlib" 209 .none (.ref 135)⟩,
  ⟨142, coO "static_order" "TopologicalSorter.static_order" 372 134 1 3 137 true (vR 137) 376⟩,
  ⟨143, fnObj (meth 9 9) "static_order" "TopologicalSorter.static_order" "cpy313.graphlib" 209 .none (.ref 142)⟩,
  ⟨145, ⟨.type "dict", none, .dict #[enO P "__module__" 279 (.str "cpy313.graphlib" 209), enO P "__firstlineno__" 283 (.int 30 282), enO P "__init__" 293 (.ref 82), enO P "_get_nodeinfo" 302 (.ref 89), enO P "add" 314 (.ref 96), enO P "prepare" 320 (.ref 101), enO P "get_ready" 330 (.ref 108), enO P "is_active" 337 (.ref 115), enO P "__bool__" 344 (.ref 122), enO P "done" 358 (.ref 129), enO P "_find_cycle" 371 (.ref 136), enO P "static_order" 378 (.ref 143), enO P "__static_attributes__" 383 (.ref 144), enO P "__dict__" 385 (.ref 147), enO P "__weakref__" 387 (.ref 148), enO P "__doc__" 388 .none] 4, #[]⟩⟩,
  ⟨146, ⟨.type "type", none, .cls ⟨"TopologicalSorter", [.type "object"], [.ref 146, .type "object"], 145, "TopologicalSorter", true, [], [], false, none, false⟩, #[none, none, some (.str "TopologicalSorter" 272), some (.str "TopologicalSorter" 280), some (.builtin "object.__new__"), some (.bool true)]⟩⟩,
  ⟨156, coO "_byteswap" "_byteswap" 393 137 2 3 151 true (vR 151) 401⟩,
  ⟨157, fnObj (top 11) "_byteswap" "_byteswap" "cpy313.wave" 391 .none (.ref 156)⟩,
  ⟨161, coO "_law_needs" "_law_needs" 406 144 2 3 158 true (vN 158) 409⟩,
  ⟨162, fnObj (top 13) "_law_needs" "_law_needs" "law_op0154_01" 404 .none (.ref 161)⟩,
  ⟨166, coO "_law_meetings" "_law_meetings" 412 149 1 3 163 true (vN 163) 415⟩,
  ⟨167, fnObj (top 14) "_law_meetings" "_law_meetings" "law_op0154_01" 404 .none (.ref 166)⟩,
  ⟨171, coO "_law_order" "_law_order" 418 156 2 3 168 true (vN 168) 421⟩,
  ⟨172, fnObj (top 15) "_law_order" "_law_order" "law_op0154_01" 404 .none (.ref 171)⟩,
  ⟨178, coO "_law_turned" "_law_turned" 424 178 2 3 173 true (vR 173) 430⟩,
  ⟨179, fnObj (top 16) "_law_turned" "_law_turned" "law_op0154_01" 404 .none (.ref 178)⟩,
  ⟨185, coO "_law_exchange" "_law_exchange" 433 183 1 3 180 true (vR 180) 439⟩,
  ⟨186, fnObj (top 17) "_law_exchange" "_law_exchange" "law_op0154_01" 404 .none (.ref 185)⟩,
  ⟨192, coO "_law_one_slide" "_law_one_slide" 442 191 2 3 187 true (vR 187) 450⟩,
  ⟨193, fnObj (top 18) "_law_one_slide" "_law_one_slide" "law_op0154_01" 404 .none (.ref 192)⟩,
  ⟨199, coO "_law_evacuated" "_law_evacuated" 453 201 2 3 194 true (vR 194) 459⟩,
  ⟨200, fnObj (top 19) "_law_evacuated" "_law_evacuated" "law_op0154_01" 404 .none (.ref 199)⟩,
  ⟨206, coO "_law_slides" "_law_slides" 462 205 2 3 201 true (vR 201) 468⟩,
  ⟨207, fnObj (top 20) "_law_slides" "_law_slides" "law_op0154_01" 404 .none (.ref 206)⟩,
  ⟨211, coO "law" "law" 471 209 1 3 208 true (vN 208) 474⟩,
  ⟨212, fnObj (top 21) "law" "law" "law_op0154_01" 404 .none (.ref 211)⟩]
noncomputable def kAddrs : List Addr := [3, 20, 21, 22, 23, 29, 30, 44, 45, 48, 49, 50, 51, 52, 63, 64, 75, 81, 82, 88, 89, 95, 96, 100, 101, 107, 108, 114, 115, 121, 122, 128, 129, 135, 136, 142, 143, 145, 146, 156, 157, 161, 162, 166, 167, 171, 172, 178, 179, 185, 186, 192, 193, 199, 200, 206, 207, 211, 212]
theorem kAddrs_ok : ∀ P, kAddrs = (kk P).map (·.1) := fun P => by kernel_rfl
end Mine
end

section
open PySem PySem.W PyProof.Rows PySem.Calls
namespace Mine
noncomputable def fnTab : List (Addr × Fn) := [(30, fnOf (top 3)), (45, fnOf (meth 7 1)), (82, fnOf (meth 9 0)), (89, fnOf (meth 9 1)), (96, fnOf (meth 9 2)), (101, fnOf (meth 9 3)), (108, fnOf (meth 9 4)), (115, fnOf (meth 9 5)), (129, fnOf (meth 9 7)), (136, fnOf (meth 9 8)), (157, fnOf (top 11)), (162, fnOf (top 13)), (167, fnOf (top 14)), (172, fnOf (top 15)), (179, fnOf (top 16)), (186, fnOf (top 17)), (193, fnOf (top 18)), (200, fnOf (top 19)), (207, fnOf (top 20)), (212, fnOf (top 21))]
noncomputable def ownTab : List (Str × AV) := [("_initial_missing", .ext (.ref 22)), ("reduce", .ext (.ref 30)), ("_NODE_OUT", .int (-1)), ("_NODE_DONE", .int (-2)), ("_NodeInfo", .ext (.ref 49)), ("TopologicalSorter", .ext (.ref 146)), ("_byteswap", .ext (.ref 157)), ("_law_needs", .ext (.ref 162)), ("_law_meetings", .ext (.ref 167)), ("_law_order", .ext (.ref 172)), ("_law_turned", .ext (.ref 179)), ("_law_exchange", .ext (.ref 186)), ("_law_one_slide", .ext (.ref 193)), ("_law_evacuated", .ext (.ref 200)), ("_law_slides", .ext (.ref 207)), ("law", .ext (.ref 212))]
noncomputable def biTab : List (Str × AV) := [("len", .ext (.builtin "len")), ("sum", .ext (.builtin "sum")), ("sorted", .ext (.builtin "sorted")), ("isinstance", .ext (.builtin "isinstance")), ("iter", .ext (.builtin "iter")), ("next", .ext (.builtin "next")), ("range", .ext (.type "range")), ("list", .ext (.type "list")), ("tuple", .ext (.type "tuple")), ("bytes", .ext (.type "bytes")), ("bytearray", .ext (.type "bytearray")), ("set", .ext (.type "set")), ("bool", .ext (.type "bool")), ("StopIteration", .ext (.type "StopIteration"))]
noncomputable def niTab : List (Str × Addr) := [("__init__", 45)]
noncomputable def tsTab : List (Str × Addr) := [("__init__", 82), ("_get_nodeinfo", 89), ("add", 96), ("prepare", 101), ("get_ready", 108), ("is_active", 115), ("done", 129), ("_find_cycle", 136)]
noncomputable def niSlots : List Str := ["node", "npredecessors", "successors"]
noncomputable def tsAttrs : List Str := ["_node2info", "_ready_nodes", "_npassedout", "_nfinished"]
noncomputable def PP : Prog where
  glob := fun x => (ownTab.lookup x).or (biTab.lookup x)
  fn := fun a => fnTab.lookup a
  dflt := fun a => if a = 30 then [.ext (.ref 22)] else if a = 82 then [.none] else []
  meth := fun C x => if C = 49 then niTab.lookup x else if C = 146 then tsTab.lookup x else none
  slotsOf := fun C => if C = 49 then some niSlots else none
  isCls := fun C => C == 49 || C == 146
  attrs := fun _ => tsAttrs
  maker := fun a => if a = 186 then some 181 else none
  miss := 22

section
variable {w : World} {h₀ : Heap}
noncomputable def XX (w : World) (h₀ : Heap) : Cx := ⟨pw0, w, PP, h₀, kk w.params, fun _ => none⟩
theorem cls_ok {C : Addr} (h : PP.isCls C = true) : ClsOk (XX w h₀) C := by
  have hc : C = 49 ∨ C = 146 := by simpa [PP] using h
  rcases hc with rfl | rfl
  · refine ⟨by kernel_rfl, by kernel_rfl, by kernel_rfl, by kernel_rfl, by kernel_rfl, by kernel_rfl, fun q => ?_, fun xs q => ?_⟩
    · cases q
    · have q' : some niSlots = some xs := q
      cases q'
      intro x hx
      simp only [niSlots, List.mem_cons, List.not_mem_nil, or_false] at hx
      rcases hx with rfl | rfl | rfl
      · exact ⟨50, by kernel_rfl, by kernel_rfl, by kernel_rfl, by kernel_rfl, by kernel_rfl, by decide +kernel⟩
      · exact ⟨51, by kernel_rfl, by kernel_rfl, by kernel_rfl, by kernel_rfl, by kernel_rfl, by decide +kernel⟩
      · exact ⟨52, by kernel_rfl, by kernel_rfl, by kernel_rfl, by kernel_rfl, by kernel_rfl, by decide +kernel⟩
  · refine ⟨by kernel_rfl, by kernel_rfl, by kernel_rfl, by kernel_rfl, by kernel_rfl, by kernel_rfl, fun _ => ⟨by kernel_rfl, fun x hx => ?_⟩, fun xs q => ?_⟩
    · have hx' : x ∈ tsAttrs := hx
      simp only [tsAttrs, List.mem_cons, List.not_mem_nil, or_false] at hx'
      rcases hx' with rfl | rfl | rfl | rfl <;> kernel_rfl
    · cases q
theorem meth_ok {C : Addr} {x : Str} {f : Addr} (h : PP.isCls C = true) (hm : PP.meth C x = some f) : MethOk (XX w h₀) C x f := by
  have hc : C = 49 ∨ C = 146 := by simpa [PP] using h
  rcases hc with rfl | rfl
  · exact look_all (l := niTab) (Q := fun x f => MethOk (XX w h₀) 49 x f) (allC ⟨by kernel_rfl, by kernel_rfl, by kernel_rfl, by kernel_rfl, by decide +kernel⟩ (allN)) hm
  · exact look_all (l := tsTab) (Q := fun x f => MethOk (XX w h₀) 146 x f) (allC ⟨by kernel_rfl, by kernel_rfl, by kernel_rfl, by kernel_rfl, by decide +kernel⟩ (allC ⟨by kernel_rfl, by kernel_rfl, by kernel_rfl, by kernel_rfl, by decide +kernel⟩ (allC ⟨by kernel_rfl, by kernel_rfl, by kernel_rfl, by kernel_rfl, by decide +kernel⟩ (allC ⟨by kernel_rfl, by kernel_rfl, by kernel_rfl, by kernel_rfl, by decide +kernel⟩ (allC ⟨by kernel_rfl, by kernel_rfl, by kernel_rfl, by kernel_rfl, by decide +kernel⟩ (allC ⟨by kernel_rfl, by kernel_rfl, by kernel_rfl, by kernel_rfl, by decide +kernel⟩ (allC ⟨by kernel_rfl, by kernel_rfl, by kernel_rfl, by kernel_rfl, by decide +kernel⟩ (allC ⟨by kernel_rfl, by kernel_rfl, by kernel_rfl, by kernel_rfl, by decide +kernel⟩ (allN))))))))) hm
theorem fn_ok (KX : (kk w.params).In h₀) {a : Addr} {fn : Fn} (h : PP.fn a = some fn) : ∃ o fd D, FnOk (XX w h₀) a fn o fd D := by
  refine look_allA (l := fnTab) (Q := FQ (XX w h₀)) ?_ h
  exact allCA (Q := FQ (XX w h₀)) (fk (X := XX w h₀) KX 30 29 (top 3) "reduce" "reduce" "cpy313.functools" 194 198 (.ref 23) [.ref 22] (by kernel_rfl) (.inr ⟨_, _, _, rfl, KX _ _ (by kernel_rfl : (kk w.params).lookup 23 = some ⟨.type "tuple", none, .seq #[.ref 22] 0, #[]⟩), rfl⟩) (fun ρ => show VReps ρ [.ext (.ref 22)] [.ref 22] from ⟨rfl, trivial⟩) (by decide +kernel) (fun h => by cases h))
    (allCA (Q := FQ (XX w h₀)) (fk0 (X := XX w h₀) KX 45 44 (meth 7 1) "__init__" "_NodeInfo.__init__" "cpy313.graphlib" 209 234 (by kernel_rfl) rfl)
    (allCA (Q := FQ (XX w h₀)) (fk (X := XX w h₀) KX 82 81 (meth 9 0) "__init__" "TopologicalSorter.__init__" "cpy313.graphlib" 209 285 (.ref 75) [.none] (by kernel_rfl) (.inr ⟨_, _, _, rfl, KX _ _ (by kernel_rfl : (kk w.params).lookup 75 = some ⟨.type "tuple", none, .seq #[.none] 0, #[]⟩), rfl⟩) (fun ρ => show VReps ρ [.none] [.none] from ⟨rfl, trivial⟩) (by decide +kernel) (fun h => by cases h))
    (allCA (Q := FQ (XX w h₀)) (fk0 (X := XX w h₀) KX 89 88 (meth 9 1) "_get_nodeinfo" "TopologicalSorter._get_nodeinfo" "cpy313.graphlib" 209 295 (by kernel_rfl) rfl)
    (allCA (Q := FQ (XX w h₀)) (fk0 (X := XX w h₀) KX 96 95 (meth 9 2) "add" "TopologicalSorter.add" "cpy313.graphlib" 209 304 (by kernel_rfl) rfl)
    (allCA (Q := FQ (XX w h₀)) (fk0 (X := XX w h₀) KX 101 100 (meth 9 3) "prepare" "TopologicalSorter.prepare" "cpy313.graphlib" 209 316 (by kernel_rfl) rfl)
    (allCA (Q := FQ (XX w h₀)) (fk0 (X := XX w h₀) KX 108 107 (meth 9 4) "get_ready" "TopologicalSorter.get_ready" "cpy313.graphlib" 209 322 (by kernel_rfl) rfl)
    (allCA (Q := FQ (XX w h₀)) (fk0 (X := XX w h₀) KX 115 114 (meth 9 5) "is_active" "TopologicalSorter.is_active" "cpy313.graphlib" 209 332 (by kernel_rfl) rfl)
    (allCA (Q := FQ (XX w h₀)) (fk0 (X := XX w h₀) KX 129 128 (meth 9 7) "done" "TopologicalSorter.done" "cpy313.graphlib" 209 346 (by kernel_rfl) rfl)
    (allCA (Q := FQ (XX w h₀)) (fk0 (X := XX w h₀) KX 136 135 (meth 9 8) "_find_cycle" "TopologicalSorter._find_cycle" "cpy313.graphlib" 209 360 (by kernel_rfl) rfl)
    (allCA (Q := FQ (XX w h₀)) (fk0 (X := XX w h₀) KX 157 156 (top 11) "_byteswap" "_byteswap" "cpy313.wave" 391 394 (by kernel_rfl) rfl)
    (allCA (Q := FQ (XX w h₀)) (fk0 (X := XX w h₀) KX 162 161 (top 13) "_law_needs" "_law_needs" "law_op0154_01" 404 407 (by kernel_rfl) rfl)
    (allCA (Q := FQ (XX w h₀)) (fk0 (X := XX w h₀) KX 167 166 (top 14) "_law_meetings" "_law_meetings" "law_op0154_01" 404 413 (by kernel_rfl) rfl)
    (allCA (Q := FQ (XX w h₀)) (fk0 (X := XX w h₀) KX 172 171 (top 15) "_law_order" "_law_order" "law_op0154_01" 404 419 (by kernel_rfl) rfl)
    (allCA (Q := FQ (XX w h₀)) (fk0 (X := XX w h₀) KX 179 178 (top 16) "_law_turned" "_law_turned" "law_op0154_01" 404 425 (by kernel_rfl) rfl)
    (allCA (Q := FQ (XX w h₀)) (fk0 (X := XX w h₀) KX 186 185 (top 17) "_law_exchange" "_law_exchange" "law_op0154_01" 404 434 (by kernel_rfl) rfl)
    (allCA (Q := FQ (XX w h₀)) (fk0 (X := XX w h₀) KX 193 192 (top 18) "_law_one_slide" "_law_one_slide" "law_op0154_01" 404 443 (by kernel_rfl) rfl)
    (allCA (Q := FQ (XX w h₀)) (fk0 (X := XX w h₀) KX 200 199 (top 19) "_law_evacuated" "_law_evacuated" "law_op0154_01" 404 454 (by kernel_rfl) rfl)
    (allCA (Q := FQ (XX w h₀)) (fk0 (X := XX w h₀) KX 207 206 (top 20) "_law_slides" "_law_slides" "law_op0154_01" 404 463 (by kernel_rfl) rfl)
    (allCA (Q := FQ (XX w h₀)) (fk0 (X := XX w h₀) KX 212 211 (top 21) "law" "law" "law_op0154_01" 404 472 (by kernel_rfl) rfl)
    (allNA))))))))))))))))))))
noncomputable def gEs (w : World) : Array DictEntry × Nat := match ((kk w.params).lookup 3).map Obj.data with | some (Data.dict es ep) => (es, ep) | _ => (#[], 0)
theorem glob_ok (KX : (kk w.params).In h₀) {mg mb : Str → Option Value} (hg : h₀.Ns mainGlobals mg) (hb : ∀ x : Str, x ≠ "__name__" → mb x = bootBuiltins x) {x : Str} {v : AV} (h : PP.glob x = some v) :
    ∃ u, (mg x = some u ∨ (mg x = none ∧ mb x = some u)) ∧ ∀ ρ, VRep ρ v u := by
  have h3 : h₀.get? mainGlobals = some ⟨.type "dict", none, .dict (gEs w).1 (gEs w).2, #[]⟩ := KX _ _ (by kernel_rfl)
  have own : ∀ {x : Str} {u : Value}, nsFind (gEs w).1 x = some u → mg x = some u := fun hf => glob_own (mb := mb) hg h3 hf
  have non : ∀ {x : Str}, nsFind (gEs w).1 x = none → mg x = none := fun hf => glob_miss (mb := mb) hg h3 hf
  have h : (ownTab.lookup x).or (biTab.lookup x) = some v := h
  cases ho : ownTab.lookup x with
  | some v' =>
    rw [ho] at h
    cases h
    refine look_all (l := ownTab) (Q := GQ mg mb) ?_ ho
    exact allC (Q := GQ mg mb) (gq_ext (own (by kernel_rfl : _ = some (Value.ref 22)))) (allC (Q := GQ mg mb) (gq_ext (own (by kernel_rfl : _ = some (Value.ref 30)))) (allC (Q := GQ mg mb) (gq_int (own (by kernel_rfl : _ = some (Value.int (-1) 212)))) (allC (Q := GQ mg mb) (gq_int (own (by kernel_rfl : _ = some (Value.int (-2) 215)))) (allC (Q := GQ mg mb) (gq_ext (own (by kernel_rfl : _ = some (Value.ref 49)))) (allC (Q := GQ mg mb) (gq_ext (own (by kernel_rfl : _ = some (Value.ref 146)))) (allC (Q := GQ mg mb) (gq_ext (own (by kernel_rfl : _ = some (Value.ref 157)))) (allC (Q := GQ mg mb) (gq_ext (own (by kernel_rfl : _ = some (Value.ref 162)))) (allC (Q := GQ mg mb) (gq_ext (own (by kernel_rfl : _ = some (Value.ref 167)))) (allC (Q := GQ mg mb) (gq_ext (own (by kernel_rfl : _ = some (Value.ref 172)))) (allC (Q := GQ mg mb) (gq_ext (own (by kernel_rfl : _ = some (Value.ref 179)))) (allC (Q := GQ mg mb) (gq_ext (own (by kernel_rfl : _ = some (Value.ref 186)))) (allC (Q := GQ mg mb) (gq_ext (own (by kernel_rfl : _ = some (Value.ref 193)))) (allC (Q := GQ mg mb) (gq_ext (own (by kernel_rfl : _ = some (Value.ref 200)))) (allC (Q := GQ mg mb) (gq_ext (own (by kernel_rfl : _ = some (Value.ref 207)))) (allC (Q := GQ mg mb) (gq_ext (own (by kernel_rfl : _ = some (Value.ref 212)))) (allN))))))))))))))))
  | none =>
    rw [ho] at h
    have h : biTab.lookup x = some v := h
    refine look_all (l := biTab) (Q := GQ mg mb) ?_ h
    exact allC (Q := GQ mg mb) (gq_bi (non (by kernel_rfl)) ((hb _ (by decide +kernel)).trans (by kernel_rfl : _ = some (Value.builtin "len")))) (allC (Q := GQ mg mb) (gq_bi (non (by kernel_rfl)) ((hb _ (by decide +kernel)).trans (by kernel_rfl : _ = some (Value.builtin "sum")))) (allC (Q := GQ mg mb) (gq_bi (non (by kernel_rfl)) ((hb _ (by decide +kernel)).trans (by kernel_rfl : _ = some (Value.builtin "sorted")))) (allC (Q := GQ mg mb) (gq_bi (non (by kernel_rfl)) ((hb _ (by decide +kernel)).trans (by kernel_rfl : _ = some (Value.builtin "isinstance")))) (allC (Q := GQ mg mb) (gq_bi (non (by kernel_rfl)) ((hb _ (by decide +kernel)).trans (by kernel_rfl : _ = some (Value.builtin "iter")))) (allC (Q := GQ mg mb) (gq_bi (non (by kernel_rfl)) ((hb _ (by decide +kernel)).trans (by kernel_rfl : _ = some (Value.builtin "next")))) (allC (Q := GQ mg mb) (gq_bi (non (by kernel_rfl)) ((hb _ (by decide +kernel)).trans (by kernel_rfl : _ = some (Value.type "range")))) (allC (Q := GQ mg mb) (gq_bi (non (by kernel_rfl)) ((hb _ (by decide +kernel)).trans (by kernel_rfl : _ = some (Value.type "list")))) (allC (Q := GQ mg mb) (gq_bi (non (by kernel_rfl)) ((hb _ (by decide +kernel)).trans (by kernel_rfl : _ = some (Value.type "tuple")))) (allC (Q := GQ mg mb) (gq_bi (non (by kernel_rfl)) ((hb _ (by decide +kernel)).trans (by kernel_rfl : _ = some (Value.type "bytes")))) (allC (Q := GQ mg mb) (gq_bi (non (by kernel_rfl)) ((hb _ (by decide +kernel)).trans (by kernel_rfl : _ = some (Value.type "bytearray")))) (allC (Q := GQ mg mb) (gq_bi (non (by kernel_rfl)) ((hb _ (by decide +kernel)).trans (by kernel_rfl : _ = some (Value.type "set")))) (allC (Q := GQ mg mb) (gq_bi (non (by kernel_rfl)) ((hb _ (by decide +kernel)).trans (by kernel_rfl : _ = some (Value.type "bool")))) (allC (Q := GQ mg mb) (gq_bi (non (by kernel_rfl)) ((hb _ (by decide +kernel)).trans (by kernel_rfl : _ = some (Value.type "StopIteration")))) (allN))))))))))))))
theorem fx_ok (KX : (kk w.params).In h₀) {mg mb : Str → Option Value} (hg : h₀.Ns mainGlobals mg) (hbn : h₀.Ns builtinsNs mb) (hb : ∀ x : Str, x ≠ "__name__" → mb x = bootBuiltins x) (hs : ∃ o, h₀.get? sysModules = some o) (hl : h₀.NoLimit)
    (hC : CodeHd h₀ 185 181) (hB : ∀ mg', h₀.Ns mainGlobals mg' → h₀.BuiltinsAt mg' 181) : Fx (XX w h₀) where
  sys := hs
  miss := ⟨_, KX _ _ (by kernel_rfl : (kk w.params).lookup 22 = some ⟨.type "object", none, .plain, #[]⟩)⟩
  kin := KX
  cls := fun C h => cls_ok h
  meth := fun C x f h hm => meth_ok h hm
  glob := ⟨mg, mb, hg, hbn, fun x v h => glob_ok KX hg hb h⟩
  limit := hl
  fn := fun a fn h => fn_ok KX h
  mkr := fun a p h => by
    have ha : a = 186 ∧ p = 181 := by
      have h : (if a = 186 then some 181 else none) = some p := h
      split at h
      · rename_i q; cases h; exact ⟨q, rfl⟩
      · cases h
    obtain ⟨rfl, rfl⟩ := ha
    refine ⟨fun o fd e d => ⟨185, ?_, hC⟩, by decide, hB⟩
    have e2 := KX 186 _ (by kernel_rfl : _ = some (fnObj (top 17) "_law_exchange" "_law_exchange" "law_op0154_01" 404 .none (.ref 185)))
    cases e2.symm.trans e
    cases d
    rfl
  apart := fun a h => by
    have hc : a = 49 ∨ a = 146 := by simpa [XX, PP] using h
    rcases hc with rfl | rfl <;> kernel_rfl
end
end Mine
end

section
namespace Mine
open PySem PySem.W PyProof.Rows PySem.Calls
noncomputable def closChk (fn : Fn) (y : Str) : Bool :=
  fn.scope.kind == .function && (fn.scope.names.all fun p => p.2 != .cell && (p.2 != .free || p.1 == y)) && (fn.params.all fun x => fn.scope.names.lookup x == some .local) && decide fn.params.Nodup && fn.vararg.isNone && fn.scope.names.lookup y == some .free
structure ClosSc (fn : Fn) (y : Str) : Prop where
  kind : fn.scope.kind = .function
  names : ∀ p ∈ fn.scope.names, p.2 ≠ .cell ∧ (p.2 = .free → p.1 = y)
  params : ∀ x ∈ fn.params, fn.scope.names.lookup x = some .local
  nodup : fn.params.Nodup
  va : fn.vararg = Option.none
  free : fn.scope.names.lookup y = some .free
theorem closSc_of {fn : Fn} {y : Str} (h : closChk fn y = true) : ClosSc fn y := by
  unfold closChk at h
  simp only [Bool.and_eq_true, List.all_eq_true, beq_iff_eq, Bool.or_eq_true, bne_iff_ne, ne_eq, decide_eq_true_eq, Option.isNone_iff_eq_none] at h
  obtain ⟨⟨⟨⟨⟨h1, h2⟩, h3⟩, h4⟩, h5⟩, h6⟩ := h
  exact ⟨h1, fun p hp => ⟨(h2 p hp).1, fun q => (h2 p hp).2.resolve_left fun h => h q⟩, h3, h4, h5, h6⟩
theorem at_frz_same {X : Cx} {a : Addr} {ob : Obj} (h : ∀ o, X.at a = some o → o = ob) : (X.frz a ob).at a = some ob := by
  cases e : X.h₀.get? a with
  | none => unfold Cx.at Cx.frz; dsimp only; rw [e, if_pos rfl]; rfl
  | some o =>
    have h1 : X.at a = some o := Cx.at_base e
    have h2 : (X.frz a ob).at a = some o := Cx.at_base e
    rw [h2, h o h1]
theorem lookup_rev {x : Str} : ∀ {l : List (Str × Value)}, (l.map (·.1)).Nodup → l.reverse.lookup x = l.lookup x
  | [], _ => rfl
  | p :: l, h => by
    rw [List.map_cons, List.nodup_cons] at h
    rw [List.reverse_cons, List.lookup_append, lookup_rev h.2]
    obtain ⟨k, w⟩ := p
    rw [List.lookup_cons (as := l), List.lookup_cons (as := []), List.lookup_nil]
    cases hb : x == k with
    | true =>
      have : x = k := by simpa using hb
      subst this
      rw [lookup_none h.1]; rfl
    | false => exact Option.or_none
theorem clos_start {X : Cx} {fn : Fn} {A : Around} {n N c : Nat} {ρ : List Addr} {σ : Store} {s : Shared} {y qual : Str} {f a : Addr} {v : AV} {oc : Obj} {u code : Value} {bs₀ : Bs} {binds : List (Str × Value)} {h' : Heap} {tk : Tok} {env' : Env} (r : Rep X ρ σ s.heap) (ok : OkA X A N ρ s.heap) (hN : n + 1 ≤ N) (chk : ClosSc fn y)
    (ha : ρ[c]? = some a) (hσ : σ[c]? = some (.cell v)) (ho : s.heap.get? a = some oc) (hd : oc.data = .cell (some u)) (hv : VRep ρ v u)
    (he : env' = newEnv fn.scope s.heap.objs.size mainGlobals [(y, a)] qual (some f) code none builtinsNs) (B : BReps ρ bs₀ binds) (hk : bs₀.map (·.1) = fn.params)
    (hns : h'.Ns s.heap.objs.size (fun x => binds.reverse.lookup x)) (hsb : Heap.SameBut s.heap.objs.size (s.heap.push { cls := .type "frame", data := .dict #[] }) h') :
    Inv (X.frz a oc) fn.scope env' (A.deeper env') n ρ (bs₀ ++ [(y, v)]) σ { s with heap := h', toks := tk } := by
  subst he
  have keep : ∀ b o, s.heap.get? b = some o → h'.get? b = some o := fun b o e => hsb.extBut b o (Nat.ne_of_lt (Heap.lt_size e)) (Heap.get?_push_of_some _ e)
  have hLn : s.heap.get? s.heap.objs.size = Option.none := Heap.noneOf (Nat.le_refl _)
  have notIn : s.heap.objs.size ∉ ρ := fun h => by
    obtain ⟨o, ho⟩ := r.there h
    rw [ho] at hLn; cases hLn
  have hax : (X.frz a oc).at a = some oc := at_frz_same fun o e => by
    have := r.keepA a o e
    rw [ho] at this; cases this; rfl
  have nz : ∀ {b : Addr}, b ∉ ρ → X.at b = Option.none → (X.frz a oc).at b = Option.none := fun {b} hb h => by
    rw [at_frz_ne fun q => hb (by rw [q]; exact List.mem_of_getElem? ha)]; exact h
  have hL0 : X.at s.heap.objs.size = Option.none := by
    cases e : X.at s.heap.objs.size with
    | none => rfl
    | some o => rw [r.keepA _ _ e] at hLn; cases hLn
  have hkeys : (binds.map (·.1)).Nodup := by rw [B.keys, hk]; exact chk.nodup
  have isY : ∀ x, fn.scope.names.lookup x = some .cell ∨ fn.scope.names.lookup x = some .free → x = y := fun x hx => by
    rcases hx with hx | hx
    · exact absurd rfl (chk.names _ (lookup_mem hx)).1
    · exact (chk.names _ (lookup_mem hx)).2 rfl
  have hyp : y ∉ bs₀.map (·.1) := fun h => by
    rw [hk] at h
    have := chk.params y h
    rw [chk.free] at this; cases this
  have app : ∀ x, (bs₀ ++ [(y, v)]).lookup x = (bs₀.lookup x).or ([(y, v)].lookup x) := fun x => List.lookup_append
  refine ⟨⟨r.len, r.nodup, fun i b bo hb hbo => ?_, fun i b bo hb hbo hf => ?_, fun b o e => ?_⟩, ⟨chk.kind, rfl, rfl, fun x k hx => .inl hx, ⟨_, hns, fun x w hx hw => ?_⟩, notIn, nz notIn hL0, fun x hx => ?_, fun x z b hx hz _ _ => (isY x hx).trans (isY z hz).symm⟩, ⟨ok.handled, ?_, ?_, ?_⟩⟩
  · obtain ⟨o, e, q⟩ := r.obj i b bo hb hbo
    exact ⟨o, keep b o e, by rw [OR_frz]; exact q⟩
  · rw [at_frz_ne fun q => ?_]
    · exact r.newA i b bo hb hbo hf
    · have := nodup_at r.nodup ha (by rw [← q]; exact hb)
      subst this
      rw [hσ] at hbo; cases hbo; cases hf
  · by_cases hb : b = a
    · subst hb; rw [hax] at e; cases e; exact keep _ _ ho
    · rw [at_frz_ne hb] at e; exact keep b o (r.keepA b o e)
  · rw [app] at hw
    cases hb : bs₀.lookup x with
    | some w' =>
      rw [hb] at hw; cases hw
      obtain ⟨z, hz, hr⟩ := B.lookup hb
      exact ⟨z, by rw [lookup_rev hkeys]; exact hz, hr⟩
    | none =>
      rw [hb] at hw
      have : x = y := by
        have := (lookup_mem (l := [(y, v)]) hw)
        simp only [List.mem_singleton, Prod.mk.injEq] at this
        exact this.1
      subst this
      rw [chk.free] at hx; cases hx
  · have hxy := isY x hx
    subst hxy
    refine ⟨a, some u, by show List.lookup x [(x, a)] = some a; simp [List.lookup_cons], ⟨oc, keep _ _ ho, hd⟩, .inr ⟨chk.free, oc, hax, hd⟩, fun w hw => ?_⟩
    rw [app, lookup_none hyp] at hw
    have : v = w := by simpa [List.lookup_cons] using hw
    exact ⟨u, rfl, this ▸ hv⟩
  · have := ok.depth
    show A.depth + 1 + 2 * n < 900
    lia
  · have := ok.units
    show A.units + 3 + 20 * n < 9000
    lia
  · obtain ⟨fr, h1, h2⟩ := ok.frames
    refine ⟨newEnv fn.scope s.heap.objs.size mainGlobals [(y, a)] qual (some f) code none builtinsNs :: fr, by show A.frames.map _ = _; rw [h1]; rfl, fun e he => ?_⟩
    rcases List.mem_cons.mp he with rfl | he
    · obtain ⟨o, es, ep, ho, hd, _⟩ := hns
      exact ⟨chk.kind, _, o, es, ep, rfl, ho, hd, notIn, nz notIn hL0⟩
    · obtain ⟨hk, L, o, es, ep, hf, ho, hd, hn, hbn⟩ := h2 e he
      exact ⟨hk, L, o, es, ep, hf, keep _ _ ho, hd, hn, nz hn hbn⟩
theorem Rep.thawC {X : Cx} {ρ : List Addr} {σ : Store} {h : Heap} {a : Addr} {oc : Obj} (r : Rep (X.frz a oc) ρ σ h) (hax : (X.frz a oc).at a = some oc) (hs : ∀ o, X.at a = some o → o = oc) : Rep X ρ σ h := by
  refine ⟨r.len, r.nodup, fun i b bo hb hbo => ?_, fun i b bo hb hbo hf => ?_, fun b o e => r.keepA b o ?_⟩
  · have := r.obj i b bo hb hbo
    simpa only [OR_frz] using this
  · have := r.newA i b bo hb hbo hf
    by_cases q : b = a
    · subst q; rw [hax] at this; cases this
    · rwa [at_frz_ne q] at this
  · by_cases q : b = a
    · subst q; rw [hax, hs o e]
    · rw [at_frz_ne q]; exact e
namespace H
variable {P : Prog} {n : Nat} {sc : Scope} {α β γ δ : Type} {bs bs' : Bs} {σ : Store} {Q : α → Bs → Store → Prop}
theorem hx_callClos {fn : Fn} {y q : Str} {i c d : Nat} {v : AV} {args : List AV} {Q : AV → Bs → Store → Prop} (hi : σ[i]? = some (.clos fn y q c d)) (hc : σ[c]? = some (.cell v)) (hdc : σ[d]? = some (.code q)) (chk : closChk fn y = true) (hl : args.length = fn.params.length)
    (h : Hx (execs P n fn.scope fn.body) (fn.params.zip args ++ [(y, v)]) σ (EndQ bs Q)) : Hx (callV P (n + 1) (.ref i) args : Mm P (n + 1) sc AV) bs σ Q := fun K ρ s iv u vals hu hv => by
  have chk := closSc_of chk
  obtain ⟨f, hf, rfl⟩ := hu
  obtain ⟨f', of, hf', hof, a, b, fd, ha, hb, hfd, ok⟩ := iv.rep.at hi
  rw [hf] at hf'; cases hf'
  obtain ⟨a', oc, ha', hoc, w, hcd, hw⟩ := iv.rep.at hc
  rw [ha] at ha'; cases ha'
  obtain ⟨b', od, hb', hod, vs, t, hvs, hv1⟩ := iv.rep.at hdc
  rw [hb] at hb'; cases hb'
  refine ⟨keeper_func hof hfd fun _ => rfl, wpN_called ?_⟩
  have hroom : K.A.depth < recursionLimit := by have := iv.ok.depth; unfold recursionLimit; lia
  refine codeN_call_function hroom hof hfd ok.co ok.gen ok.body (by rw [ok.code, ok.qual]; exact ⟨b, od, vs, t, rfl, hod, hvs, hv1⟩) ?_
  have hlen := hv.length
  refine wpN_any (wp_bindArgs (D := []) ⟨ok.pos, ok.args, ok.kwonly, ok.kwarg, by rw [ok.vararg]; rfl⟩ chk.nodup (by rw [ok.dflt]; exact .inl ⟨rfl, rfl⟩) (Nat.zero_le _) (by rw [hlen, hl]; exact Nat.le_refl _) (by rw [hlen, hl, Nat.sub_self]; exact Nat.zero_le _) ?_)
  rw [List.drop_nil, List.append_nil, ok.scope, ok.glob, ok.clo, ok.bi]
  have B : BReps ρ (fn.params.zip args) (fn.params.zip vals) := BReps.zip hv
  refine wpN_any (wpAny_newFunctionEnv (fun p hp => (chk.names p hp).1) (fun p hp => chk.params _ (List.of_mem_zip hp).1) (fun h' hns hsb => ?_) chk.kind)
  generalize henv : newEnv fn.scope s.heap.objs.size mainGlobals [(y, a)] (fd.qualname ++ ".<locals>.") (some f) fd.code none builtinsNs = env'
  have keep : ∀ b o, s.heap.get? b = some o → h'.get? b = some o := fun b o e => hsb.extBut b o (Nat.ne_of_lt (Heap.lt_size e)) (Heap.get?_push_of_some _ e)
  refine ⟨K.F.limit.keeps fun b o e => keep _ _ (iv.rep.keep b o e), codeN_func ?_⟩
  have i' := clos_start (n := n) (tk := s.toks + (fn.params.zip vals).length) iv.rep iv.ok K.hN chk ha hc hoc hcd hw henv.symm B (List.map_fst_zip (by rw [hl]; exact Nat.le_refl _)) hns hsb
  have tp : Top env' (K.A.deeper env') := let ⟨fr, h, _⟩ := iv.ok.frames; ⟨fr, Around.frames_deeper h⟩
  have hs : ∀ o, K.X.at a = some o → o = oc := fun o e => by
    have := iv.rep.keepA a o e
    rw [hoc] at this; cases this; rfl
  refine wpN_mono (h ⟨K.X.frz a oc, env', K.A.deeper env', n, K.hP, K.F.frz a oc, Nat.le_refl n⟩ ρ _ i' tp) fun fl s' dd => ?_
  cases dd with
  | mk fl b σ' ρ' q i₂ g v =>
    have r₂ := i₂.rep.thawC (at_frz_same hs) hs
    have g0 : Grow (Own fn.scope env') ρ s ρ { s with heap := h', toks := s.toks + (fn.params.zip vals).length } := Grow.ext keep rfl rfl
    have g2 : Grow noOwn ρ s ρ' s' := (g0.trans g).own fun b hb => .inr (by
      rcases hb with rfl | ⟨z, hz, _⟩
      · rw [← henv]; exact Heap.noneOf (Nat.le_refl _)
      · exact absurd rfl (chk.names _ (lookup_mem hz)).1)
    have j := iv.step g2 r₂
    cases fl with
    | ret w => obtain ⟨u, rfl, hu⟩ := v; exact ⟨u, rfl, w, bs, σ', ρ', q, j, g2.weaken, hu⟩
    | next => cases v; exact ⟨.none, rfl, .none, bs, σ', ρ', q, j, g2.weaken, rfl⟩
    | brk => exact q.elim
    | cont => exact q.elim
end H
end Mine
end

section
namespace Mine
open PySem PySem.W PyProof.Rows PySem.Calls
structure MkrTxt (fn fi : Fn) (y nm : Str) (args : Arguments) (pos p3 p4 : Pos) : Prop where
  params : fn.params = [y]
  va : fn.vararg = Option.none
  body : fn.body = [.FunctionDef nm args fi.body [] none [] fi.scope none nm pos, .Return (some (.Name nm p3)) p4]
  cells : ∀ L, cellsFrom L fn.scope.names [] = [(y, L)]
  nmL : fn.scope.names.lookup nm = some .local
  ycell : fn.scope.names.lookup y = some .cell
  plain : (nm == ("__debug__" : Str)) = false
  dflt : ∀ env, defaultsOf args env = ([], [])
  ann : ∀ env, annTrees args none env = []
  free : ∀ p ∈ fi.scope.names, p.2 = .free → p.1 = y
  clos : ∀ env a, env.cells.lookup y = some a → closOf env fi.scope.names [] = [(y, a)]
  ps : fi.params = args.args.map (·.arg)
  pos0 : args.posonlyargs = []
  kw0 : args.kwonlyargs = []
  kw1 : args.kwarg = Option.none
  va1 : args.vararg = Option.none
  co : fi.scope.isCoroutine = false
  gen : fi.scope.isGenerator = false
theorem mkr_body {prog : Program} {w : World} {A : Around} {env : Env} {s : Shared} {fn fi : Fn} {y nm : Str} {args : Arguments} {pos p3 p4 : Pos} {c p cA : Addr} {mg m : Str → Option Value} {Q : Flow → Shared → Prop} (T : MkrTxt fn fi y nm args pos p3 p4)
    (hk : env.scope.kind = .function) (hnm : env.kindOf nm = some .local) (hglob : env.globals = mainGlobals) (hcode : env.code = .ref c) (C : CodeHd s.heap c p) (hP : s.heap.get? p = some (tabObj #[])) (hg : s.heap.Ns mainGlobals mg)
    (hgp : mainGlobals ≠ p) (hb : s.heap.BuiltinsAt mg p) (hcell : env.cells.lookup y = some cA) (hL : s.heap.Ns env.locals m) (hLp : env.locals ≠ p)
    (h : ∀ c' F q fd ps s', (∀ b o, b ≠ p → b ≠ env.locals → s.heap.get? b = some o → s'.heap.get? b = some o) → s'.heap.get? p = some (tabObj ps) → s'.heap.CodeRec (.ref c') q → s.heap.objs.size ≤ c' → c' < F →
      s'.heap.get? F = some { cls := .type "function", data := .func fd } → ClosOk fi y q cA c' fd → (∃ o, s'.heap.get? env.locals = some o) → s'.gens = s.gens → s'.os = s.os → Q (.ret (.ref F)) s') :
    wpN (model prog w) A (PySem.execs fn.body env) Q s := by
  rw [T.body]
  refine wpN_any ?_
  rw [arm_execs_cons, exec_def, T.dflt, T.ann]
  refine wpAny_bind (wpAny_bind (wpAny_standAt (wpAny_bind (wpAny_holding (wpAny_bind (wpAny_pure (wpAny_bind (wpAny_holding (wpAny_pure (wpAny_holding (wpAny_bind (wpAny_pure ?_))))))))))))
  have hcl : closureFor fi.scope env = pure [(y, cA)] := by
    rw [closureFor_of fun q hq hf => ⟨cA, by rw [T.free q hq hf]; exact hcell⟩, T.clos env cA hcell]
  refine makeFunction_K hcl hglob hg hcode C hP trivial rfl hgp hb fun c' ctv doc h' tk hx hge hlt hrec htb => ?_
  have hcp : c' ≠ p := fun q => by
    have := Heap.lt_size hP
    lia
  have hLlt : env.locals < h'.objs.size := (hL.extBut hx hLp).lt
  refine wpAny_bind (wpAny_standAt (wpAny_bind (wpAny_bindName (wpAny_storeName_local hnm ((hL.extBut hx hLp).push _) (fun h'' hn'' hs'' => wpAny_pure ?_) (by rw [hk]; rfl)))))
  dsimp only
  rw [arm_execs_cons, exec_Return_some]
  refine wpAny_bind (wpAny_bind (wpAny_standAt (wpAny_bind (wpAny_Name (wpAny_loadName_local hk hnm hn'' (if_pos rfl) (wpAny_pure (wpAny_pure ?_))) T.plain))))
  have hsz : s.heap.objs.size ≤ h'.objs.size := Nat.le_trans hge (Nat.le_of_lt hlt)
  have ne : ∀ b, b < h'.objs.size → b ≠ h'.objs.size := fun b hb => Nat.ne_of_lt hb
  have hP2 := hs''.extBut p _ (Ne.symm hLp) (Heap.get?_push_of_some _ htb)
  have hF2 := hs''.extBut _ _ (Nat.ne_of_gt hLlt) (Heap.get?_push_size _ rfl)
  refine h c' h'.objs.size (qualnameIn env nm nm) _ _ _ (fun b o hbp hbl e => hs''.extBut b o hbl (Heap.get?_push_of_some _ (hx b o hbp e))) hP2 ?_ hge hlt hF2 ⟨rfl, T.co, T.gen, rfl, rfl, rfl, rfl, rfl, rfl, T.pos0, T.ps.symm, T.kw0, T.kw1, T.va1, rfl⟩ (Heap.Ns.there hn'') rfl rfl
  obtain ⟨c₂, o₂, vs₂, t₂, e₂, g₂, r₂⟩ := hrec
  refine ⟨c₂, o₂, vs₂, t₂, e₂, hs''.extBut _ _ (fun q => ?_) (Heap.get?_push_of_some _ g₂), r₂⟩
  cases e₂
  have := hL.lt
  lia
theorem Rep.set_tab {X : Cx} {ρ : List Addr} {σ : Store} {h h' : Heap} {t : Nat} {p : Addr} {ps : Array Value} (r : Rep X ρ σ h) (hp : ρ[t]? = some p) (ht : σ[t]? = some (.tab t p)) (k : ∀ b o, b ≠ p → h.get? b = some o → h'.get? b = some o) (hg : h'.get? p = some (tabObj ps)) : Rep X ρ (σ.set t .grown) h' :=
  r.put hp ht rfl k hg ⟨ps, rfl⟩
namespace H
variable {P : Prog} {n : Nat} {sc : Scope} {α β γ δ : Type} {bs bs' : Bs} {σ : Store} {Q : α → Bs → Store → Prop}
theorem hx_maker {a p : Addr} {fn fi : Fn} {y nm : Str} {args : Arguments} {pos p3 p4 : Pos} {t : Nat} {v : AV} {Q : AV → Bs → Store → Prop} (hm : P.maker a = some p) (hf : P.fn a = some fn) (hdf : P.dflt a = []) (T : MkrTxt fn fi y nm args pos p3 p4) (ht : σ[t]? = some (.tab t p))
    (h : ∀ q, Q (.ref (σ.length + 2)) bs (σ.set t .grown ++ [.cell v] ++ [.code q] ++ [.clos fi y q σ.length (σ.length + 1)])) : Hx (callA P (n + 1) a [v] : Mm P (n + 1) sc AV) bs σ Q := fun K ρ s i => by
  obtain ⟨o, fd, D, ok⟩ := K.F.fn a fn (by rw [K.hP]; exact hf)
  have mk := K.F.mkr a p (by rw [K.hP]; exact hm)
  obtain ⟨c, hcode, C⟩ := mk.code o fd ok.obj ok.data
  refine ⟨⟨o, fd, ok.obj, ok.data⟩, fun vals hv => ?_⟩
  have hvl := hv.length
  obtain ⟨u, rfl⟩ : ∃ u, vals = [u] := List.length_eq_one_iff.mp hvl
  have hvu : VRep ρ v u := hv.1
  have hdl := (ok.dreps ρ).length
  rw [K.hP, hdf] at hdl
  obtain rfl : D = [] := List.eq_nil_of_length_eq_zero hdl
  have sh := ok.shape
  rw [T.params, T.va] at sh
  obtain ⟨p', op, hp, hop, hpp, rfl⟩ := i.rep.at ht
  rw [hp] at hpp; cases hpp
  refine call_open i ok (wpN_any (wp_bindArgs sh (List.Pairwise.cons (fun _ h => nomatch h) List.Pairwise.nil) (ok.dflt.keeps i.rep.keep) (Nat.zero_le _) (Nat.le_refl _) (Nat.zero_le _) ?_))
  show wpN _ _ _ _ _
  rw [ok.clo]
  have hk := ok.names.kind
  have hL : s.heap.get? s.heap.objs.size = Option.none := Heap.noneOf (Nat.le_refl _)
  refine wpN_any (wpAny_newFunctionEnv_cells (by rw [ok.scope]; exact hk) (fun z hz => ?_) fun env' he s₁ x => ?_)
  · obtain rfl : z = (y, u) := List.mem_singleton.mp hz
    rw [ok.scope]
    exact .inr ⟨T.ycell, by rw [T.cells]; simp [List.lookup_cons]⟩
  have hsc : env'.scope = fn.scope := by rw [he]; exact ok.scope
  have hcl : env'.cells = [(y, s.heap.objs.size + 1)] := by rw [he]; show cellsFrom _ fd.scope.names [] = _; rw [ok.scope, T.cells]
  have hlo : env'.locals = s.heap.objs.size := by rw [he]; rfl
  have hgl : env'.globals = mainGlobals := by rw [he]; exact ok.glob
  have hcd : env'.code = .ref c := by rw [he]; exact hcode
  clear he
  have keep := x.toInCall.keep
  have keep0 : ∀ b o, K.X.h₀.get? b = some o → s₁.heap.get? b = some o := fun b o e => keep b o (i.rep.keep b o e)
  refine ⟨K.F.limit.keeps keep0, codeN_func ?_⟩
  obtain ⟨mg, mb, hmg, _⟩ := K.F.glob
  have hyc : env'.cells.lookup y = some (s.heap.objs.size + 1) := by rw [hcl]; simp [List.lookup_cons]
  have hcell : s₁.heap.IsCell (s.heap.objs.size + 1) (bindC env'.kindOf [(y, u)] (fun _ => Option.none) y) := x.cell y _ hyc
  have hky : env'.kindOf y = some .cell := by unfold Env.kindOf; rw [hsc]; exact T.ycell
  rw [bindC_get hky [(y, u)] (fun _ => Option.none) (List.Pairwise.cons (fun _ h => nomatch h) List.Pairwise.nil)] at hcell
  have hplt := Heap.lt_size hop
  obtain ⟨h1, tk1, e1⟩ := x.toInCall.same
  refine mkr_body (cA := s.heap.objs.size + 1) T (by rw [hsc]; exact hk) (by unfold Env.kindOf; rw [hsc]; exact T.nmL) hgl hcd (C.keeps keep0) (keep _ _ hop) (hmg.keeps keep0) mk.glob ((mk.bi mg hmg).keeps keep0) hyc x.toInCall.ns (by rw [hlo]; lia)
    fun c' F q fd' ps s' k htab hrec hge hlt hF hclos hLs hgn hos => ?_
  have hs1 : s.heap.objs.size + 1 < s₁.heap.objs.size := hcell.lt
  have k' : ∀ b o, b ≠ p → s.heap.get? b = some o → s'.heap.get? b = some o := fun b o hb e => k b o hb (by have := Heap.lt_size e; rw [hlo]; lia) (keep b o e)
  have hcell' : s'.heap.IsCell (s.heap.objs.size + 1) (some u) := by
    obtain ⟨oc, h1, h2⟩ := hcell
    refine ⟨oc, k _ _ (by lia) (by rw [hlo]; lia) h1, ?_⟩
    rw [h2]; simp [List.lookup_cons]
  obtain ⟨oc, hoc, hocd⟩ := hcell'
  obtain ⟨c₂, od, vs, tq, e₂, hod, hvs, hv1⟩ := hrec
  cases e₂
  have fresh : ∀ b, s.heap.objs.size ≤ b → b ∉ ρ ∧ K.X.at b = Option.none ∧ s.heap.get? b = Option.none := fun b hb => by
    have h1 : s.heap.get? b = Option.none := Heap.noneOf hb
    refine ⟨fun h => ?_, ?_, h1⟩
    · obtain ⟨o, ho⟩ := i.rep.there h
      rw [ho] at h1; cases h1
    · cases e : K.X.at b with
      | none => rfl
      | some o => rw [i.rep.keepA _ _ e] at h1; cases h1
  obtain ⟨f1, f2, f3⟩ := fresh (s.heap.objs.size + 1) (Nat.le_succ _)
  obtain ⟨g1, g2, g3⟩ := fresh c' (by lia)
  obtain ⟨d1, d2, d3⟩ := fresh F (by lia)
  have hlen := i.rep.len
  have r0 := i.rep.set_tab hp ht k' htab
  have r1 := r0.adopt (ao := .cell v) f1 f2 hoc ⟨u, hocd, hvu.mono (List.prefix_append ..)⟩
  have r2 := r1.adopt (ao := .code q) (by rw [List.mem_append, List.mem_singleton]; exact fun h => h.elim g1 fun h => by lia) g2 hod ⟨vs, tq, hvs, hv1⟩
  have r3 := r2.adopt (ao := .clos fi y q σ.length (σ.length + 1)) (by rw [List.mem_append, List.mem_append, List.mem_singleton, List.mem_singleton]; exact fun h => h.elim (fun h => h.elim d1 fun h => by lia) fun h => by lia) d2 hF
    ⟨_, _, fd', by rw [← hlen]; simp, by rw [← hlen]; simp, rfl, hclos⟩
  have gr : Grow noOwn ρ s (ρ ++ [s.heap.objs.size + 1] ++ [c'] ++ [F]) s' :=
    Grow.adopt (Grow.adopt (Grow.adopt ⟨List.prefix_rfl, fun _ hb => .inl hb, fun b o e => (if hb : b = p then ⟨_, hb ▸ htab⟩ else ⟨o, k' b o hb e⟩), fun b o e hn _ => ⟨o, k' b o (fun q => hn (q ▸ List.mem_of_getElem? hp)) e, .refl o⟩, by rw [hgn, e1], by rw [hos, e1]⟩ f3) g3) d3
  have j := i.step gr r3
  exact ⟨_, rfl, _, bs, _, _, h q, j, gr.weaken, F, by rw [← hlen]; simp, rfl⟩
end H
end Mine
end

section
namespace Mine.H
open PySem PySem.W PyProof.Rows PySem.Calls
variable {P : Prog} {n : Nat} {sc : Scope} {α β γ δ : Type} {bs bs' : Bs} {σ : Store} {Q : α → Bs → Store → Prop}
theorem hx_tup {es : List Expr} {c : Nat} {p : Pos} {Q : AV → Bs → Store → Prop} (h : Hx (evs P n sc es) bs σ fun vs bs' σ' => Hx (newT vs : Mm P n sc AV) bs' σ' Q) : Hx (ev P n sc (.Tuple es c p)) bs σ Q := fun K ρ s i => by
  show wpN _ _ (PySem.eval _ _) _ _
  rw [arm_eval_Tuple]
  exact wpN_stand (thenP (h K ρ s i p) fun vs _ _ ρ₁ xs t₁ h i₁ p₁ hx => h K ρ₁ t₁ i₁ xs hx)
noncomputable def pairOk (sc : Scope) (x y : Str) (px py : Pos) (a b : Expr) : Bool :=
  sc.names.lookup x == some .local && sc.names.lookup y == some .local && x != y && px.line == py.line && !isStar a && !isStar b && !([a, b].all (foldedForSure 8)) && !([a, b].all (constantsAlone 8))
theorem swapped_pair {env : Env} {x y : Str} {px py tp vp : Pos} {a b : Expr} {c1 c2} (h : pairOk sc x y px py a b = true) (hk : env.scope.kind = .function) (k1 : env.kindOf x = some .local) (k2 : env.kindOf y = some .local) :
    swappedStores [.Tuple [.Name x px, .Name y py] c1 tp] (.Tuple [a, b] c2 vp) env = pure (some [x, y]) := by
  unfold pairOk at h
  simp only [Bool.and_eq_true, Bool.not_eq_true', beq_iff_eq, bne_iff_ne] at h
  obtain ⟨⟨⟨⟨⟨⟨⟨h1, h2⟩, h3⟩, h4⟩, h5⟩, h6⟩, h7⟩, h8⟩ := h
  have hb : env.blockKind = .function := by unfold Env.blockKind; rw [hk]; rfl
  have hl : (px.line == px.line) = true := by simp
  have hl2 : (py.line == px.line) = true := by simp [h4]
  have hst : [a, b].any isStar = false := by simp [h5, h6]
  have hsf : (fun e : Expr => match e with | .Starred .. => true | _ => false) = isStar := by
    funext e; cases e <;> rfl
  have hfm : ([Expr.Name x px, Expr.Name y py].filterMap fun
      | .Name id pos => if env.kindOf id == some .local && pos.line == px.line then some id else none
      | _ => none) = [x, y] := by
    simp [k1, k2, h4]
  have hne : (y == x) = false := by simpa using fun q => h3 q.symm
  unfold swappedStores
  dsimp only
  rw [hb]
  have hfm2 : ([Expr.Name x px, Expr.Name y py].filterMap fun
      | .Name id pos => if env.kindOf id == some .local && pos.line == (Option.map (fun (x : Expr) => x.pos.line) [Expr.Name x px, Expr.Name y py].head?).getD 0 then some id else none
      | _ => none) = [x, y] := hfm
  have hed : [x, y].eraseDups = [x, y] := by
    rw [List.eraseDups_cons]
    have : (y == x) = false := hne
    simp [this]
    rw [List.eraseDups_cons]; simp
  have hstL : ([a, b].any fun e : Expr => match e with | .Starred .. => true | _ => false) = false := by rw [hsf]; exact hst
  refine (if_neg ?_).trans ?_
  · simp
  refine (if_neg ?_).trans ?_
  · intro q; exact absurd (q.symm.trans hstL) (by decide)
  refine (if_neg ?_).trans ?_
  · have e1 : ((2 : Nat) != 2 || ([x, y] : List Str).eraseDups.length != ([x, y] : List Str).length) = false := by rw [hed]; rfl
    intro q
    have e2 : ((([Expr.Name x px, Expr.Name y py].filterMap fun
      | .Name id pos => if env.kindOf id == some .local && pos.line == (Option.map (fun (x : Expr) => x.pos.line) [Expr.Name x px, Expr.Name y py].head?).getD 0 then some id else none
      | _ => none).length != 2) || (([Expr.Name x px, Expr.Name y py].filterMap fun
      | .Name id pos => if env.kindOf id == some .local && pos.line == (Option.map (fun (x : Expr) => x.pos.line) [Expr.Name x px, Expr.Name y py].head?).getD 0 then some id else none
      | _ => none).eraseDups.length != ([Expr.Name x px, Expr.Name y py].filterMap fun
      | .Name id pos => if env.kindOf id == some .local && pos.line == (Option.map (fun (x : Expr) => x.pos.line) [Expr.Name x px, Expr.Name y py].head?).getD 0 then some id else none
      | _ => none).length)) = false := by rw [hfm2, hed]; rfl
    exact absurd (q.symm.trans e2) (by decide)
  refine (if_neg ?_).trans ?_
  · rw [h7]; decide
  refine (if_neg ?_).trans ?_
  · rw [h8]; decide
  exact congrArg (fun l => pure (some l)) hfm2


theorem vreps_two {ρ : List Addr} {v u : AV} {xs : List Value} (h : VReps ρ [v, u] xs) : ∃ z1 z2, xs = [z1, z2] ∧ VRep ρ v z1 ∧ VRep ρ u z2 := by
  cases xs with
  | nil => exact h.elim
  | cons z1 l => cases l with
    | nil => exact h.2.elim
    | cons z2 l => cases l with
      | nil => exact ⟨z1, z2, rfl, h.1, h.2.1⟩
      | cons z3 l => exact h.2.2.elim
theorem hs_pair {a b : Expr} {x y : Str} {px py tp vp pos : Pos} {c1 c2} {Q : Fl → Bs → Store → Prop} (hp : pairOk sc x y px py a b = true) (h : Hx (ev P n sc a) bs σ fun v bs' σ' => Hx (ev P n sc b) bs' σ' fun u bs'' σ'' => Q .next ((x, v) :: (y, u) :: bs'') σ'') :
    Hx (exec P n sc (.Assign [.Tuple [.Name x px, .Name y py] c1 tp] (.Tuple [a, b] c2 vp) pos)) bs σ Q := fun K ρ s i tpE => by
  have hq : sc.names.lookup x = some .local ∧ sc.names.lookup y = some .local ∧ isStar a = false ∧ isStar b = false := by
    unfold pairOk at hp
    simp only [Bool.and_eq_true, Bool.not_eq_true', beq_iff_eq, bne_iff_ne] at hp
    exact ⟨hp.1.1.1.1.1.1.1, hp.1.1.1.1.1.1.2, hp.1.1.1.2, hp.1.1.2⟩
  obtain ⟨hx, hy, ha, hb⟩ := hq
  show wpN _ _ (PySem.exec _ _) _ _
  rw [PyProof.Rows.exec_Assign]
  have hsw : swapsWithSole [.Tuple [.Name x px, .Name y py] c1 tp] (.Tuple [a, b] c2 vp) pos.line K.env = pure false := rfl
  rw [hsw, swapped_pair hp i.fr.kind (kind_of i.fr hx (by decide)) (kind_of i.fr hy (by decide)), arm_eval_Tuple]
  refine wpN_stand (wpN_bind (wpN_pure (wpN_false rfl ?_)))
  have hs : Hx (evs P n sc [a, b]) bs σ fun vs bs'' σ'' => ∃ v u, vs = [v, u] ∧ Q .next ((x, v) :: (y, u) :: bs'') σ'' :=
    hx_evs1 ha (Hx.mono h fun v _ _ h => hx_evs1 hb (Hx.mono h fun u _ _ h => hx_evs0 ⟨v, u, rfl, h⟩))
  refine wpN_bind (wpN_stand (wpN_bind (wpN_mono (hs K ρ s i vp) fun xs t d => ?_)))
  cases d with
  | mk vs b₁ σ₁ ρ₁ q i₁ g₁ hr =>
  obtain ⟨v, u, rfl, q⟩ := q
  obtain ⟨z1, z2, rfl, hz1, hz2⟩ : ∃ z1 z2, xs = [z1, z2] ∧ VRep ρ₁ v z1 ∧ VRep ρ₁ u z2 := by
    exact vreps_two hr
  refine wpN_any (wpAny_newTuple ?_ (by size_fits))
  have i₂ : K.I ρ₁ b₁ σ₁ { t with heap := t.heap.push { cls := .type "tuple", data := .seq [z1, z2].toArray } } := Inv.ext i₁ (push_keeps _ _) rfl rfl
  have g₂ : Grow (Own sc K.env) ρ s ρ₁ { t with heap := t.heap.push { cls := .type "tuple", data := .seq [z1, z2].toArray } } := g₁.trans (Grow.ext (push_keeps _ _) rfl rfl)
  refine wpN_bind (wpN_pure ?_)
  show wpN _ _ (do rule "assign.swapped-stores"; let items ← unpackItems (.ref t.heap.objs.size) 2 none; assignInOrder ([x, y].reverse.map fun n => bindName K.env n) items.reverse; pure Flow.next) _ _
  refine wpN_bind (wpN_rule (wpN_bind (wpN_any ?_)))
  refine PyProof.Rows.unpackItems_tuple (items := #[z1, z2]) i.ok.handled ⟨_, Heap.get?_push_size _ rfl, rfl, _, rfl⟩ fun h' he => ?_
  have kp : ∀ b o, (t.heap.push { cls := .type "tuple", data := .seq [z1, z2].toArray }).get? b = some o → h'.get? b = some o := fun b o e => he b o (Nat.ne_of_lt (Heap.lt_size e)) e
  have i₃ := Inv.ext (s' := { t with heap := h' }) i₂ kp rfl rfl
  have g₃ : Grow (Own sc K.env) ρ s ρ₁ { t with heap := h' } := g₂.trans (Grow.ext (s' := { t with heap := h' }) kp rfl rfl)
  show wpN _ _ ((do holding [z1] (bindName K.env y z2); (do holding [] (bindName K.env x z1); pure ())) >>= fun _ => pure Flow.next) _ _
  refine wpN_bind (wpN_bind (wpN_holding (wpN_mono (wpN_any (wpAny_bindName (wp_store i₃ hz2 (.inl hy)))) fun _ t₄ d₄ => ?_)))
  obtain ⟨i₄, g₄⟩ := d₄
  refine wpN_bind (wpN_holding (wpN_mono (wpN_any (wpAny_bindName (wp_store i₄ hz1 (.inl hx)))) fun _ t₅ d₅ => wpN_pure (wpN_pure ?_)))
  obtain ⟨i₅, g₅⟩ := d₅
  exact ⟨.next, _, _, ρ₁, q, i₅, g₃.trans (g₄.trans g₅), rfl⟩
theorem dict1_shape (k : Int) (c1 : Nat) (c2 lp pos : Pos) (env : Env) : (evalEachOpt [some (Expr.Constant (.int k) c1 c2)] env).zip ((evalEach [Expr.List [] lp] env).map fun v => do let x ← v; standAt pos; pure x) = [(PySem.eval (.Constant (.int k) c1 c2) env, do let x ← PySem.eval (.List [] lp) env; standAt pos; pure x)].map fun p => (some p.1, p.2) := rfl
theorem hx_dict1 {k : Int} {c1 : Nat} {c2 lp pos : Pos} {Q : AV → Bs → Store → Prop} (h : Q (.ref (σ.length + 1)) bs (σ ++ [.list []] ++ [.dict [(k, .ref σ.length)]])) : Hx (ev P n sc (.Dict [some (.Constant (.int k) c1 c2)] [.List [] lp] pos)) bs σ Q := fun K ρ s i => by
  show wpN _ _ (PySem.eval _ _) _ _
  rw [arm_eval_Dict, dict1_shape, dictDisplay_pairs _ (by simp) (by simp)]
  refine wpN_stand ?_
  refine wpN_any ?_
  refine wpAny_bind ?_
  have sub := wpAny_subDict (knd := intKind K.X.prog K.X.w) (A := K.A) (E := fun _ _ => False) (s := s) (Q := fun d s' => wpAny (model K.X.prog K.X.w) K.A (pure (Value.ref d)) (PostK K ρ s VRep Q) (fun _ _ => False) s')
    (pairs := [(PySem.eval (.Constant (.int k) c1 c2) K.env, do let x ← PySem.eval (.List [] lp) K.env; standAt pos; pure x)]) (by simp)
  refine sub ?_
  clear sub
  refine evalPairs_cons ?_
  rw [arm_eval_Constant]
  refine wpAny_mkInt ?_
  rw [arm_eval_List]
  refine wpAny_bind (wpAny_bind (wpAny_standAt (wpAny_bind (wpAny_of_eq (a := []) rfl ?_))))
  refine wpAny_newObj_type (wpAny_bind (wpAny_standAt (wpAny_pure ?_))) (by size_fits)
  refine evalPairs_nil ?_
  have hD : s.heap.get? s.heap.objs.size = none := Heap.noneOf (Nat.le_refl _)
  generalize hh1 : s.heap.push { cls := .type "dict", data := .dict #[] } = h1
  have hz1 : h1.objs.size = s.heap.objs.size + 1 := by rw [← hh1, Heap.size_push]
  have k1 : ∀ b o, s.heap.get? b = some o → h1.get? b = some o := fun b o e => hh1 ▸ Heap.get?_push_of_some _ e
  have dn : h1.DictOf (intKind K.X.prog K.X.w) s.heap.objs.size [] := hh1 ▸ Heap.DictOf.new s.heap
  have hLn : s.heap.get? h1.objs.size = none := Heap.noneOf (by rw [hz1]; exact Nat.le_succ _)
  refine ⟨[(k, .ref h1.objs.size)], ⟨intKind_is K.X.prog K.X.w k _, rfl, trivial⟩, dn.push _, fun h' hd' hs' => wpAny_pure ?_⟩
  have k2 : ∀ b o, s.heap.get? b = some o → h'.get? b = some o := fun b o e => (hs'.2 b (Nat.ne_of_lt (Heap.lt_size e))).trans (Heap.get?_push_of_some _ (k1 b o e))
  have hLat : h'.get? h1.objs.size = some { cls := .type "list", data := .seq ([] : List Value).toArray } := (hs'.2 _ (by rw [hz1]; exact Nat.succ_ne_self _)).trans (Heap.get?_push_size _ rfl)
  have rL := i.rep.alloc (h' := h') (a := h1.objs.size) (ao := .list []) k2 hLn hLat ⟨⟨_, _, rfl, trivial⟩, Nat.zero_le _⟩
  have hDn : s.heap.objs.size ∉ ρ ++ [h1.objs.size] := fun q => by
    rcases List.mem_append.mp q with q | q
    · obtain ⟨o, ho⟩ := i.rep.there q
      rw [hD] at ho; cases ho
    · simp only [List.mem_singleton] at q
      exact Nat.succ_ne_self _ (hz1.symm.trans q.symm)
  have hX : K.X.at s.heap.objs.size = none := (Apart.of i hD).base
  have hvl : VRep (ρ ++ [h1.objs.size]) (.ref σ.length) (.ref h1.objs.size) := vrep_new i _
  obtain ⟨oD, hoD, hrD⟩ := dictOf_obj (ρ := (ρ ++ [h1.objs.size]) ++ [s.heap.objs.size]) (es := [(k, .ref σ.length)]) hd' ⟨rfl, hvl.mono (List.prefix_append ..), trivial⟩ (by simp)
  have rD := rL.adopt hDn hX hoD hrD
  have g : Grow noOwn ρ s ((ρ ++ [h1.objs.size]) ++ [s.heap.objs.size]) { s with heap := h', toks := s.toks + 1 + 1 } := by
    refine ⟨(List.prefix_append ..).trans (List.prefix_append ..), fun b hb => ?_, fun b o e => ⟨o, k2 b o e⟩, fun b o e _ _ => ⟨o, k2 b o e, .refl o⟩, rfl, rfl⟩
    rcases List.mem_append.mp hb with hb | hb
    · rcases List.mem_append.mp hb with hb | hb
      · exact .inl hb
      · simp only [List.mem_singleton] at hb; subst hb; exact .inr hLn
    · simp only [List.mem_singleton] at hb; subst hb; exact .inr hD
  exact ⟨_, bs, _, _, h, i.step g rD, g.weaken, s.heap.objs.size, by rw [← i.rep.len]; simp, rfl⟩
end Mine.H
end

section
namespace Mine.H
open PySem PySem.W PyProof.Rows PySem.Calls
variable {P : Prog} {n : Nat} {sc csc : Scope} {bs bs' B : Bs} {σ : Store} {Q : List AV → Bs → Store → Prop}
inductive CInv2 (K : Cfg P n csc) (ρ : List Addr) (s : Shared) (It D : Addr) (p : Array Value) (St : Nat → Heap → Prop) (xs : List Item) (B : Bs) (I : List AV → List Item → Store → Prop) (m : Nat) (s' : Shared) : Prop
  | mk (k : Nat) (ρ' : List Addr) (bs' : Bs) (σ' : Store) (a : List AV) (ys : Array Value) (t : Turn K ρ s It St k ρ' bs' σ' s') (ac : Acc p s' ρ' D a ys) (hk : k ≤ xs.length) (hm : m = xs.length - k) (hI : I a (xs.drop k) σ') (hb : Sub B bs')
def HxRun2 (P : Prog) (n : Nat) (csc : Scope) (t : Expr) (ifs : List Expr) (elt : Expr) (src : AV) (bs : Bs) (σ : Store) (Q : List AV → Bs → Store → Prop) : Prop :=
  ∃ i o xs, src = .ref i ∧ Src σ i o xs ∧ Hx (compItems P n csc [] i o t ifs elt xs) bs σ Q
theorem inner_run {K : Cfg P n csc} {ρ : List Addr} {s : Shared} {a : List AV} {ys p : Array Value} {D d : Nat} {gens : List Comprehension} {t2 it2 elt : Expr} {ifs2 : List Expr} {scope : Scope} {pos : Pos} {src : AV} {u : Value} {R : Flow → Shared → Prop} (i : K.I ρ bs σ s) (ac : Acc p s ρ D a ys) (hu : VRep ρ src u) (apD : Apart K.X csc K.env K.A D) (hz : (p ++ ys).size ≤ 2 ^ 21)
    (hg : gens[d]? = some ⟨t2, it2, ifs2, 0⟩) (hg1 : gens.drop (d + 1) = []) (h : HxRun2 P n csc t2 ifs2 elt src bs σ Q)
    (k : ∀ vs b' σ' ρ' ys' f s', Q vs b' σ' → K.I ρ' b' σ' s' → Grow (Own csc K.env) ρ { s with heap := s.heap.hide D } ρ' s' → Acc p s' ρ' D (a ++ vs) (ys ++ ys') → R f s') :
    wpN K.M K.A (pyIter u) (fun it s' => wpN K.M K.A (runOwn (.compStart (.ListComp elt gens scope pos) d it (.ref D) K.env) K.env) R s') s := by
  obtain ⟨i2, o2, xs2, rfl, hS, hx⟩ := h
  refine wpN_any (iter_of hS i hu fun s₁ I ax St F => wpN_runOwn ?_)
  obtain ⟨m, hoD⟩ := ac.l
  have hID : I ≠ D := fun q => by rw [← q, F.new] at hoD; cases hoD
  have kp : ∀ b o, b ≠ D → s.heap.get? b = some o → (s.heap.hide D).get? b = some o := fun b o hb e => (Heap.hide_ne s.heap hb).trans e
  have i' : K.I ρ bs σ { s with heap := s.heap.hide D } := i.hid (s' := { s with heap := s.heap.hide D }) apD ac.n kp
  have hI0 : (s.heap.hide D).get? I = none := (Heap.hide_ne s.heap hID).trans F.new
  have F' : FeedAt K ρ { s with heap := s.heap.hide D } s₁ i2 o2 xs2 I ax St := ⟨F.feed, hI0, fun b ob e => F.keep b ob (Heap.of_hide e), F.gens, F.os, F.at_, F.st, F.len⟩
  have main := hx K ρ _ i' s₁ I ax St D (p ++ ys) gens d it2 scope pos F' (Heap.hide_self ..) ⟨m, F.keep _ _ hoD⟩ (by rw [List.length_nil, Nat.pow_zero, Nat.mul_one]; exact hz) hID hg hg1
  refine codeN_mono (codeN_compStart hg main (wpN_any (F.feed.self 0 K.A _ _ F.st main))) fun f s' q => ?_
  obtain ⟨zs, hl, q⟩ := q
  cases q with
  | mk vs b₃ σ₃ ρ₃ q i₃ g₃ v =>
    refine k vs b₃ σ₃ ρ₃ zs f s' q i₃ g₃ ⟨by rw [← Array.append_assoc]; exact hl, v.1, ?_⟩
    rw [Array.toList_append]
    exact (ac.v.mono g₃.pre).append v.2
theorem hx_compItems2 {j : Nat} {o : AO} {target t2 it2 elt : Expr} {ifs2 : List Expr} {I : List AV → List Item → Store → Prop} (h2 : notSet it2 = true) (hw : ∀ a r σ, I a r σ → σ[j]? = some o ∧ a.length ≤ 2 ^ 20)
    (hs : ∀ a x r σ, I a (x :: r) σ → ∃ bs', Binds csc target x B bs' ∧ Hx (ev P n csc it2) bs' σ fun src bs₂ σ₂ => HxRun2 P n csc t2 ifs2 elt src bs₂ σ₂ fun vs bs₃ σ₃ => Sub B bs₃ ∧ I (a ++ vs) r σ₃) (xs : List Item) (σ : Store) (bs : Bs) (hI : I [] xs σ) (hb : Sub B bs)
    (he : ∀ vs σ' bs', I vs [] σ' → Sub B bs' → Q vs bs' σ') : Hx (compItems P n csc [⟨t2, it2, ifs2, 0⟩] j o target [] elt xs) bs σ Q := fun K ρ s i s₁ It ax St D p gens d iter scope pos F hD hac hp hID hg hg1 => by
  have hp : p.size * 2 ≤ 2 ^ 21 := hp
  have ap := Apart.of i F.new
  have apD := Apart.of i hD
  have hDn : D ∉ ρ := fun q => by obtain ⟨o, e⟩ := i.rep.there q; rw [hD] at e; cases e
  have hg2 : gens[d + 1]? = some ⟨t2, it2, ifs2, 0⟩ := by rw [← List.getElem?_drop (xs := gens) (i := d + 1) (j := 0), hg1]; rfl
  have hg3 : gens.drop (d + 1 + 1) = [] := by rw [← List.drop_drop, hg1]; rfl
  refine codeN_loop rfl rfl (CInv2 K ρ s It D p St xs B I) (fun m s' q => ?_) xs.length (.mk 0 ρ bs σ [] #[] (turn_first F i) ⟨by rw [Array.append_empty]; exact hac, hDn, trivial⟩ (Nat.zero_le _) rfl hI hb)
  cases q with
  | mk k ρ' bs' σ' a ys t ac hk hm hI hb =>
  rw [show K.A.under (.compLoop (.ListComp elt gens scope pos) d (.ref It) (.ref D) K.env) = K.A from Around.under_of_weight rfl]
  show wpN _ _ ((compTurn (.ListComp elt gens scope pos) d (.ref It) (.ref D) K.env).onRaise (fun x => do noteFrame x K.env; theTreesLotGoes x)) _ _
  refine wpN_onRaise ?_
  unfold compTurn
  dsimp only
  rw [hg, hg2]
  refine wpN_stand (wpN_false rfl ?_)
  rcases Nat.lt_or_ge k xs.length with hlt | hge
  · rw [List.drop_eq_getElem_cons hlt] at hI
    obtain ⟨b₁, hb₁, hx₁⟩ := hs a _ _ _ hI
    obtain ⟨b₂, hb₂, hs₂⟩ := Binds.sub hb₁ hb
    refine wpN_bind (wpN_mono (turn_draw (R := fun s' => Turn K ρ s It St (k + 1) ρ' b₂ σ' s' ∧ Acc p s' ρ' D a ys) F ap t (List.getElem?_eq_getElem hlt) (hw _ _ _ hI).1 hb₂ fun s₃ t₁ kp => ⟨t₁, ?_⟩) fun r s h => ?_)
    · obtain ⟨m, ho⟩ := ac.l
      obtain ⟨o', ho', hs⟩ := kp D _ ac.n (fun q => q.elim apD.notOwn fun q => hID q.symm) ho
      rw [hs.eq fun es ep q => by cases q] at ho'
      exact ⟨⟨m, ho'⟩, ac.n, ac.v⟩
    obtain ⟨v, rfl, h⟩ := h
    refine wpN_bind (wpN_mono h fun _ t h => wpN_bind (wpN_mono h fun _ s₃ h => ?_))
    obtain ⟨t₁, ac₁⟩ := h
    refine wpN_bind (wpN_pure (wpN_true rfl ?_))
    refine wpN_bind ?_
    refine wpN_mono (Hx.sub hx₁ hs₂ K ρ' s₃ t₁.i) fun u s₄ dd => wpN_stand (wpN_false rfl ?_)
    cases dd with
    | mk src b₄ σ₄ ρ₄ q i₄ g₄ hu =>
    have t₂ := turn_more F ap t₁ g₄ i₄
    have ac₂ := ac₁.keep apD.notOwn g₄
    have hys : ys.size = a.length := by have := ac₂.v.length; rw [Array.length_toList] at this; exact this
    have hal := (hw _ _ _ hI).2
    rw [folded_no h2]
    refine wpN_bind (wpN_pure ?_)
    refine wpN_bind (wpN_holding (wpN_false rfl (wpN_mono (inner_run i₄ ac₂ hu apD (by rw [Array.size_append]; lia) hg2 hg3 q fun vs b₅ σ₅ ρ₅ ys' f s₆ q₅ i₅ g₅ ac₅ => ?_) fun it s' h => wpN_bind h)))
    have kp : ∀ b o, b ≠ D → s₄.heap.get? b = some o → (s₄.heap.hide D).get? b = some o := fun b o hb e => (Heap.hide_ne s₄.heap hb).trans e
    have t₃ : Turn K ρ _ It St (k + 1) ρ₄ b₄ σ₄ { s₄ with heap := s₄.heap.hide D } := ⟨t₂.i.hid (s' := { s₄ with heap := s₄.heap.hide D }) apD ac₂.n kp, t₂.g.but (s'' := { s₄ with heap := s₄.heap.hide D }) hD kp rfl rfl, t₂.n, F.feed.at_ _ _ _ t₂.st fun ob e => kp It ob hID e⟩
    exact wpN_pure (.inl ⟨rfl, xs.length - (k + 1), loop_lt hm hlt, .mk (k + 1) ρ₅ b₅ σ₅ (a ++ vs) (ys ++ ys') (turn_more F ap t₃ g₅ i₅) ac₅ hlt rfl q₅.2 q₅.1⟩)
  · have hkl : k = xs.length := Nat.le_antisymm hk hge
    subst hkl
    rw [List.drop_eq_nil_of_le (Nat.le_refl _)] at hI
    refine wpN_bind (turn_done F ap t (hw _ _ _ hI).1 fun s₂ i₂ g₂ kp => wpN_pure ?_)
    obtain ⟨m, ho⟩ := ac.l
    exact ⟨ys, ⟨m, kp D _ (Ne.symm hID) ho⟩, a, bs', σ', ρ', he a σ' bs' hI hb, i₂, g₂, ac.n, ac.v⟩
end Mine.H
end

section
namespace Mine
open PySem PySem.W PyProof.Rows PySem.Calls
theorem top_call2 {X : Cx} (F : Fx X) {s : Shared} {p : Addr} (hX : X.h₀ = ghostOf s.heap [(185, p)]) (hfz : ∀ b, X.fz b = none) (hp : s.heap.get? p = some (tabObj #[])) {a l : Addr} {fn : Fn} {x : Str} {ns : List Int} {vs : List Value} {n : Nat}
    (hfn : X.P.fn a = some fn) (hpa : fn.params = [x]) (hva : fn.vararg = none) (hdf : X.P.dflt a = []) (hn : 302 + 2 * n < 900 ∧ 24 + 20 * n < 9000)
    (hL : s.heap.IsList l vs.toArray) (hi : IntsAre vs ns) (hlen : ns.length ≤ 1000000)
    (hrun : H.Hx (H.execs X.P n fn.scope fn.body) [(x, .ref 0)] [.flist ns, .tab 1 p] fun fl _ σ' => fl = .ret (.bool true) ∧ σ'[1]? = some .grown) :
    wpN (model X.prog X.w) callerA (call (.ref a) [.ref l]) (fun v s' => v = .bool true ∧ (∀ b o, b ≠ p → s.heap.get? b = some o → s'.heap.get? b = some o) ∧ (∃ ps, s'.heap.get? p = some (tabObj ps)) ∧ s'.os = s.os ∧ s'.gens = s.gens) s := by
  obtain ⟨o, fd, D, ok⟩ := F.fn a fn hfn
  have hD0 : D = [] := by
    have h := (ok.dreps []).length
    rw [hdf] at h
    exact List.eq_nil_of_length_eq_zero h
  subst hD0
  obtain ⟨ol, hol, hlc, m, hld⟩ := hL
  have hlp : l ≠ p := fun q => by
    rw [q, hp] at hol; cases hol; cases hlc
  have gk : ∀ b o, X.h₀.get? b = some o → s.heap.get? b = some o := fun b o e => of_hideAll [p] (by rw [hX] at e; exact e)
  have at0 : ∀ b, X.at b = X.h₀.get? b := fun b => by unfold Cx.at; rw [hfz, Option.or_none]
  have r : Rep X [l, p] [.flist ns, .tab 1 p] s.heap := by
    refine ⟨rfl, by simp [hlp], fun i b bo h1 h2 => ?_, fun i b bo h1 h2 h3 => ?_, fun b o e => gk b o (by rw [← at0]; exact e)⟩
    · match i with
      | 0 => cases h1; cases h2; exact ⟨ol, hol, ⟨⟨_, m, ⟨hlc, hld⟩, H.VReps.of_ints hi⟩, hlen⟩⟩
      | 1 => cases h1; cases h2; exact ⟨_, hp, rfl, rfl⟩
      | i + 2 => cases h1
    · match i with
      | 0 => cases h2; cases h3
      | 1 => cases h1; rw [at0, hX]; exact hideAll_none [p] (.head _)
      | i + 2 => cases h1
  have okA : OkA X callerA (n + 1) [l, p] s.heap := ⟨rfl, by show 301 + _ < _; lia, by show 4 + _ < _; lia, [], rfl, fun e he => by cases he⟩
  refine wpN_call (codeN_mono (?_ : codeN (model X.prog X.w) callerA (.call (.ref a) ⟨[.ref l], []⟩) (fun f s' => f = .ret (.bool true) ∧ (∀ b o, b ≠ p → s.heap.get? b = some o → s'.heap.get? b = some o) ∧ (∃ ps, s'.heap.get? p = some (tabObj ps)) ∧ s'.os = s.os ∧ s'.gens = s.gens) s) fun f s' h => by obtain ⟨rfl, h⟩ := h; exact ⟨rfl, h⟩)
  refine codeN_call_function (by decide) (r.keep _ _ ok.obj) ok.data ok.co ok.gen ok.body (ok.code.keeps r.keep) ?_
  have hD : DfltAt s.heap fd.defaults [] := ok.dflt.keeps r.keep
  have hsh := ok.shape
  rw [hpa, hva] at hsh
  refine wpN_any (wp_bindArgs hsh (by simp) hD (by simp) (by simp) (by simp) ?_)
  rw [ok.clo]
  have hk := ok.names
  rw [hpa, hva] at hk
  have so : ScopeOk fn.scope ([(x, AV.ref 0)].map (·.1)) := hk
  have B : BReps [l, p] [(x, AV.ref 0)] [(x, Value.ref l)] := ⟨rfl, ⟨l, rfl, rfl⟩, trivial⟩
  refine wpN_any (wpAny_newFunctionEnv_cells (by rw [ok.scope]; exact so.kind) (fun y hy => ?_) fun env' he s₁ xc => ?_)
  · have hm : y = (x, Value.ref l) := by simpa using hy
    subst hm
    rw [ok.scope]
    rcases so.params x (.head _) with h | h
    · exact .inl h
    · obtain ⟨c, hc⟩ := cellsFrom_mem fn.scope.names (s.heap.objs.size + 1) [] (.inr (lookup_mem h))
      obtain ⟨c', hc'⟩ := mem_lookup hc
      exact .inr ⟨h, by rw [hc']; rfl⟩
  · have he' : env' = callEnvC fd s.heap.objs.size a := he
    subst he'
    have keep := xc.toInCall.keep
    refine ⟨F.limit.keeps fun b o e => keep _ _ (r.keep b o e), codeN_func ?_⟩
    have i' := frame_start (n := n) r okA (Nat.le_refl _) ok.scope ok.glob ok.bi so B xc
    have tp : Top (callEnvC fd s.heap.objs.size a) (callerA.deeper (callEnvC fd s.heap.objs.size a)) := ⟨[], Around.frames_deeper rfl⟩
    refine wpN_mono (hrun ⟨X, callEnvC fd s.heap.objs.size a, callerA.deeper (callEnvC fd s.heap.objs.size a), n, rfl, F, Nat.le_refl _⟩ _ _ i' tp) fun f s' d => ?_
    cases d with
    | mk fl b σ ρ' q h1 h2 h3 =>
    obtain ⟨q, q1⟩ := q
    subst q
    obtain ⟨v, h3, h4⟩ := h3
    cases h4
    subst h3
    obtain ⟨h5, tk, e1⟩ := xc.toInCall.same
    have hp' : ρ'[1]? = some p := pre_get h2.pre rfl
    obtain ⟨og, hog, ps, rfl⟩ := h1.rep.obj 1 p _ hp' q1
    refine ⟨rfl, fun b o hb e => h1.rep.keep b o ?_, ⟨ps, hog⟩, h2.os.trans (by rw [e1]), h2.gens.trans (by rw [e1])⟩
    rw [hX]
    exact ghost_ne e fun h => hb (List.mem_singleton.mp h)
end Mine
end

section
open PySem PySem.W PyProof.Rows PySem.Calls
namespace Mine.H
noncomputable abbrev cNode : Addr := 49
noncomputable abbrev cSort : Addr := 146
noncomputable abbrev aSwap : Addr := 157
noncomputable abbrev aReduce : Addr := 30
noncomputable abbrev aNodeInit : Addr := 45
noncomputable abbrev aInit : Addr := 82
noncomputable abbrev aGetInfo : Addr := 89
noncomputable abbrev aAdd : Addr := 96
noncomputable abbrev aPrep : Addr := 101
noncomputable abbrev aReady : Addr := 108
noncomputable abbrev aActive : Addr := 115
noncomputable abbrev aDone : Addr := 129
noncomputable abbrev aCycle : Addr := 136
noncomputable abbrev aOrder : Addr := 172
noncomputable abbrev aNeeds : Addr := 162
noncomputable abbrev aMeet : Addr := 167
noncomputable abbrev aTurned : Addr := 179
noncomputable abbrev aExch : Addr := 186
noncomputable abbrev aSlide : Addr := 193
noncomputable abbrev aEvac : Addr := 200
noncomputable abbrev aSlides : Addr := 207
noncomputable abbrev fAdd : Fn := fnOf (meth 9 2)
noncomputable abbrev fDone : Fn := fnOf (meth 9 7)
end Mine.H
end

section
set_option maxHeartbeats 0
open PySem PySem.W PyProof.Rows PySem.Calls
namespace Mine
noncomputable def keep : List Nat := [0, 2, 5, 6, 7, 8, 9, 11, 13, 14, 15, 16, 17, 18, 19, 20, 21]
noncomputable def view : Program := { pw0 with main := { pw0.main with body := keep.map top } }
noncomputable abbrev loose : List Str := ["_initial_missing", "reduce", "_NodeInfo"]
noncomputable abbrev lawRow : OpenRow := PySem.Challenge.rw_op0154_01.row
noncomputable abbrev hookK : Hook := kHook kk kAddrs kAddrs_ok
noncomputable def dLaw : DefRec := ⟨"law", argsOf (top 21), bodyOf (top 21), scopeOf (top 21), ⟨209, 0, 231, 94⟩⟩
noncomputable abbrev kO (P : Params) (i : Nat) : Obj := fragO (kk P) i
noncomputable def cutAt (P : Params) (d c : Obj) (l : List Obj) : Heap := ⟨⟨[boot_o_0 P, boot_o_1 P, boot_o_2 P, d, boot_o_4 P, boot_o_5 P, boot_o_6 P, boot_o_7 P, boot_o_8 P, boot_o_9 P, boot_o_10 P, tpO [], c] ++ l⟩, {}⟩
noncomputable def cutM (P : Params) : List Obj := [coO "<module>" "<module>" 182 1 0 0 11 false vC 185, ⟨.type "frame", none, .plain, #[some (.ref 13), some (.ref 3), some (.ref 3), none, some (.str "__main__" 164), none, some (.ref 0)]⟩, tpO [], flO [], tpO [.str "k" 190], tpO [], fnO "_wall" "_wall" (top 0), kO P 1, kO P 2, kO P 3, kO P 4, tpO [], flO [], tpO [.str "function" 200, .str "sequence" 201, .str "initial" 202, .str "it" 203, .str "value" 204, .str "element" 205], tpO [], fnO "reduce" "reduce" (top 3), kO P 5, kO P 6, tpO [], ⟨.type "builtin_function_or_method", none, .fields #[.builtin "type.__prepare__", .type "type"], #[]⟩, diO [enO P "__module__" 224 (.str "cpy313.graphlib" 209), enO P "__qualname__" 226 (.str "_NodeInfo" 225), enO P "__firstlineno__" 228 (.int 21 227), enO P "__slots__" 232 (.ref 38), enO P "__init__" 240 (.ref 45), enO P "__static_attributes__" 244 (.ref 46)], tpO [], flO [.int 24 0, .int 4 0, .ref 44], coO "_NodeInfo" "_NodeInfo" 219 21 0 0 34 false vC 222, ⟨.type "frame", none, .plain, #[some (.ref 36), some (.ref 3), some (.ref 33), none, some (.str "cpy313.graphlib" 209), none, some (.ref 0)]⟩, tpO [.str "node" 229, .str "npredecessors" 230, .str "successors" 231], tpO [], flO [], tpO [.str "self" 236, .str "node" 237], tpO [], fnO "__init__" "_NodeInfo.__init__" (meth 7 1), kO P 7, kO P 8, tpO [.str "node" 241, .str "npredecessors" 242, .str "successors" 243], ⟨.type "list", none, .seq #[.str "node" 229, .str "npredecessors" 230, .str "successors" 231] 1, #[]⟩, kO P 9, kO P 10, kO P 11, kO P 12, kO P 13, ⟨.type "super", none, .fields #[.ref 49, .ref 49, .ref 49], #[]⟩, ⟨.type "builtin_function_or_method", none, .fields #[.builtin "object.__init_subclass__", .ref 49], #[]⟩, tpO [.type "ValueError"], ⟨.type "builtin_function_or_method", none, .fields #[.builtin "type.__prepare__", .type "type"], #[]⟩, diO [enO P "__module__" 261 (.str "cpy313.graphlib" 209), enO P "__qualname__" 263 (.str "CycleError" 262), enO P "__firstlineno__" 265 (.int 28 264), enO P "__static_attributes__" 266 (.ref 62)], tpO [], flO [], coO "CycleError" "CycleError" 256 28 0 0 58 false vC 259, ⟨.type "frame", none, .plain, #[some (.ref 60), some (.ref 3), some (.ref 57), none, some (.str "cpy313.graphlib" 209), none, some (.ref 0)]⟩, tpO [], kO P 14, kO P 15, ⟨.type "getset_descriptor", none, .fields #[.str "__weakref__" 267, .ref 64, .builtin "ExceptionGroup.__weakref__", .none], #[]⟩, ⟨.type "super", none, .fields #[.ref 64, .ref 64, .ref 64], #[]⟩, ⟨.type "builtin_function_or_method", none, .fields #[.builtin "object.__init_subclass__", .ref 64], #[]⟩]
noncomputable def cutN (P : Params) : List Obj := [tpO [], ⟨.type "builtin_function_or_method", none, .fields #[.builtin "type.__prepare__", .type "type"], #[]⟩, diO [enO P "__module__" 279 (.str "cpy313.graphlib" 209), enO P "__qualname__" 281 (.str "TopologicalSorter" 280), enO P "__firstlineno__" 283 (.int 30 282), enO P "__init__" 293 (.ref 82), enO P "_get_nodeinfo" 302 (.ref 89), enO P "add" 314 (.ref 96), enO P "prepare" 320 (.ref 101), enO P "get_ready" 330 (.ref 108), enO P "is_active" 337 (.ref 115), enO P "__bool__" 344 (.ref 122), enO P "done" 358 (.ref 129), enO P "_find_cycle" 371 (.ref 136), enO P "static_order" 378 (.ref 143), enO P "__static_attributes__" 383 (.ref 144)], tpO [], flO [.int 32 0, .int 4 0, .ref 81, .int 41 0, .int 4 0, .ref 88, .int 46 0, .int 4 0, .ref 95, .int 55 0, .int 4 0, .ref 100, .int 63 0, .int 4 0, .ref 107, .int 74 0, .int 4 0, .ref 114, .int 79 0, .int 4 0, .ref 121, .int 82 0, .int 4 0, .ref 128, .int 105 0, .int 4 0, .ref 135, .int 134 0, .int 4 0, .ref 142], coO "TopologicalSorter" "TopologicalSorter" 274 30 0 0 71 false vC 277, ⟨.type "frame", none, .plain, #[some (.ref 73), some (.ref 3), some (.ref 70), none, some (.str "cpy313.graphlib" 209), none, some (.ref 0)]⟩, kO P 16, tpO [], flO [], tpO [.str "self" 287, .str "graph" 288, .str "node" 289, .str "predecessors" 290], tpO [], fnO "__init__" "TopologicalSorter.__init__" (meth 9 0), kO P 17, kO P 18, tpO [], flO [], tpO [.str "self" 297, .str "node" 298, .str "result" 299], tpO [], fnO "_get_nodeinfo" "TopologicalSorter._get_nodeinfo" (meth 9 1), kO P 19, kO P 20, tpO [], flO [], tpO [.str "self" 306, .str "node" 307, .str "predecessors" 308, .str "nodeinfo" 309, .str "pred" 310, .str "pred_info" 311], tpO [], fnO "add" "TopologicalSorter.add" (meth 9 2), kO P 21, kO P 22, tpO [], flO [], fnO "prepare" "TopologicalSorter.prepare" (meth 9 3), kO P 23, kO P 24, tpO [], flO [], tpO [.str "self" 324, .str "result" 325, .str "n2i" 326, .str "node" 327], tpO [], fnO "get_ready" "TopologicalSorter.get_ready" (meth 9 4), kO P 25, kO P 26, tpO [], flO [], tpO [.str "self" 334], tpO [], fnO "is_active" "TopologicalSorter.is_active" (meth 9 5), kO P 27, kO P 28, tpO [], flO [], tpO [.str "self" 341], tpO [], fnO "__bool__" "TopologicalSorter.__bool__" (meth 9 6), kO P 29, kO P 30, tpO [], flO [], tpO [.str "self" 348, .str "nodes" 349, .str "n2i" 350, .str "node" 351, .str "nodeinfo" 352, .str "stat" 353, .str "successor" 354, .str "successor_info" 355], tpO [], fnO "done" "TopologicalSorter.done" (meth 9 7), kO P 31, kO P 32, tpO [], flO [], tpO [.str "self" 362, .str "n2i" 363, .str "stack" 364, .str "itstack" 365, .str "seen" 366, .str "node2stacki" 367, .str "node" 368], tpO [], fnO "_find_cycle" "TopologicalSorter._find_cycle" (meth 9 8), kO P 33, kO P 34, tpO [], flO [], tpO [.str "self" 375], tpO [], fnO "static_order" "TopologicalSorter.static_order" (meth 9 9), kO P 35, kO P 36, tpO [.str "_nfinished" 379, .str "_node2info" 380, .str "_npassedout" 381, .str "_ready_nodes" 382], kO P 37, kO P 38, ⟨.type "getset_descriptor", none, .fields #[.str "__dict__" 384, .ref 146, .builtin "function.__dict__", .builtin "function.__dict__#set"], #[]⟩, ⟨.type "getset_descriptor", none, .fields #[.str "__weakref__" 386, .ref 146, .builtin "ExceptionGroup.__weakref__", .none], #[]⟩, ⟨.type "super", none, .fields #[.ref 146, .ref 146, .ref 146], #[]⟩, ⟨.type "builtin_function_or_method", none, .fields #[.builtin "object.__init_subclass__", .ref 146], #[]⟩]
noncomputable def cutD (P : Params) : List DictEntry := [enO P "__name__" 165 (.str "cpy313.graphlib" 209), enO P "__doc__" 166 .none, enO P "__package__" 167 .none, enO P "__loader__" 168 (.builtin "__main__.__loader__#opaque"), enO P "__spec__" 169 .none, enO P "__annotations__" 170 (.ref 6), enO P "__builtins__" 171 (.ref 4), enO P "__file__" 173 (.str "/claim/cut.py" 172), enO P "__cached__" 174 .none, enO P "_wall" 193 (.ref 21), enO P "_initial_missing" 196 (.ref 22), enO P "reduce" 208 (.ref 30), enO P "_NODE_OUT" 213 (.int (-1) 212), enO P "_NODE_DONE" 216 (.int (-2) 215), enO P "_NodeInfo" 253 (.ref 49), enO P "CycleError" 271 (.ref 64)]
noncomputable def cutA (P : Params) : Heap := cutAt P (diO (cutD P)) (flO [.int 1 0, .int 0 0, .ref 20, .int 6 0, .int 0 0, .ref 29, .int 21 0, .int 0 0, .ref 36, .int 28 0, .int 0 0, .ref 60]) (cutM P)
noncomputable def cutB (P : Params) : Heap := cutAt P (diO (cutD P ++ [enO P "TopologicalSorter" 390 (.ref 146)])) (flO (([.int 1 0, .int 0 0, .ref 20, .int 6 0, .int 0 0, .ref 29, .int 21 0, .int 0 0, .ref 36, .int 28 0, .int 0 0, .ref 60] : List Value) ++ [.int 30 0, .int 0 0, .ref 73])) (cutM P ++ cutN P)
noncomputable abbrev lp : Program := lawRow.toRowW.prog
noncomputable def cutE : Env := ⟨lp.main.scope, mainNs, mainNs, [], Str.empty, none, .ref 13, some 14, 0⟩
noncomputable def cutT (n : Nat) (p : Pos) : Thread := ⟨((execs ((behindTheImports lp).drop n) cutE).onRaise (leaving cutE)).bind fun f => (.pure (.done f) : Sem Fin), .body (behindTheImports lp) cutE, p, [topFrame ⟨0, 0, 0, 0⟩]⟩
noncomputable abbrev tA : Thread := cutT 9 ⟨28, 0, 29, 8⟩
noncomputable abbrev tB : Thread := cutT 10 ⟨30, 0, 135, 16⟩
theorem cut_a (w : World) (os : OsState) : topGo treeTable lp w 11 (some (.ref 6)) 599 ⟨boot_heap w.params, Array.mk [], boot_drawn, boot_toks, os⟩ (topStub lp) = some (⟨cutA w.params, #[], {}, 272, os⟩, tA) := by kernel_rfl
theorem cut_b (w : World) (os : OsState) : topGo treeTable lp w 11 (some (.ref 6)) 527 ⟨cutA w.params, #[], {}, 272, os⟩ tA = some (⟨cutB w.params, #[], {}, 391, os⟩, tB) := by kernel_rfl
theorem cut_c (w : World) (os : OsState) : (topRun treeTable lp w 11 (some (.ref 6)) 1852 ⟨cutB w.params, #[], {}, 391, os⟩ tB).map (fun s => ((staticsOk (importedModules lp.main.body) (boot_heap w.params) s.heap && namesBound lp s.heap && gensDone s && laidKept (boot_heap w.params) s.heap), openSeen view loose (importedModules lp.main.body) (fun s => xlAt view [] s && recOk (RowW.records lawRow.toRowW) s) true s, Hook.obs hookK s)) = some (true, openGood view loose, Hook.val hookK w) := by kernel_rfl
theorem left_ok : LeftO lawRow.toRowW.prog view loose (fun s => xlAt view [] s && recOk (RowW.records lawRow.toRowW) s) (Hook.obs hookK) (Hook.val hookK) 2978 := fun w =>
  left_of_cut (by kernel_rfl) (by decide) (fun s => by kernel_rfl) fun os => topFrom_of (by kernel_rfl) (go_map (cut_a w os) (go_map (cut_b w os) (cut_c w os)))
theorem row_ok : PySem.Challenge.rw_op0154_01.row.wellSaid = true := by kernel_rfl
theorem law_said : OpenLaw.wellSaid PySem.Challenge.rw_op0154_01 = true := by
  unfold OpenLaw.wellSaid
  rw [row_ok]
  kernel_rfl
set_option maxHeartbeats 8000000 in
theorem head_ok (walk : WalkM view loose (XL view []) (Hook.says hookK) lawRow.toRowW dLaw []) : PySem.Challenge.rw_op0154_01.Holds := by
  w_on
  refine holds_law law_said fun said => ?_
  refine Mine.clean_holds (q := view) (loose := loose) (Xt := fun s => xlAt view [] s && recOk (RowW.records lawRow.toRowW) s) (XP := XL view []) (Yf := Hook.obs hookK) (Ya := Hook.val hookK) (YP := Hook.says hookK) (N := 2978) (d := dLaw) (kwd := [])
    left_ok (Hook.of hookK) (Hook.keeps hookK) (fun s e => xl_of s (Bool.and_eq_true_iff.mp e).1) XL.keeps (by kernel_rfl) (by kernel_rfl) (by kernel_rfl) (fun s e => recFacts_of (Bool.and_eq_true_iff.mp e).2) (by kernel_rfl) (by first | assumption | decide +kernel) (by decide +kernel) ⟨rfl, rfl, rfl, rfl, rfl, by decide +kernel⟩ ?hw walk
  w_witness2
end Mine
end

section
set_option maxHeartbeats 0
open PySem PySem.W PyProof.Rows PySem.Calls
namespace Mine
noncomputable def lawFn : Fn := fnOf (top 21)
theorem old_grown {p : Addr} {h h' : Heap} (ht : isCodeTable h p) (hp : h.get? p = some (tabObj #[])) (k : ∀ b o, b ≠ p → h.get? b = some o → h'.get? b = some o) (hg : ∃ ps, h'.get? p = some (tabObj ps)) : OldK h h' := by
  obtain ⟨ps, hg⟩ := hg
  refine ⟨fun b o e => ?_, fun b o e => ?_⟩
  · by_cases hb : b = p
    · subst hb
      rw [hp] at e; cases e
      exact .inr (.inl ⟨ht, rfl, #[], ps, rfl, by rw [Array.empty_append]; exact hg⟩)
    · exact .inl (k b o hb e)
  · by_cases hb : b = p
    · exact ⟨_, hb ▸ hg⟩
    · exact ⟨o, k b o hb e⟩
theorem top_ok (hrun : ∀ ns : List Int, ns.length ≤ 63 → H.Hx (H.execs PP 198 lawFn.scope lawFn.body) [("script", .ref 0)] [.flist ns, .tab 1 181] fun fl _ σ' => fl = .ret (.bool true) ∧ σ'[1]? = some .grown) : PySem.Challenge.rw_op0154_01.Holds := by
  refine head_ok ?_
  intro w s₀ s₁ mg mb G Y fa o pm cd doc dV kV ho hd hcd hD hmg hg args vals as hpre hlay hrd hwl hlo
  have KX : (kk w.params).In s₁.heap := kIn_of Y
  clear hcd hD ho hd
  obtain ⟨dx, hdx⟩ : ∃ d, (recsOf view).find? (fun e => e.name == ("_law_exchange" : Str)) = some d := Option.isSome_iff_exists.mp (by kernel_rfl)
  have hT1 := tab_of (x := "_law_exchange") (c := 185) (P := 181) G.T KX hdx (by kernel_rfl)
  have hT : TabsAt [(185, 181)] s₁.heap := fun q hq => by obtain rfl := List.mem_singleton.mp hq; exact hT1
  have h3 : s₁.heap.get? mainGlobals = some ⟨.type "dict", none, .dict (gEs w).1 (gEs w).2, #[]⟩ := KX _ _ (by kernel_rfl)
  have hfa : mg dLaw.name = some (.ref 212) := glob_own (mb := mb) G.T.g h3 (by kernel_rfl)
  rw [hfa] at hmg
  cases hmg
  have hsys : ∃ o, (ghostOf s₁.heap [(185, 181)]).get? sysModules = some o := by
    obtain ⟨mm, ⟨o, _, _, h, hd, _⟩, _⟩ := (G.T.seer (by decide +kernel)).mods
    exact ⟨o, ghost_get hT h fun q => by rw [q] at hd; cases hd⟩
  have hB : ∀ mg', (ghostOf s₁.heap [(185, 181)]).Ns mainGlobals mg' → (ghostOf s₁.heap [(185, 181)]).BuiltinsAt mg' 181 := fun mg' hn => by
    obtain ⟨bm, ob, h1, h2, h3, h4, h5, h6⟩ := G.T.bmain
    have e : mg' ("__builtins__" : Str) = some (.ref bm) := by
      obtain ⟨o1, es1, ep1, q1, q2, _, q3⟩ := ghost_ns hT G.T.g
      obtain ⟨o2, es2, ep2, r1, r2, _, r3⟩ := hn
      rw [q1] at r1; cases r1
      rw [q2] at r2; cases r2
      rw [← r3, q3]; exact h1
    have hbg : bm ≠ mainGlobals := fun q => by
      obtain ⟨o, es, ep, e1, e2, _⟩ := G.T.g
      rw [q, e1] at h3; cases h3; rw [e2] at h6; cases h6
    have hbp : bm ≠ 181 := fun q => by
      rw [q, hT1.2] at h3; cases h3; cases h4
    exact ⟨bm, ob, e, h2, hbg, hbp, ghost_get hT h3 (fun q => by rw [q] at h4; cases h4), h4, h5, h6⟩
  have F := fx_ok (w := w) (ghost_K hT KX (by kernel_rfl)) (ghost_ns hT G.T.g) (ghost_ns hT G.T.b) G.T.builtins hsys (let ⟨mc, a, r⟩ := G.T.nolimit; ⟨mc, ghost_ns hT a, r⟩) (ghost_code hT).1 hB
  wrow_args hpre hlay hrd hwl hlo
  rename_i ns _ _ _ _ _ _ _ l vs _ hL _ _ _ hi _ hc _
  have hn : ns.length ≤ 63 := by lia
  refine wpN_mono (top_call2 F (p := 181) (X := XX w (ghostOf s₁.heap [(185, 181)])) (fn := lawFn) (x := "script") (n := 198) rfl (fun _ => rfl) hT1.2 (by kernel_rfl) (by kernel_rfl) (by kernel_rfl) (by kernel_rfl) (by decide) hL hi (by lia) (hrun ns hn)) fun v s' h => ?_
  obtain ⟨rfl, h1, h2, h3, h4⟩ := h
  refine ⟨.inl ⟨.bool true, .bool true, [], rfl, fun _ => rfl, .bool _, ?_, fun _ => ⟨.nil, fun _ h => by cases h⟩⟩, old_grown (hT1.1.tab hT1.2).isCodeTable hT1.2 h1 h2, h3, .of_eq (h4.trans hg)⟩
  wrow_post
end Mine
end

section
open PySem PySem.W PyProof.Rows PySem.Calls
namespace Mine.H

theorem nabs {x m : Nat} (h : x < m) : (x : Int).natAbs < m := h
theorem sm {x : Nat} (h : x < 1000) : small (x : Int) = true := decide_eq_true (Nat.lt_trans h (by decide))
theorem smI {w : Int} (h : 0 < w ∧ w < 1000) : small w = true := by unfold small; rw [decide_eq_true_eq]; lia
theorem sm_range {a b c : Int} (ha : small a = true) (hb : small b = true) (hc : small c = true) (h : c ≠ 0) : (small a && small b && small c && c != 0) = true := by rw [ha, hb, hc, bne_iff_ne.mpr h]; rfl
abbrev EndA (bs : Bs) (Q : AV → Bs → Store → Prop) : Fl → Bs → Store → Prop := fun fl _ σ' => match fl with | .ret v => Q v bs σ' | .next => Q .none bs σ' | _ => False
theorem hx_callE {P : Prog} {n a : Nat} {sc : Scope} {bs : Bs} {σ : Store} {fn : Fn} {args : List AV} {bs₀ : Bs} {rest : List AV} {Q : AV → Bs → Store → Prop} (hm : P.maker a = Option.none) (hf : P.fn a = some fn) (hva : fn.vararg = Option.none) (hb : bindArgs fn (P.dflt a) args = some (bs₀, rest))
    (h : Hx (execs P n fn.scope fn.body) bs₀ σ (EndA bs Q)) : Hx (callA P (n + 1) a args : Mm P (n + 1) sc AV) bs σ Q := hx_callA hm hf hva hb h
theorem hx_up {P : Prog} {m k a : Nat} {sc : Scope} {args : List AV} {bs : Bs} {σ : Store} {Q : AV → Bs → Store → Prop} (h : Hx (callA P m a args : Mm P m sc AV) bs σ Q) : Hx (callA P (k + m) a args : Mm P (k + m) sc AV) bs σ Q := fun K ρ s i =>
  h ⟨K.X, K.env, K.A, K.N, K.hP, K.F, Nat.le_trans (Nat.le_add_left ..) K.hN⟩ ρ s i
theorem hx_upV {P : Prog} {m k : Nat} {f : AV} {sc : Scope} {args : List AV} {bs : Bs} {σ : Store} {Q : AV → Bs → Store → Prop} (h : Hx (callV P m f args : Mm P m sc AV) bs σ Q) : Hx (callV P (k + m) f args : Mm P (k + m) sc AV) bs σ Q := fun K ρ s i =>
  h ⟨K.X, K.env, K.A, K.N, K.hP, K.F, Nat.le_trans (Nat.le_add_left ..) K.hN⟩ ρ s i
noncomputable def bsIn (b : List UInt8) (w i : Int) (buf : List UInt8) (j : Int) : List UInt8 := buf.set (i + w - 1 - j).toNat (b[(i + j).toNat]?.getD 0)
noncomputable def bsOut (b : List UInt8) (w : Int) (buf : List UInt8) (i : Int) : List UInt8 := (rangeInts 0 w 1).foldl (bsIn b w i) buf
noncomputable def bsF (w : Int) (b : List UInt8) : List UInt8 := (rangeInts 0 b.length w).foldl (bsOut b w) (List.replicate b.length 0)
theorem byteswap_run {n : Nat} {sc : Scope} {b : List UInt8} {w : Int} {bs : Bs} {σ : Store} {Q : AV → Bs → Store → Prop} (hl : b.length < 1000) (hw : 0 < w ∧ w < 1000)
    (hi : ∀ i ∈ rangeInts 0 b.length w, ∀ j ∈ rangeInts 0 w 1, 0 ≤ i + w - 1 - j ∧ i + w - 1 - j < b.length ∧ 0 ≤ i + j ∧ i + j < b.length) (hq : ∀ σ', Ext σ σ' → Q (.bytes (bsF w b)) bs σ') : Hx (callA PP (n + 30) aSwap [.bytes b, .int w] : Mm PP (n + 30) sc AV) bs σ Q := by
  refine hx_up ?_
  refine hx_callE (bs₀ := [("data", .bytes b), ("width", .int w)]) (rest := []) rfl (by with_unfolding_all rfl) (by kernel_rfl) (by kernel_rfl) ?_
  refine hx_cons ?_
  refine hs_assign (by kernel_rfl) (by kernel_rfl) ?_
  refine hx_call rfl ?_
  refine hx_pv (pv_glob (by kernel_rfl) (by with_unfolding_all rfl)) ?_
  refine hx_args1 rfl ?_
  (with_reducible apply hx_pv); · (with_reducible apply pv_call1); (· rfl); (· rfl); (· exact pv_glob (by kernel_rfl) (by with_unfolding_all rfl)); (· exact pv_name (by kernel_rfl) (by with_unfolding_all rfl)); · (with_reducible apply pv_lenB); lia
  refine hx_args0 (hx_callT ?_)
  (with_reducible apply hx_bytearray); · lia
  refine seq_next (hx_cons ?_)
  (with_reducible apply hs_for); · kernel_rfl
  refine hx_call rfl ?_
  refine hx_pv (pv_glob (by kernel_rfl) (by with_unfolding_all rfl)) ?_
  refine hx_args1 rfl ?_
  refine hx_pv pv_int ?_
  refine hx_args1 rfl ?_
  (with_reducible apply hx_pv); · (with_reducible apply pv_call1); (· rfl); (· rfl); (· exact pv_glob (by kernel_rfl) (by with_unfolding_all rfl)); (· exact pv_name (by kernel_rfl) (by with_unfolding_all rfl)); · (with_reducible apply pv_lenB); lia
  refine hx_args1 rfl ?_
  refine hx_pv (pv_name (by kernel_rfl) (by with_unfolding_all rfl)) ?_
  refine hx_args0 (hx_callT ?_)
  (with_reducible apply hx_range3); · exact sm_range (by decide) (sm hl) (smI hw) (Int.ne_of_gt hw.1)
  (with_reducible apply runFor_range); (· with_reducible exact st_new); · exact sm_range (by decide) (sm hl) (smI hw) (Int.ne_of_gt hw.1)
  refine hx_forFold (B := fun _ => [("data", .bytes b), ("width", .int w), ("swapped_data", .ref σ.length)]) (S := fun (buf : List UInt8) σ' => buf.length = b.length ∧ Ext σ σ' ∧ σ'[σ.length]? = some (.bytearray buf) ∧ σ'[σ.length + 1]? = some (.range 0 b.length w))
    (step := bsOut b w) (s₀ := List.replicate b.length 0) (fun buf σ' h => ?_) (fun buf i σ' hx h => ?_) ?_ ?_ (fun σ' bs' h hb => ?_)
  · rw [List.length_append]
    exact h.2.2.2
  · obtain ⟨hlen, he, h1', h2'⟩ := h
    (with_reducible apply hx_bindN); · kernel_rfl
    refine hx_cons ?_
    (with_reducible apply hs_for); · kernel_rfl
    refine hx_call rfl ?_
    refine hx_pv (pv_glob (by kernel_rfl) (by with_unfolding_all rfl)) ?_
    refine hx_args1 rfl ?_
    refine hx_pv (pv_name (by kernel_rfl) (by with_unfolding_all rfl)) ?_
    refine hx_args0 (hx_callT ?_)
    (with_reducible apply hx_range1); · exact smI hw
    (with_reducible apply runFor_range); (· with_reducible exact st_new); · exact sm_range (by decide) (smI hw) (by decide) (by decide)
    refine hx_forFold (B := fun _ => [("data", .bytes b), ("width", .int w), ("swapped_data", .ref σ.length), ("i", .int i)]) (S := fun (buf : List UInt8) σ'' => buf.length = b.length ∧ Ext σ σ'' ∧ σ''[σ.length]? = some (.bytearray buf) ∧ σ''[σ.length + 1]? = some (.range 0 b.length w) ∧ σ''[σ'.length]? = some (.range 0 w 1))
      (step := bsIn b w i) (s₀ := buf) (fun buf σ' h => ?_) (fun buf j σ' hj h => ?_) ?_ ?_ (fun σ' bs' h hb => ?_)
    · exact h.2.2.2.2
    · obtain ⟨hlen, he, h1, h2, h3⟩ := h
      have hc := hi i hx j hj
      have hlt : (i + j).toNat < b.length := (Int.toNat_lt hc.2.2.1).mpr hc.2.2.2
      have hu : b[(i + j).toNat]? = some b[(i + j).toNat] := List.getElem?_eq_getElem hlt
      have hu2 := b[(i + j).toNat].toNat_lt
      have hc2 : 0 ≤ i + j ∧ b.length ≤ 1000000 := ⟨hc.2.2.1, Nat.le_trans (Nat.le_of_lt hl) (by decide)⟩
      (with_reducible apply hx_bindN); · kernel_rfl
      refine hx_cons ?_
      with_reducible apply hs_item
      (with_reducible apply hx_pv); · (with_reducible apply pv_item); (· kernel_rfl); (· exact pv_name (by kernel_rfl) (by with_unfolding_all rfl)); (· (with_reducible apply pv_bin); (· exact pv_name (by kernel_rfl) (by with_unfolding_all rfl)); (· exact pv_name (by kernel_rfl) (by with_unfolding_all rfl)); · with_reducible exact pv_add); · (with_reducible apply pv_itemB); (· assumption); · assumption
      refine hx_pv (pv_name (by kernel_rfl) (by with_unfolding_all rfl)) ?_
      (with_reducible apply hx_pv); · (with_reducible apply pv_bin); (· (with_reducible apply pv_bin); (· (with_reducible apply pv_bin); (· exact pv_name (by kernel_rfl) (by with_unfolding_all rfl)); (· exact pv_name (by kernel_rfl) (by with_unfolding_all rfl)); · with_reducible exact pv_add); (· with_reducible exact pv_int); · with_reducible exact pv_sub); (· exact pv_name (by kernel_rfl) (by with_unfolding_all rfl)); · with_reducible exact pv_sub
      (with_reducible apply hx_setitemB); (· with_reducible assumption); · exact ⟨hc.1, hlen ▸ hc.2.1, Int.natCast_nonneg _, Int.ofNat_lt.mpr hu2, hlen ▸ Nat.lt_trans hl (by decide)⟩
      refine seq_next ?_
      with_reducible apply hx_nil
      have hs : bsIn b w i buf j = buf.set (i + w - 1 - j).toNat (UInt8.ofNat ((b[(i + j).toNat].toNat : Int)).toNat) := by
        unfold bsIn; rw [hu]; simp
      rw [hs]
      refine ⟨.inl rfl, ?_, ?_, ?_, ?_, ?_, ?_⟩
      · refine Sub.cons (by with_unfolding_all rfl) ?_; refine Sub.cons (by with_unfolding_all rfl) ?_; refine Sub.cons (by with_unfolding_all rfl) ?_; refine Sub.cons (by with_unfolding_all rfl) ?_; with_reducible exact Sub.nil
      · simpa using hlen
      · (with_reducible apply Ext.set); (· assumption); · lia
      · (with_reducible apply st_set); with_reducible assumption
      · (with_reducible apply st_set_ne); (· lia); · with_reducible assumption
      · refine st_set_ne ?_ h3
        have := lt_of h1'
        lia
    · exact ⟨hlen, he.app, st_old h1', st_old h2', st_new⟩
    · refine Sub.cons (by with_unfolding_all rfl) ?_; refine Sub.cons (by with_unfolding_all rfl) ?_; refine Sub.cons (by with_unfolding_all rfl) ?_; refine Sub.cons (by with_unfolding_all rfl) ?_; with_reducible exact Sub.nil
    · obtain ⟨hlen, he, h1, h2, h3⟩ := h
      exact hx_nil ⟨.inl rfl, Sub.trans (by (refine Sub.cons (by with_unfolding_all rfl) ?_; refine Sub.cons (by with_unfolding_all rfl) ?_; refine Sub.cons (by with_unfolding_all rfl) ?_; with_reducible exact Sub.nil)) hb, hlen, he, h1, h2⟩
  · exact ⟨by simp, Ext.refl.app.app, st_old st_new, by simp⟩
  · refine Sub.cons (by with_unfolding_all rfl) ?_; refine Sub.cons (by with_unfolding_all rfl) ?_; refine Sub.cons (by with_unfolding_all rfl) ?_; with_reducible exact Sub.nil
  · obtain ⟨hlen, he, h1, h2⟩ := h
    refine Hx.sub ?_ hb
    refine hx_cons ?_
    with_reducible apply hs_ret
    refine hx_call rfl ?_
    refine hx_pv (pv_glob (by kernel_rfl) (by with_unfolding_all rfl)) ?_
    refine hx_args1 rfl ?_
    refine hx_pv (pv_name (by kernel_rfl) (by with_unfolding_all rfl)) ?_
    refine hx_args0 (hx_callT ?_)
    (with_reducible apply hx_pv); · (with_reducible apply pv_bytesA); (· with_reducible assumption); · lia
    with_reducible apply seq_ret
    exact hq _ he

section
variable {bs : Bs} {σ : Store} {n : Nat} {sc : Scope}
noncomputable def nodeO (d : Nat) (x np su : Option AV) : AO := .slots cNode d [x, np, su]
noncomputable def sortNs (n2i rd po fi : AV) : AO := .ns [("_node2info", n2i), ("_ready_nodes", rd), ("_npassedout", po), ("_nfinished", fi)]
theorem pv_node {i d : Nat} {a : AV} {b c : Option AV} (h : σ[i]? = some (nodeO d (some a) b c)) (h2 : σ[d]? = some (.ns [])) (ha : notExt a = true) : Pv (getAttrV PP (.ref i) "node" : Mm PP n sc AV) bs σ a := pv_attrS h h2 rfl (by kernel_rfl) ⟨rfl, by decide +kernel, ha⟩
theorem pv_npred {i d : Nat} {k : Int} {a c : Option AV} (h : σ[i]? = some (nodeO d a (some (.int k)) c)) (h2 : σ[d]? = some (.ns [])) : Pv (getAttrV PP (.ref i) "npredecessors" : Mm PP n sc AV) bs σ (.int k) := pv_attrS h h2 rfl (by kernel_rfl) ⟨rfl, by decide +kernel, rfl⟩
theorem pv_succ {i d s : Nat} {a b : Option AV} (h : σ[i]? = some (nodeO d a b (some (.ref s)))) (h2 : σ[d]? = some (.ns [])) : Pv (getAttrV PP (.ref i) "successors" : Mm PP n sc AV) bs σ (.ref s) := pv_attrS h h2 rfl (by kernel_rfl) ⟨rfl, by decide +kernel, rfl⟩
theorem hx_sNode {i d : Nat} {v : AV} {a b c : Option AV} {Q : Unit → Bs → Store → Prop} (h : σ[i]? = some (nodeO d a b c)) (h2 : σ[d]? = some (.ns [])) (hq : Q () bs (σ.set i (nodeO d (some v) b c))) : Hx (setAttrV PP (.ref i) "node" v : Mm PP n sc Unit) bs σ Q := hx_setS h h2 rfl ⟨rfl, by decide +kernel, rfl⟩ hq
theorem hx_sNpred {i d : Nat} {v : AV} {a b c : Option AV} {Q : Unit → Bs → Store → Prop} (h : σ[i]? = some (nodeO d a b c)) (h2 : σ[d]? = some (.ns [])) (hq : Q () bs (σ.set i (nodeO d a (some v) c))) : Hx (setAttrV PP (.ref i) "npredecessors" v : Mm PP n sc Unit) bs σ Q := hx_setS h h2 rfl ⟨rfl, by decide +kernel, rfl⟩ hq
theorem hx_sSucc {i d : Nat} {v : AV} {a b c : Option AV} {Q : Unit → Bs → Store → Prop} (h : σ[i]? = some (nodeO d a b c)) (h2 : σ[d]? = some (.ns [])) (hq : Q () bs (σ.set i (nodeO d a b (some v)))) : Hx (setAttrV PP (.ref i) "successors" v : Mm PP n sc Unit) bs σ Q := hx_setS h h2 rfl ⟨rfl, by decide +kernel, rfl⟩ hq
theorem pv_n2i {i d : Nat} {a b c e : AV} (h : σ[i]? = some (.inst cSort d)) (h2 : σ[d]? = some (sortNs a b c e)) (hx : notExt a = true) : Pv (getAttrV PP (.ref i) "_node2info" : Mm PP n sc AV) bs σ a := pv_attrI h h2 rfl ⟨rfl, rfl, by decide +kernel, hx⟩
theorem pv_ready {i d : Nat} {a b c e : AV} (h : σ[i]? = some (.inst cSort d)) (h2 : σ[d]? = some (sortNs a b c e)) (hx : notExt b = true) : Pv (getAttrV PP (.ref i) "_ready_nodes" : Mm PP n sc AV) bs σ b := pv_attrI h h2 (by with_unfolding_all rfl) ⟨rfl, rfl, by decide +kernel, hx⟩
theorem pv_po {i d : Nat} {a b c e : AV} (h : σ[i]? = some (.inst cSort d)) (h2 : σ[d]? = some (sortNs a b c e)) (hx : notExt c = true) : Pv (getAttrV PP (.ref i) "_npassedout" : Mm PP n sc AV) bs σ c := pv_attrI h h2 (by with_unfolding_all rfl) ⟨rfl, rfl, by decide +kernel, hx⟩
theorem pv_fi {i d : Nat} {a b c e : AV} (h : σ[i]? = some (.inst cSort d)) (h2 : σ[d]? = some (sortNs a b c e)) (hx : notExt e = true) : Pv (getAttrV PP (.ref i) "_nfinished" : Mm PP n sc AV) bs σ e := pv_attrI h h2 (by with_unfolding_all rfl) ⟨rfl, rfl, by decide +kernel, hx⟩
theorem hx_sReady {i d : Nat} {a b c e v : AV} {Q : Unit → Bs → Store → Prop} (h : σ[i]? = some (.inst cSort d)) (h2 : σ[d]? = some (sortNs a b c e)) (hq : Q () bs (σ.set d (sortNs a v c e))) : Hx (setAttrV PP (.ref i) "_ready_nodes" v : Mm PP n sc Unit) bs σ Q := hx_setI h h2 ⟨rfl, rfl, by decide +kernel, (show 4 < 100 by decide)⟩ hq
theorem hx_sPo {i d : Nat} {a b c e v : AV} {Q : Unit → Bs → Store → Prop} (h : σ[i]? = some (.inst cSort d)) (h2 : σ[d]? = some (sortNs a b c e)) (hq : Q () bs (σ.set d (sortNs a b v e))) : Hx (setAttrV PP (.ref i) "_npassedout" v : Mm PP n sc Unit) bs σ Q := hx_setI h h2 ⟨rfl, rfl, by decide +kernel, (show 4 < 100 by decide)⟩ hq
theorem hx_sFi {i d : Nat} {a b c e v : AV} {Q : Unit → Bs → Store → Prop} (h : σ[i]? = some (.inst cSort d)) (h2 : σ[d]? = some (sortNs a b c e)) (hq : Q () bs (σ.set d (sortNs a b c v))) : Hx (setAttrV PP (.ref i) "_nfinished" v : Mm PP n sc Unit) bs σ Q := hx_setI h h2 ⟨rfl, rfl, by decide +kernel, (show 4 < 100 by decide)⟩ hq
end
section
variable {bs : Bs} {σ : Store} {n : Nat} {sc : Scope}
theorem nodeinfo_run {k : Int} {Q : AV → Bs → Store → Prop} (hq : ∀ σ', Ext σ σ' → σ'.length = σ.length + 3 → σ'[σ.length]? = some (.ns []) → σ'[σ.length + 1]? = some (nodeO σ.length (some (.int k)) (some (.int 0)) (some (.ref (σ.length + 2)))) → σ'[σ.length + 2]? = some (.list []) → Q (.ref (σ.length + 1)) bs σ') :
    Hx (callV PP (n + 10) (.ext (.ref cNode)) [.int k] : Mm PP (n + 10) sc AV) bs σ Q := by
  refine hx_new_slots (xs := niSlots) (fi := aNodeInit) rfl rfl rfl ?_
  refine hx_callE (bs₀ := [("self", .ref (σ.length + 1)), ("node", .int k)]) (rest := []) rfl (by with_unfolding_all rfl) (by kernel_rfl) (by kernel_rfl) ?_
  obtain ⟨τ, hτ⟩ : ∃ τ, τ = σ ++ [AO.ns []] ++ [AO.slots cNode σ.length (List.replicate niSlots.length Option.none)] := ⟨_, rfl⟩
  have h1 : τ[σ.length]? = some (.ns []) := hτ ▸ st_old st_new
  have h2 : τ[σ.length + 1]? = some (nodeO σ.length none none none) := by subst hτ; simp [nodeO]; rfl
  have hE : Ext σ τ := hτ ▸ Ext.refl.app.app
  have hlen : τ.length = σ.length + 2 := by subst hτ; simp
  rw [← hτ]
  clear hτ
  refine hx_cons ?_
  with_reducible apply hs_attr
  refine hx_pv (pv_name (by kernel_rfl) (by with_unfolding_all rfl)) ?_
  refine hx_pv (pv_name (by kernel_rfl) (by with_unfolding_all rfl)) ?_
  (with_reducible apply hx_sNode); (· with_reducible assumption); · with_reducible assumption
  refine seq_next (hx_cons ?_)
  with_reducible apply hs_attr
  refine hx_pv pv_int ?_
  refine hx_pv (pv_name (by kernel_rfl) (by with_unfolding_all rfl)) ?_
  (with_reducible apply hx_sNpred); (· (with_reducible apply st_set); with_reducible assumption); · (with_reducible apply st_set_ne); (· lia); · with_reducible assumption
  refine seq_next (hx_cons ?_)
  with_reducible apply hs_attr
  with_reducible apply hx_list
  with_reducible apply hx_evs0
  (with_reducible apply hx_newL); · decide
  refine hx_pv (pv_name (by kernel_rfl) (by with_unfolding_all rfl)) ?_
  (with_reducible apply hx_sSucc); (· (with_reducible apply st_old); (with_reducible apply st_set); (with_reducible apply st_set); with_reducible assumption); · (with_reducible apply st_old); (with_reducible apply st_set_ne); (· lia); · (with_reducible apply st_set_ne); (· lia); · with_reducible assumption
  refine seq_next ?_
  with_reducible apply hx_nil
  refine ⟨rfl, ?_⟩
  rw [show ((τ.set (σ.length + 1) (nodeO σ.length (some (AV.int k)) none none)).set (σ.length + 1) (nodeO σ.length (some (AV.int k)) (some (AV.int 0)) none)).length = σ.length + 2 by simp [hlen]]
  refine hq _ ?_ ?_ ?_ ?_ ?_
  · (with_reducible apply Ext.set); (· (with_reducible apply Ext.app); (with_reducible apply Ext.set); (· (with_reducible apply Ext.set); (· assumption); · lia); · lia); · lia
  · simp [hlen]
  · (with_reducible apply st_set_ne); (· lia); · (with_reducible apply st_old); (with_reducible apply st_set_ne); (· lia); · (with_reducible apply st_set_ne); (· lia); · with_reducible assumption
  · (with_reducible apply st_set); (with_reducible apply st_old); (with_reducible apply st_set); (with_reducible apply st_set); with_reducible assumption
  · refine st_set_ne (by lia) ?_
    have := @st_new ((τ.set (σ.length + 1) (nodeO σ.length (some (AV.int k)) none none)).set (σ.length + 1) (nodeO σ.length (some (AV.int k)) (some (AV.int 0)) none)) (.list [])
    simpa [hlen] using this
end

noncomputable def esOf (n : Nat) (a : Nat → Nat) : List (Int × AV) := (List.range n).map fun (i : Nat) => ((i : Int), AV.ref (a i))
noncomputable def fup {α : Type} (f : Nat → α) (i : Nat) (v : α) : Nat → α := fun j => if j = i then v else f j
theorem fup_self {α : Type} {f : Nat → α} {i : Nat} {v : α} : fup f i v i = v := if_pos rfl
theorem fup_ne {α : Type} {f : Nat → α} {i j : Nat} {v : α} (h : j ≠ i) : fup f i v j = f j := if_neg h
structure G where
  so : Nat
  d : Nat
  n2i : Nat
  n : Nat
  a : Nat → Nat
  dd : Nat → Nat
  sl : Nat → Nat
  np : Nat → Int
  su : Nat → List Nat
  rl : Option (Nat × List Nat)
  po : Int
  fi : Int
noncomputable def G.nodeAt (g : G) (i : Nat) : AO := nodeO (g.dd i) (some (.int i)) (some (.int (g.np i))) (some (.ref (g.sl i)))
noncomputable def rdV : Option (Nat × List Nat) → AV
  | none => .none
  | some p => .ref p.1
inductive Foot (g : G) : Nat → Prop
  | so : Foot g g.so
  | d : Foot g g.d
  | n2i : Foot g g.n2i
  | a {i : Nat} : i < g.n → Foot g (g.a i)
  | dd {i : Nat} : i < g.n → Foot g (g.dd i)
  | sl {i : Nat} : i < g.n → Foot g (g.sl i)
  | rl {r : Nat} {l : List Nat} : g.rl = some (r, l) → Foot g r
structure Srt (lo : Nat) (g : G) (σ : Store) : Prop where
  so : σ[g.so]? = some (.inst cSort g.d)
  d : σ[g.d]? = some (sortNs (.ref g.n2i) (rdV g.rl) (.int g.po) (.int g.fi))
  n2i : σ[g.n2i]? = some (.dict (esOf g.n g.a))
  node : ∀ i, i < g.n → σ[g.a i]? = some (g.nodeAt i)
  ns : ∀ i, i < g.n → σ[g.dd i]? = some (.ns [])
  sl : ∀ i, i < g.n → σ[g.sl i]? = some (.list (natsV (g.su i)))
  inj : ∀ i j, i < g.n → j < g.n → g.sl i = g.sl j → i = j
  rdy : ∀ r l, g.rl = some (r, l) → σ[r]? = some (.list (natsV l)) ∧ ∀ i, i < g.n → g.sl i ≠ r
  lo : ∀ j, Foot g j → lo ≤ j
theorem ne_of {σ : Store} {i j : Nat} {o o' : AO} (h : σ[i]? = some o) (h' : σ[j]? = some o') (hn : o ≠ o') : i ≠ j := fun e => by
  rw [e, h'] at h; cases h; exact hn rfl
structure Stp (g : G) (σ : Store) (g' : G) (σ' : Store) : Prop where
  keep : ∀ (j : Nat) (o : AO), ¬ Foot g j → σ[j]? = some o → σ'[j]? = some o
  foot : ∀ j, Foot g' j → Foot g j ∨ σ.length ≤ j
  len : σ.length ≤ σ'.length
section
variable {lo : Nat} {g g' g'' : G} {σ σ' σ'' : Store}
theorem Srt.lt (s : Srt lo g σ) {j : Nat} (h : Foot g j) : j < σ.length := by
  cases h with
  | so => exact lt_of s.so
  | d => exact lt_of s.d
  | n2i => exact lt_of s.n2i
  | a h => exact lt_of (s.node _ h)
  | dd h => exact lt_of (s.ns _ h)
  | sl h => exact lt_of (s.sl _ h)
  | rl h => exact lt_of (s.rdy _ _ h).1
theorem Stp.refl : Stp g σ g σ := ⟨fun _ _ _ h => h, fun _ h => .inl h, Nat.le_refl _⟩
theorem Stp.nf (t : Stp g σ g' σ') {j : Nat} (h : ¬ Foot g j) (hl : j < σ.length) : ¬ Foot g' j := fun q => by
  rcases t.foot j q with q | q
  · exact h q
  · lia
theorem Stp.trans (t : Stp g σ g' σ') (u : Stp g' σ' g'' σ'') : Stp g σ g'' σ'' :=
  ⟨fun j o h e => u.keep j o (t.nf h (lt_of e)) (t.keep j o h e), fun j h => by
    rcases u.foot j h with h | h
    · exact t.foot j h
    · exact .inr (Nat.le_trans t.len h), Nat.le_trans t.len u.len⟩
theorem Stp.of_ext (e : Ext σ σ') : Stp g σ g σ' := ⟨fun j o _ h => e j o h, fun _ h => .inl h, e.len⟩
theorem Stp.ext {σ₀ : Store} (t : Stp g σ g' σ') (s : Srt lo g σ) (hl : σ₀.length ≤ lo) (x : Ext σ₀ σ) : Ext σ₀ σ' := fun j o e => t.keep j o (fun q => by
  have := s.lo j q
  have := lt_of e
  lia) (x j o e)
theorem Srt.fresh (s : Srt lo g σ) : ¬ Foot g σ.length := fun q => Nat.lt_irrefl _ (s.lt q)
theorem Srt.fresh' (s : Srt lo g σ) {j : Nat} (h : σ.length ≤ j) : ¬ Foot g j := fun q => by have := s.lt q; lia
theorem Srt.same (s : Srt lo g σ) (k : ∀ j o, Foot g j → σ[j]? = some o → σ'[j]? = some o) : Srt lo g σ' :=
  ⟨k _ _ .so s.so, k _ _ .d s.d, k _ _ .n2i s.n2i, fun i h => k _ _ (.a h) (s.node i h), fun i h => k _ _ (.dd h) (s.ns i h), fun i h => k _ _ (.sl h) (s.sl i h), s.inj, fun r l h => ⟨k _ _ (.rl h) (s.rdy r l h).1, (s.rdy r l h).2⟩, s.lo⟩
theorem Srt.ext (s : Srt lo g σ) (e : Ext σ σ') : Srt lo g σ' := s.same fun j o _ h => e j o h
theorem Srt.app (s : Srt lo g σ) {t : Store} : Srt lo g (σ ++ t) := s.ext Ext.refl.app
theorem Srt.set (s : Srt lo g σ) {j : Nat} {o : AO} (h : ¬ Foot g j) : Srt lo g (σ.set j o) := s.same fun i u hi e => st_set_ne (fun q => h (q ▸ hi)) e
theorem Srt.inja (s : Srt lo g σ) {i j : Nat} (hi : i < g.n) (hj : j < g.n) (h : g.a i = g.a j) : i = j := by
  have h1 := s.node i hi
  rw [h, s.node j hj] at h1
  have h2 : (j : Int) = i := by
    have := congrArg (fun (o : Option AO) => match o with | some (.slots _ _ (some (.int k) :: _)) => k | _ => 0) h1
    exact this
  lia
theorem Stp.set (s : Srt lo g σ) {j : Nat} {o : AO} (h : Foot g j) (hf : ∀ j, Foot g' j → Foot g j) : Stp g σ g' (σ.set j o) := ⟨fun i u hi e => st_set_ne (fun (q : j = i) => hi (q ▸ h)) e, fun i hi => .inl (hf i hi), by rw [List.length_set]; exact Nat.le_refl _⟩
noncomputable def G.setNp (g : G) (i : Nat) (k : Int) : G := { g with np := fup g.np i k }
theorem Srt.setNp (s : Srt lo g σ) {i : Nat} (hi : i < g.n) (k : Int) : Srt lo (g.setNp i k) (σ.set (g.a i) (nodeO (g.dd i) (some (.int i)) (some (.int k)) (some (.ref (g.sl i))))) where
  so := st_set_ne (ne_of (s.node i hi) s.so (fun h => by cases h)) s.so
  d := st_set_ne (ne_of (s.node i hi) s.d (fun h => by cases h)) s.d
  n2i := st_set_ne (ne_of (s.node i hi) s.n2i (fun h => by cases h)) s.n2i
  node := fun j hj => by
    by_cases h : j = i
    · subst h
      show (σ.set (g.a j) _)[g.a j]? = _
      rw [st_set (s.node j hj)]
      unfold G.nodeAt G.setNp
      simp only [fup_self]
    · show (σ.set (g.a i) _)[g.a j]? = _
      rw [st_set_ne (fun q => h (s.inja hi hj q).symm) (s.node j hj)]
      unfold G.nodeAt G.setNp
      simp only [fup_ne h]
  ns := fun j hj => st_set_ne (ne_of (s.node i hi) (s.ns j hj) (fun h => by cases h)) (s.ns j hj)
  sl := fun j hj => st_set_ne (ne_of (s.node i hi) (s.sl j hj) (fun h => by cases h)) (s.sl j hj)
  inj := s.inj
  rdy := fun r l h => ⟨st_set_ne (ne_of (s.node i hi) (s.rdy r l h).1 (fun h => by cases h)) (s.rdy r l h).1, (s.rdy r l h).2⟩
  lo := fun j h => s.lo j (by cases h <;> first | exact .so | exact .d | exact .n2i | exact .a ‹_› | exact .dd ‹_› | exact .sl ‹_› | exact .rl ‹_›)
theorem Stp.setNp (s : Srt lo g σ) {i : Nat} {k : Int} {o : AO} (hi : i < g.n) : Stp g σ (g.setNp i k) (σ.set (g.a i) o) := .set s (.a hi) (fun j h => by cases h <;> first | exact .so | exact .d | exact .n2i | exact .a ‹_› | exact .dd ‹_› | exact .sl ‹_› | exact .rl ‹_›)
noncomputable def G.setSu (g : G) (i : Nat) (l : List Nat) : G := { g with su := fup g.su i l }
theorem Srt.setSu (s : Srt lo g σ) {i : Nat} (hi : i < g.n) (l : List Nat) : Srt lo (g.setSu i l) (σ.set (g.sl i) (.list (natsV l))) where
  so := st_set_ne (ne_of (s.sl i hi) s.so (fun h => by cases h)) s.so
  d := st_set_ne (ne_of (s.sl i hi) s.d (fun h => by cases h)) s.d
  n2i := st_set_ne (ne_of (s.sl i hi) s.n2i (fun h => by cases h)) s.n2i
  node := fun j hj => st_set_ne (ne_of (s.sl i hi) (s.node j hj) (fun h => by cases h)) (s.node j hj)
  ns := fun j hj => st_set_ne (ne_of (s.sl i hi) (s.ns j hj) (fun h => by cases h)) (s.ns j hj)
  sl := fun j hj => by
    by_cases h : j = i
    · subst h
      show (σ.set (g.sl j) _)[g.sl j]? = _
      rw [st_set (s.sl j hj)]
      unfold G.setSu
      simp only [fup_self]
    · show (σ.set (g.sl i) _)[g.sl j]? = _
      rw [st_set_ne (fun q => h (s.inj _ _ hi hj q).symm) (s.sl j hj)]
      unfold G.setSu
      simp only [fup_ne h]
  inj := s.inj
  rdy := fun r l h => ⟨st_set_ne ((s.rdy r l h).2 i hi) (s.rdy r l h).1, (s.rdy r l h).2⟩
  lo := fun j h => s.lo j (by cases h <;> first | exact .so | exact .d | exact .n2i | exact .a ‹_› | exact .dd ‹_› | exact .sl ‹_› | exact .rl ‹_›)
theorem Stp.setSu (s : Srt lo g σ) {i : Nat} {l : List Nat} {o : AO} (hi : i < g.n) : Stp g σ (g.setSu i l) (σ.set (g.sl i) o) := .set s (.sl hi) (fun j h => by cases h <;> first | exact .so | exact .d | exact .n2i | exact .a ‹_› | exact .dd ‹_› | exact .sl ‹_› | exact .rl ‹_›)
noncomputable def G.setC (g : G) (po fi : Int) : G := { g with po := po, fi := fi }
theorem Srt.setC (s : Srt lo g σ) (po fi : Int) : Srt lo (g.setC po fi) (σ.set g.d (sortNs (.ref g.n2i) (rdV g.rl) (.int po) (.int fi))) where
  so := st_set_ne (ne_of s.d s.so (fun h => by cases h)) s.so
  d := st_set s.d
  n2i := st_set_ne (ne_of s.d s.n2i (fun h => by cases h)) s.n2i
  node := fun j hj => st_set_ne (ne_of s.d (s.node j hj) (fun h => by cases h)) (s.node j hj)
  ns := fun j hj => st_set_ne (ne_of s.d (s.ns j hj) (fun h => by cases h)) (s.ns j hj)
  sl := fun j hj => st_set_ne (ne_of s.d (s.sl j hj) (fun h => by cases h)) (s.sl j hj)
  inj := s.inj
  rdy := fun r l h => ⟨st_set_ne (ne_of s.d (s.rdy r l h).1 (fun h => by cases h)) (s.rdy r l h).1, (s.rdy r l h).2⟩
  lo := fun j h => s.lo j (by cases h <;> first | exact .so | exact .d | exact .n2i | exact .a ‹_› | exact .dd ‹_› | exact .sl ‹_› | exact .rl ‹_›)
theorem Stp.setC (s : Srt lo g σ) {po fi : Int} {o : AO} : Stp g σ (g.setC po fi) (σ.set g.d o) := .set s .d (fun j h => by cases h <;> first | exact .so | exact .d | exact .n2i | exact .a ‹_› | exact .dd ‹_› | exact .sl ‹_› | exact .rl ‹_›)
noncomputable def G.setR (g : G) (r : Nat) (l : List Nat) : G := { g with rl := some (r, l) }
theorem Srt.newR (s : Srt lo g σ) {r : Nat} {l : List Nat} (hr : σ[r]? = some (.list (natsV l))) (hf : ¬ Foot g r) (hl : lo ≤ r) : Srt lo (g.setR r l) (σ.set g.d (sortNs (.ref g.n2i) (.ref r) (.int g.po) (.int g.fi))) where
  so := st_set_ne (ne_of s.d s.so (fun h => by cases h)) s.so
  d := st_set s.d
  n2i := st_set_ne (ne_of s.d s.n2i (fun h => by cases h)) s.n2i
  node := fun j hj => st_set_ne (ne_of s.d (s.node j hj) (fun h => by cases h)) (s.node j hj)
  ns := fun j hj => st_set_ne (ne_of s.d (s.ns j hj) (fun h => by cases h)) (s.ns j hj)
  sl := fun j hj => st_set_ne (ne_of s.d (s.sl j hj) (fun h => by cases h)) (s.sl j hj)
  inj := s.inj
  rdy := fun r' l' h => by
    cases h
    exact ⟨st_set_ne (ne_of s.d hr (fun h => by cases h)) hr, fun i hi q => hf (q ▸ .sl hi)⟩
  lo := fun j h => by cases h <;> first | exact s.lo _ .so | exact s.lo _ .d | exact s.lo _ .n2i | exact s.lo _ (.a ‹_›) | exact s.lo _ (.dd ‹_›) | exact s.lo _ (.sl ‹_›) | (rename_i h; cases h; exact hl)
theorem Srt.setR (s : Srt lo g σ) {r : Nat} {l l' : List Nat} (hr : g.rl = some (r, l')) : Srt lo (g.setR r l) (σ.set r (.list (natsV l))) where
  so := st_set_ne (ne_of (s.rdy _ _ hr).1 s.so (fun h => by cases h)) s.so
  d := by
    have h := st_set_ne (o' := .list (natsV l)) (ne_of (s.rdy _ _ hr).1 s.d (fun h => by cases h)) s.d
    rw [hr] at h
    exact h
  n2i := st_set_ne (ne_of (s.rdy _ _ hr).1 s.n2i (fun h => by cases h)) s.n2i
  node := fun j hj => st_set_ne (ne_of (s.rdy _ _ hr).1 (s.node j hj) (fun h => by cases h)) (s.node j hj)
  ns := fun j hj => st_set_ne (ne_of (s.rdy _ _ hr).1 (s.ns j hj) (fun h => by cases h)) (s.ns j hj)
  sl := fun j hj => st_set_ne ((s.rdy _ _ hr).2 j hj).symm (s.sl j hj)
  inj := s.inj
  rdy := fun r' l' h => by
    cases h
    exact ⟨st_set (s.rdy _ _ hr).1, (s.rdy _ _ hr).2⟩
  lo := fun j h => by cases h <;> first | exact s.lo _ .so | exact s.lo _ .d | exact s.lo _ .n2i | exact s.lo _ (.a ‹_›) | exact s.lo _ (.dd ‹_›) | exact s.lo _ (.sl ‹_›) | (rename_i h; cases h; exact s.lo _ (.rl hr))
theorem Stp.setR (s : Srt lo g σ) {r : Nat} {l l' : List Nat} {o : AO} (hr : g.rl = some (r, l')) : Stp g σ (g.setR r l) (σ.set r o) := .set s (.rl hr) (fun j h => by cases h <;> first | exact .so | exact .d | exact .n2i | exact .a ‹_› | exact .dd ‹_› | exact .sl ‹_› | (rename_i h; cases h; exact .rl hr))
theorem esOf_succ {n : Nat} {a : Nat → Nat} {v : Nat} : dput (esOf n a) n (.ref v) = esOf (n + 1) (fup a n v) := by
  have h : ∀ (l : List Nat), (∀ i ∈ l, i < n) → dput (l.map fun (i : Nat) => ((i : Int), AV.ref (a i))) n (.ref v) = (l.map fun (i : Nat) => ((i : Int), AV.ref (fup a n v i))) ++ [((n : Int), .ref v)] := by
    intro l
    induction l with
    | nil => intro _; rfl
    | cons i l ih =>
      intro hl
      have hi := hl i (.head _)
      show dput (((i : Int), AV.ref (a i)) :: _) n (.ref v) = _
      unfold dput
      rw [if_neg (by lia), ih fun j hj => hl j (.tail _ hj)]
      rw [List.map_cons, List.cons_append, fup_ne (show i ≠ n by lia)]
  unfold esOf
  rw [h _ (fun i hi => List.mem_range.mp hi), List.range_succ, List.map_append]
  simp [fup_self]
theorem dget_esOf {n i : Nat} {a : Nat → Nat} (h : i < n) : dget (esOf n a) i = some (.ref (a i)) := by
  unfold dget esOf
  have : ∀ (l : List Nat), i ∈ l → (l.map fun (i : Nat) => ((i : Int), AV.ref (a i))).lookup (i : Int) = some (.ref (a i)) := by
    intro l
    induction l with
    | nil => intro h; cases h
    | cons j l ih =>
      intro h
      rw [List.map_cons, List.lookup_cons]
      by_cases e : i = j
      · subst e; simp
      · have e' : ((i : Int) == (j : Int)) = false := by rw [beq_eq_false_iff_ne]; lia
        rw [e']
        rcases List.mem_cons.mp h with h | h
        · exact absurd h e
        · exact ih h
  exact this _ (List.mem_range.mpr h)
theorem dget_esOf_none {n i : Nat} {a : Nat → Nat} (h : n ≤ i) : dget (esOf n a) i = none := by
  unfold dget esOf
  rw [List.lookup_eq_none_iff]
  intro p hp
  obtain ⟨j, hj, rfl⟩ := List.mem_map.mp hp
  have := List.mem_range.mp hj
  simp; lia
theorem esOf_len {n : Nat} {a : Nat → Nat} : (esOf n a).length = n := by unfold esOf; simp
noncomputable def G.add1 (g : G) (a dd sl : Nat) : G := { g with n := g.n + 1, a := fup g.a g.n a, dd := fup g.dd g.n dd, sl := fup g.sl g.n sl, np := fup g.np g.n 0, su := fup g.su g.n [] }
theorem add1_foot {a dd sl j : Nat} (h : Foot (g.add1 a dd sl) j) : Foot g j ∨ j = a ∨ j = dd ∨ j = sl := by
  cases h with
  | so => exact .inl .so
  | d => exact .inl .d
  | n2i => exact .inl .n2i
  | rl h => exact .inl (.rl h)
  | @a i h =>
    by_cases e : i = g.n
    · exact .inr (.inl (e ▸ fup_self))
    · refine .inl ?_
      rw [show (g.add1 a dd sl).a i = g.a i from fup_ne e]
      exact .a (by have : i < g.n + 1 := h; lia)
  | @dd i h =>
    by_cases e : i = g.n
    · exact .inr (.inr (.inl (e ▸ fup_self)))
    · refine .inl ?_
      rw [show (g.add1 a dd sl).dd i = g.dd i from fup_ne e]
      exact .dd (by have : i < g.n + 1 := h; lia)
  | @sl i h =>
    by_cases e : i = g.n
    · exact .inr (.inr (.inr (e ▸ fup_self)))
    · refine .inl ?_
      rw [show (g.add1 a dd sl).sl i = g.sl i from fup_ne e]
      exact .sl (by have : i < g.n + 1 := h; lia)
theorem Srt.addNode (s : Srt lo g σ) {a dd sl : Nat} (h1 : σ[a]? = some (nodeO dd (some (.int g.n)) (some (.int 0)) (some (.ref sl)))) (h2 : σ[dd]? = some (.ns [])) (h3 : σ[sl]? = some (.list [])) (hl : lo ≤ a ∧ lo ≤ dd ∧ lo ≤ sl) (hf : ¬ Foot g sl) :
    Srt lo (g.add1 a dd sl) (σ.set g.n2i (.dict (dput (esOf g.n g.a) g.n (.ref a)))) where
  so := st_set_ne (ne_of s.n2i s.so (fun h => by cases h)) s.so
  d := st_set_ne (ne_of s.n2i s.d (fun h => by cases h)) s.d
  n2i := by rw [esOf_succ]; exact st_set s.n2i
  node := fun j hj => by
    have hj : j < g.n + 1 := hj
    unfold G.nodeAt G.add1
    dsimp only
    by_cases h : j = g.n
    · subst h
      simp only [fup_self]
      exact st_set_ne (ne_of s.n2i h1 (fun h => by cases h)) h1
    · simp only [fup_ne h]
      exact st_set_ne (ne_of s.n2i (s.node j (by lia)) (fun h => by cases h)) (s.node j (by lia))
  ns := fun j hj => by
    have hj : j < g.n + 1 := hj
    unfold G.add1
    dsimp only
    by_cases h : j = g.n
    · subst h
      simp only [fup_self]
      exact st_set_ne (ne_of s.n2i h2 (fun h => by cases h)) h2
    · simp only [fup_ne h]
      exact st_set_ne (ne_of s.n2i (s.ns j (by lia)) (fun h => by cases h)) (s.ns j (by lia))
  sl := fun j hj => by
    have hj : j < g.n + 1 := hj
    unfold G.add1
    dsimp only
    by_cases h : j = g.n
    · subst h
      simp only [fup_self]
      exact st_set_ne (ne_of s.n2i h3 (fun h => by cases h)) h3
    · simp only [fup_ne h]
      exact st_set_ne (ne_of s.n2i (s.sl j (by lia)) (fun h => by cases h)) (s.sl j (by lia))
  inj := fun i j hi hj h => by
    have hi : i < g.n + 1 := hi
    have hj : j < g.n + 1 := hj
    unfold G.add1 at h
    dsimp only at h
    by_cases e : i = g.n
    · by_cases e' : j = g.n
      · lia
      · rw [e, fup_self, fup_ne e'] at h
        exact absurd (h ▸ .sl (by lia)) hf
    · by_cases e' : j = g.n
      · rw [e', fup_self, fup_ne e] at h
        exact absurd (h ▸ .sl (by lia)) hf
      · rw [fup_ne e, fup_ne e'] at h
        exact s.inj i j (by lia) (by lia) h
  rdy := fun r l h => by
    refine ⟨st_set_ne (ne_of s.n2i (s.rdy r l h).1 (fun h => by cases h)) (s.rdy r l h).1, fun i hi => ?_⟩
    have hi : i < g.n + 1 := hi
    unfold G.add1
    dsimp only
    by_cases e : i = g.n
    · rw [e, fup_self]; exact fun q => hf (q ▸ .rl h)
    · rw [fup_ne e]; exact (s.rdy r l h).2 i (by lia)
  lo := fun j h => by
    rcases add1_foot h with h | rfl | rfl | rfl
    · exact s.lo j h
    · exact hl.1
    · exact hl.2.1
    · exact hl.2.2
structure At (lo : Nat) (g₀ : G) (σ₀ : Store) (g : G) (σ : Store) : Prop where
  s : Srt lo g σ
  t : Stp g₀ σ₀ g σ
section
variable {g₀ : G} {σ₀ : Store}
theorem At.refl (s : Srt lo g σ) : At lo g σ g σ := ⟨s, .refl⟩
theorem At.trans (x : At lo g₀ σ₀ g σ) (y : At lo g σ g' σ') : At lo g₀ σ₀ g' σ' := ⟨y.s, x.t.trans y.t⟩
theorem At.ext (x : At lo g₀ σ₀ g σ) (e : Ext σ σ') : At lo g₀ σ₀ g σ' := ⟨x.s.ext e, x.t.trans (.of_ext e)⟩
theorem At.app (x : At lo g₀ σ₀ g σ) {t : Store} : At lo g₀ σ₀ g (σ ++ t) := x.ext Ext.refl.app
theorem At.setNp (x : At lo g₀ σ₀ g σ) {i : Nat} (hi : i < g.n) (k : Int) : At lo g₀ σ₀ (g.setNp i k) (σ.set (g.a i) (nodeO (g.dd i) (some (.int i)) (some (.int k)) (some (.ref (g.sl i))))) := ⟨x.s.setNp hi k, x.t.trans (.setNp x.s hi)⟩
theorem At.setSu (x : At lo g₀ σ₀ g σ) {i : Nat} (hi : i < g.n) (l : List Nat) : At lo g₀ σ₀ (g.setSu i l) (σ.set (g.sl i) (.list (natsV l))) := ⟨x.s.setSu hi l, x.t.trans (.setSu x.s hi)⟩
theorem At.setC (x : At lo g₀ σ₀ g σ) (po fi : Int) : At lo g₀ σ₀ (g.setC po fi) (σ.set g.d (sortNs (.ref g.n2i) (rdV g.rl) (.int po) (.int fi))) := ⟨x.s.setC po fi, x.t.trans (.setC x.s)⟩
theorem At.setR (x : At lo g₀ σ₀ g σ) {r : Nat} {l l' : List Nat} (hr : g.rl = some (r, l')) : At lo g₀ σ₀ (g.setR r l) (σ.set r (.list (natsV l))) := ⟨x.s.setR hr, x.t.trans (.setR x.s hr)⟩
theorem At.newR (x : At lo g₀ σ₀ g σ) {r : Nat} {l : List Nat} (hr : σ[r]? = some (.list (natsV l))) (hf : ¬ Foot g r) (hl : lo ≤ r) (h0 : σ₀.length ≤ r) : At lo g₀ σ₀ (g.setR r l) (σ.set g.d (sortNs (.ref g.n2i) (.ref r) (.int g.po) (.int g.fi))) :=
  ⟨x.s.newR hr hf hl, fun j o h e => st_set_ne (fun q => x.t.nf h (lt_of e) (q ▸ .d)) (x.t.keep j o h e), fun j h => by
    cases h <;> first | exact x.t.foot _ .so | exact x.t.foot _ .d | exact x.t.foot _ .n2i | exact x.t.foot _ (.a ‹_›) | exact x.t.foot _ (.dd ‹_›) | exact x.t.foot _ (.sl ‹_›) | (rename_i h; cases h; exact .inr h0), by rw [List.length_set]; exact x.t.len⟩
theorem At.get (x : At lo g₀ σ₀ g σ) {j : Nat} {o : AO} (h : ¬ Foot g₀ j) (e : σ₀[j]? = some o) : σ[j]? = some o := x.t.keep j o h e
end
theorem none_and {A : Prop} (h : A) : AV.none = .none ∧ A := ⟨rfl, h⟩
theorem lookup_miss {x : Str} : ∀ {l : List (Str × AV)}, (l.map (·.1)).contains x = false → l.lookup x = none
  | [], _ => rfl
  | (y, v) :: r, h => by
    rw [List.map_cons, List.contains_cons, Bool.or_eq_false_iff] at h
    rw [List.lookup_cons, h.1]
    exact lookup_miss h.2
theorem hx_findSo {n : Nat} {sc : Scope} {bs : Bs} {i d : Nat} {a b c e : AV} {x : Str} {f : Addr} {Q : MK → Bs → Store → Prop} (h1 : σ[i]? = some (.inst cSort d)) (h2 : σ[d]? = some (sortNs a b c e)) (h3 : PP.meth cSort x = some f)
    (h4 : (["_node2info", "_ready_nodes", "_npassedout", "_nfinished"] : List Str).contains x = false) (h : Q (.fn f) bs σ) : Hx (findMeth PP (.ref i) x : Mm PP n sc MK) bs σ Q :=
  hx_findA h1 h2 h3 ⟨rfl, rfl, lookup_miss h4⟩ h
theorem bind_va {fn : Fn} {args : List AV} (hle : fn.params.length ≤ args.length) (hv : fn.vararg.isSome = true) : bindArgs fn [] args = some (fn.params.zip (args.take fn.params.length), args.drop fn.params.length) := by
  unfold bindArgs
  dsimp only
  split
  · rename_i h
    have e : args.length = fn.params.length := by lia
    rw [if_pos (by lia)]
    rw [List.drop_nil, List.append_nil, ← e, List.take_length, List.drop_length]
  · first | rfl | rw [if_pos hv]
end

section
variable {bs : Bs} {σ : Store} {n lo : Nat} {g : G} {sc : Scope}
theorem getinfo_old {i : Nat} {Q : AV → Bs → Store → Prop} (s : Srt lo g σ) (hi : i < g.n) (hq : Q (.ref (g.a i)) bs σ) : Hx (callA PP (n + 20) aGetInfo [.ref g.so, .int i] : Mm PP (n + 20) sc AV) bs σ Q := by
  refine hx_up ?_
  refine hx_callE (bs₀ := [("self", .ref g.so), ("node", .int i)]) (rest := []) rfl (by with_unfolding_all rfl) (by kernel_rfl) (by kernel_rfl) ?_
  have h1 := s.so
  have h2 := s.d
  have h3 := s.n2i
  refine hx_cons ?_
  with_reducible apply hs_ifH
  (with_reducible apply hx_tCmp); · kernel_rfl
  (with_reducible apply hx_walrus); · kernel_rfl
  (with_reducible apply hx_meth); (· exact ⟨by decide, by decide, rfl⟩); · rfl
  (with_reducible apply hx_pv); · (with_reducible apply pv_attr); (· kernel_rfl); (· exact pv_name (by kernel_rfl) (by with_unfolding_all rfl)); · (with_reducible apply pv_n2i); (· with_reducible assumption); (· with_reducible assumption); · rfl
  (with_reducible apply hx_findD); (· with_reducible assumption); · exact .inl ⟨rfl, rfl⟩
  refine hx_args1 rfl ?_
  refine hx_pv (pv_name (by kernel_rfl) (by with_unfolding_all rfl)) ?_
  refine hx_args0 ?_
  (with_reducible apply hx_mcallB); · kernel_rfl
  (with_reducible apply hx_mGet); · with_reducible assumption
  (with_reducible apply hx_pv); · with_reducible exact pv_none
  rw [dget_esOf hi]
  (with_reducible apply hx_pv); · (with_reducible apply pv_is); rfl
  with_reducible apply ex_bool
  with_reducible apply br_false
  with_reducible apply hx_nil
  refine seq_next (hx_cons ?_)
  with_reducible apply hs_ret
  refine hx_pv (pv_name (by kernel_rfl) (by with_unfolding_all rfl)) ?_
  with_reducible apply seq_ret
  exact hq
theorem getinfo_new {Q : AV → Bs → Store → Prop} (s : Srt lo g σ) (hn : g.n < 1000) (hlo : lo ≤ σ.length) (hq : ∀ a dd sl σ', At lo g σ (g.add1 a dd sl) σ' → Q (.ref a) bs σ') : Hx (callA PP (n + 30) aGetInfo [.ref g.so, .int g.n] : Mm PP (n + 30) sc AV) bs σ Q := by
  refine hx_up ?_
  refine hx_callE (bs₀ := [("self", .ref g.so), ("node", .int g.n)]) (rest := []) rfl (by with_unfolding_all rfl) (by kernel_rfl) (by kernel_rfl) ?_
  have h1 := s.so
  have h2 := s.d
  have h3 := s.n2i
  have hes : (esOf g.n g.a).length < 1000 := by rw [esOf_len]; exact hn
  refine hx_cons ?_
  with_reducible apply hs_ifH
  (with_reducible apply hx_tCmp); · kernel_rfl
  (with_reducible apply hx_walrus); · kernel_rfl
  (with_reducible apply hx_meth); (· exact ⟨by decide, by decide, rfl⟩); · rfl
  (with_reducible apply hx_pv); · (with_reducible apply pv_attr); (· kernel_rfl); (· exact pv_name (by kernel_rfl) (by with_unfolding_all rfl)); · (with_reducible apply pv_n2i); (· with_reducible assumption); (· with_reducible assumption); · rfl
  (with_reducible apply hx_findD); (· with_reducible assumption); · exact .inl ⟨rfl, rfl⟩
  refine hx_args1 rfl ?_
  refine hx_pv (pv_name (by kernel_rfl) (by with_unfolding_all rfl)) ?_
  refine hx_args0 ?_
  (with_reducible apply hx_mcallB); · kernel_rfl
  (with_reducible apply hx_mGet); · with_reducible assumption
  (with_reducible apply hx_pv); · with_reducible exact pv_none
  rw [dget_esOf_none (Nat.le_refl _)]
  (with_reducible apply hx_pv); · (with_reducible apply pv_is); rfl
  with_reducible apply ex_bool
  with_reducible apply br_true
  refine hx_cons ?_
  (with_reducible apply hs_itemName); · kernel_rfl
  refine hx_call rfl ?_
  refine hx_pv (pv_glob (by kernel_rfl) (by with_unfolding_all rfl)) ?_
  refine hx_args1 rfl ?_
  refine hx_pv (pv_name (by kernel_rfl) (by with_unfolding_all rfl)) ?_
  refine hx_args0 ?_
  refine nodeinfo_run fun σ' e hl k1 k2 k3 => ?_
  (with_reducible apply hx_pv); · (with_reducible apply pv_attr); (· kernel_rfl); (· exact pv_name (by kernel_rfl) (by with_unfolding_all rfl)); · (with_reducible apply pv_n2i); (· (with_reducible apply Ext.get); (· with_reducible assumption); · with_reducible assumption); (· (with_reducible apply Ext.get); (· with_reducible assumption); · with_reducible assumption); · rfl
  refine hx_pv (pv_name (by kernel_rfl) (by with_unfolding_all rfl)) ?_
  (with_reducible apply hx_setitemD); (· (with_reducible apply Ext.get); (· with_reducible assumption); · with_reducible assumption); · assumption
  refine seq_next ?_
  with_reducible apply hx_nil
  refine seq_next (hx_cons ?_)
  with_reducible apply hs_ret
  refine hx_pv (pv_name (by kernel_rfl) (by with_unfolding_all rfl)) ?_
  with_reducible apply seq_ret
  have hle : σ.length ≤ σ'.length := e.len
  refine hq (σ.length + 1) σ.length (σ.length + 2) _ ⟨(s.ext e).addNode k2 k1 k3 ⟨by lia, hlo, by lia⟩ fun q => ?_, fun j o hj ho => st_set_ne (fun q => hj (q ▸ .n2i)) (e j o ho), fun j hj => ?_, by rw [List.length_set]; exact hle⟩
  · exact s.fresh' (Nat.le_add_right _ 2) q
  · rcases add1_foot hj with h | rfl | rfl | rfl
    · exact .inl h
    · exact .inr (by lia)
    · exact .inr (Nat.le_refl _)
    · exact .inr (by lia)
end

theorem items_nats {l : List Nat} : (natsV l).map Item.one = l.map fun (i : Nat) => Item.one (.int i) := by unfold natsV; rw [List.map_map]; rfl
theorem natsV_snoc {l : List Nat} {k : Nat} : natsV l ++ [.int k] = natsV (l ++ [k]) := by unfold natsV; rw [List.map_append]; rfl
theorem hx_forPre {ι : Type} {i : Nat} {o : AO} {sc : Scope} {target : Expr} {P : Prog} {n : Nat} {b : List Stmt} {mk : ι → Item} {xs : List ι} {bs : Bs} {σ : Store} {Q : Fl → Bs → Store → Prop} (B : List ι → Bs) (S : List ι → Store → Prop) (hw : ∀ pre σ, S pre σ → σ[i]? = some o)
    (hs : ∀ pre x post σ, xs = pre ++ x :: post → S pre σ → HxB P n sc target (mk x) b (B pre) σ fun fl bs' σ' => (fl = .next ∨ fl = .cont) ∧ Sub (B (pre ++ [x])) bs' ∧ S (pre ++ [x]) σ') (h0 : S [] σ) (hb : Sub (B []) bs)
    (he : ∀ σ' bs', S xs σ' → Sub (B xs) bs' → Q .next bs' σ') : Hx (forItems P n sc i o target b (xs.map mk)) bs σ Q := by
  refine hx_forItems (γ := List ι) (B := B) (I := fun pre r σ => S pre σ ∧ ∃ post, r = post.map mk ∧ xs = pre ++ post) (fun s r σ h => hw s σ h.1) (fun pre x r σ h => ?_) (fun s σ' bs' h hb => ?_) (xs.map mk) [] σ bs ⟨h0, xs, rfl, rfl⟩ hb
  · obtain ⟨h1, post, h2, h3⟩ := h
    cases post with
    | nil => cases h2
    | cons y post =>
      cases h2
      refine (hs pre y post σ h3 h1).mono fun fl bs' σ' h => ?_
      obtain ⟨h4, h5, h6⟩ := h
      have h7 : ∃ g', Sub (B g') bs' ∧ S g' σ' ∧ ∃ p, post.map mk = p.map mk ∧ xs = g' ++ p := ⟨_, h5, h6, post, rfl, by rw [h3, List.append_assoc]; rfl⟩
      rcases h4 with rfl | rfl
      · exact h7
      · exact h7
  · obtain ⟨h1, post, h2, h3⟩ := h
    cases post with
    | cons y r' => cases h2
    | nil =>
      rw [List.append_nil] at h3
      subst h3
      exact he _ _ h1 hb
section
variable {bs : Bs} {σ : Store} {n lo : Nat} {g : G} {sc : Scope}
noncomputable def succStep (k : Nat) (g : G) (p : Nat) : G := g.setSu p (g.su p ++ [k])
structure Same (g g' : G) : Prop where
  n : g'.n = g.n
  so : g'.so = g.so
  rl : g'.rl = g.rl
theorem Same.refl {a : G} : Same a a := ⟨rfl, rfl, rfl⟩
theorem Same.trans {a b c : G} (x : Same a b) (y : Same b c) : Same a c := ⟨y.1.trans x.1, y.2.trans x.2, y.3.trans x.3⟩
theorem succ_same {k : Nat} : ∀ (l : List Nat) (g : G), Same g (l.foldl (succStep k) g)
  | [], g => .refl
  | p :: l, g => (⟨rfl, rfl, rfl⟩ : Same g (succStep k g p)).trans (succ_same l _)
theorem succ_len {k p : Nat} : ∀ (l : List Nat) (g : G), ((l.foldl (succStep k) g).su p).length ≤ (g.su p).length + l.length
  | [], g => Nat.le_refl _
  | q :: l, g => by
    have h := succ_len (k := k) (p := p) l (succStep k g q)
    have h2 : ((succStep k g q).su p).length ≤ (g.su p).length + 1 := by
      show (fup g.su q (g.su q ++ [k]) p).length ≤ _
      by_cases e : p = q
      · subst e; rw [fup_self, List.length_append]; exact Nat.le_refl _
      · rw [fup_ne e]; lia
    rw [List.foldl_cons, List.length_cons]
    lia
theorem add_run {ps : List Nat} {Q : AV → Bs → Store → Prop} (s : Srt lo g σ) (hrd : g.rl = none) (hn : g.n < 1000) (hlo : lo ≤ σ.length) (hps : ∀ p ∈ ps, p < g.n) (hl : ps.length < 1000) (hsu : ∀ p < g.n, (g.su p).length + ps.length < 10000)
    (hq : ∀ a dd sl σ', At lo g σ (ps.foldl (succStep g.n) ((g.add1 a dd sl).setNp g.n ps.length)) σ' → Q .none bs σ') : Hx (callA PP (n + 60) aAdd (.ref g.so :: .int g.n :: natsV ps) : Mm PP (n + 60) sc AV) bs σ Q := by
  refine hx_up ?_
  have hlv : (natsV ps).length ≤ 1000000 := by rw [natsV_len]; lia
  refine hx_callAV (x := "predecessors") (bs₀ := [("self", .ref g.so), ("node", .int g.n)]) (rest := natsV ps) rfl (by with_unfolding_all rfl) (by kernel_rfl) ?_ hlv ?_
  · exact bind_va (fn := fAdd) (args := .ref g.so :: .int g.n :: natsV ps) (Nat.le_add_left 2 _) (by kernel_rfl)
  · have h1 : (σ ++ [.tuple (natsV ps)])[g.so]? = some (.inst cSort g.d) := st_old s.so
    have h2 : (σ ++ [.tuple (natsV ps)])[g.d]? = some (sortNs (.ref g.n2i) .none (.int g.po) (.int g.fi)) := by
      have := s.d
      rw [hrd] at this
      exact st_old this
    refine hx_cons ?_
    ((with_reducible apply hs_if); · (with_reducible apply pv_tCmp); (· kernel_rfl); (· (with_reducible apply pv_attr); (· kernel_rfl); (· exact pv_name (by kernel_rfl) (by with_unfolding_all rfl)); · (with_reducible apply pv_ready); (· with_reducible assumption); (· with_reducible assumption); · rfl); (· with_reducible exact pv_none); · (with_reducible apply pv_isnot); rfl) <;> first | (intro h; exact absurd h (by decide)) | refine imp_of (by decide) ?_ | skip
    with_reducible apply hx_nil
    refine seq_next (hx_cons ?_)
    refine hs_assign (by kernel_rfl) (by kernel_rfl) ?_
    (with_reducible apply hx_meth); (· exact ⟨by decide, by decide, rfl⟩); · rfl
    refine hx_pv (pv_name (by kernel_rfl) (by with_unfolding_all rfl)) ?_
    (with_reducible apply hx_findSo); (· with_reducible assumption); (· with_reducible assumption); (· rfl); · rfl
    refine hx_args1 rfl ?_
    refine hx_pv (pv_name (by kernel_rfl) (by with_unfolding_all rfl)) ?_
    refine hx_args0 ?_
    with_reducible apply hx_mcallF
    refine getinfo_new s.app hn (by rw [List.length_append]; lia) fun a dd sl σ' x => ?_
    have ht : σ'[σ.length]? = some (.tuple (natsV ps)) := x.get s.fresh st_new
    have x := (At.refl s).app.trans x
    have k1 := x.s.node g.n (Nat.lt_succ_self _)
    have k2 := x.s.ns g.n (Nat.lt_succ_self _)
    unfold G.nodeAt at k1
    rw [show (g.add1 a dd sl).np g.n = 0 from fup_self] at k1
    rw [show (AV.ref a) = .ref ((g.add1 a dd sl).a g.n) from congrArg AV.ref fup_self.symm]
    have hne := ne_of k1 ht (fun h => by cases h)
    refine seq_next (hx_cons ?_)
    (with_reducible apply hs_augA); (· exact pv_name (by kernel_rfl) (by with_unfolding_all rfl)); (· (with_reducible apply pv_npred); (· with_reducible assumption); · with_reducible assumption); · (with_reducible apply pv_call1); (· rfl); (· rfl); (· exact pv_glob (by kernel_rfl) (by with_unfolding_all rfl)); (· exact pv_name (by kernel_rfl) (by with_unfolding_all rfl)); · (with_reducible apply pv_lenT); with_reducible assumption
    (with_reducible apply hx_sNpred); (· with_reducible assumption); · with_reducible assumption
    refine seq_next (hx_cons ?_)
    (with_reducible apply hs_for); · kernel_rfl
    refine hx_pv (pv_name (by kernel_rfl) (by with_unfolding_all rfl)) ?_
    (with_reducible apply runFor_tuple); · (with_reducible apply st_set_ne); (· assumption); · with_reducible assumption
    rw [natsV_len, Int.zero_add, items_nats]
    have x := x.setNp (i := g.n) (Nat.lt_succ_self _) ps.length
    have hbound : ∀ p ∈ ps, ((g.add1 a dd sl).setNp g.n ps.length).su p = g.su p := fun p hp => fup_ne (by have := hps p hp; lia)
    have hso : ((g.add1 a dd sl).setNp g.n ps.length).so = g.so := rfl
    have hn2 : ((g.add1 a dd sl).setNp g.n ps.length).n = g.n + 1 := rfl
    have ht := st_set_ne (o' := nodeO ((g.add1 a dd sl).dd g.n) (some (.int g.n)) (some (.int ps.length)) (some (.ref ((g.add1 a dd sl).sl g.n)))) hne ht
    replace hq := hq a dd sl
    generalize (g.add1 a dd sl).setNp g.n ps.length = g2 at x hbound hso hn2 hq
    generalize σ'.set ((g.add1 a dd sl).a g.n) _ = σ₂ at x ht ⊢
    refine hx_forPre (B := fun _ => [("self", .ref g.so), ("node", .int g.n)]) (S := fun pre σ₃ => At lo g σ (pre.foldl (succStep g.n) g2) σ₃ ∧ σ₃[σ.length]? = some (.tuple (natsV ps))) (fun pre σ₃ h => h.2) (fun pre p post σ₃ hpre h => ?_) ⟨x, ht⟩ ?_ (fun σ₃ bs₃ h hb => ?_)
    · obtain ⟨x3, h3⟩ := h
      have sm := succ_same (k := g.n) pre g2
      have hp : p ∈ ps := by rw [hpre]; simp
      have hpl := hps p hp
      have hb3 := succ_len (k := g.n) (p := p) pre g2
      rw [hbound p hp] at hb3
      have hb5 := hsu p hpl
      have hb6 : ps.length = pre.length + (post.length + 1) := by rw [hpre]; simp
      rw [List.foldl_append]
      show HxB _ _ _ _ _ _ _ _ fun fl bs' σ' => _ ∧ _ ∧ At lo g σ (succStep g.n (pre.foldl (succStep g.n) g2) p) σ' ∧ _
      generalize pre.foldl (succStep g.n) g2 = g3 at x3 sm hb3 ⊢
      have hlt : p < g3.n := by rw [sm.n, hn2]; lia
      have e1 : g.so = g3.so := (hso ▸ sm.so).symm
      have h1 := x3.s.so
      have h2 := x3.s.d
      rw [e1]
      (with_reducible apply hx_bindN); · kernel_rfl
      refine hx_cons ?_
      refine hs_assign (by kernel_rfl) (by kernel_rfl) ?_
      (with_reducible apply hx_meth); (· exact ⟨by decide, by decide, rfl⟩); · rfl
      refine hx_pv (pv_name (by kernel_rfl) (by with_unfolding_all rfl)) ?_
      (with_reducible apply hx_findSo); (· with_reducible assumption); (· with_reducible assumption); (· rfl); · rfl
      refine hx_args1 rfl ?_
      refine hx_pv (pv_name (by kernel_rfl) (by with_unfolding_all rfl)) ?_
      refine hx_args0 ?_
      with_reducible apply hx_mcallF
      refine getinfo_old x3.s hlt ?_
      have h4 := x3.s.node p hlt
      have h5 := x3.s.ns p hlt
      have h6 := x3.s.sl p hlt
      unfold G.nodeAt at h4
      have h7 : (natsV (g3.su p) ++ [AV.int g.n]).length ≤ 1000000 := by rw [natsV_snoc, natsV_len, List.length_append, List.length_singleton]; lia
      refine seq_next (hx_cons ?_)
      (with_reducible apply hs_expr); · kernel_rfl
      (with_reducible apply hx_meth); (· exact ⟨by decide, by decide, rfl⟩); · rfl
      (with_reducible apply hx_pv); · (with_reducible apply pv_attr); (· kernel_rfl); (· exact pv_name (by kernel_rfl) (by with_unfolding_all rfl)); · (with_reducible apply pv_succ); (· with_reducible assumption); · with_reducible assumption
      (with_reducible apply hx_findL); (· with_reducible assumption); · exact .inl ⟨rfl, rfl⟩
      refine hx_args1 rfl ?_
      refine hx_pv (pv_name (by kernel_rfl) (by with_unfolding_all rfl)) ?_
      refine hx_args0 ?_
      (with_reducible apply hx_mcallB); · kernel_rfl
      (with_reducible apply hx_mAppend); (· with_reducible assumption); · assumption
      with_reducible apply none_and
      refine seq_next ?_
      with_reducible apply hx_nil
      rw [natsV_snoc]
      refine ⟨.inl rfl, ?_, x3.setSu hlt _, st_set_ne (ne_of h6 h3 (fun h => by cases h)) h3⟩
      refine Sub.cons (by with_unfolding_all rfl) ?_; refine Sub.cons (by with_unfolding_all rfl) ?_; with_reducible exact Sub.nil
    · refine Sub.cons (by with_unfolding_all rfl) ?_; refine Sub.cons (by with_unfolding_all rfl) ?_; with_reducible exact Sub.nil
    · refine hx_nil (hq _ ?_)
      exact h.1
end

theorem ext_thaw {σ σ' : Store} {i : Nat} {o o' : AO} (h : σ[i]? = some o) (e : Ext (σ.set i o') σ') : Ext σ (σ'.set i o) := fun j u hj => by
  by_cases q : i = j
  · subst q
    rw [h] at hj; cases hj
    exact st_set (e i o' (st_set h))
  · exact st_set_ne q (e j u (st_set_ne q hj))
noncomputable def sucs (preds : Nat → List Nat) (m p : Nat) : List Nat := (List.range m).flatMap fun k => ((preds k).filter (· == p)).map fun _ => k
theorem sucs_succ {preds : Nat → List Nat} {m p : Nat} : sucs preds (m + 1) p = sucs preds m p ++ ((preds m).filter (· == p)).map fun _ => m := by
  unfold sucs; rw [List.range_succ, List.flatMap_append]; simp
theorem sucs_len {preds : Nat → List Nat} {c : Nat} (h : ∀ k, (preds k).length ≤ c) : ∀ m p, (sucs preds m p).length ≤ m * c
  | 0, p => by rw [Nat.zero_mul]; exact Nat.le_refl _
  | m + 1, p => by
    rw [sucs_succ, List.length_append, List.length_map, Nat.add_mul, Nat.one_mul]
    exact Nat.add_le_add (sucs_len h m p) (Nat.le_trans (List.length_filter_le ..) (h m))
theorem filt_nil {l : List Nat} {p k : Nat} (h : ∀ q ∈ l, q < p) : ((l.filter (· == p)).map fun _ => k) = [] := by
  rw [List.map_eq_nil_iff, List.filter_eq_nil_iff]
  intro q hq
  have := h q hq
  simp; lia
theorem sucs_self {preds : Nat → List Nat} (hp : ∀ k, ∀ p ∈ preds k, p < k) : ∀ m p, m ≤ p → sucs preds m p = []
  | 0, p, _ => rfl
  | m + 1, p, h => by
    rw [sucs_succ, sucs_self hp m p (by lia), List.nil_append]
    exact filt_nil fun q hq => by have := hp m q hq; lia
theorem succ_fold {k : Nat} : ∀ (l : List Nat) (g : G), (l.foldl (succStep k) g).np = g.np ∧ (l.foldl (succStep k) g).po = g.po ∧ (l.foldl (succStep k) g).fi = g.fi ∧ ∀ p, (l.foldl (succStep k) g).su p = g.su p ++ ((l.filter (· == p)).map fun _ => k)
  | [], g => ⟨rfl, rfl, rfl, fun p => (List.append_nil _).symm⟩
  | q :: l, g => by
    obtain ⟨h1, h2, h3, h4⟩ := succ_fold (k := k) l (succStep k g q)
    refine ⟨h1, h2, h3, fun p => ?_⟩
    rw [List.foldl_cons, h4 p]
    show fup g.su q (g.su q ++ [k]) p ++ _ = _
    by_cases e : p = q
    · subst e; rw [fup_self, List.filter_cons]; simp
    · rw [fup_ne e, List.filter_cons]
      have : (q == p) = false := by simpa using fun h => e h.symm
      rw [this]; rfl
structure Ini (preds : Nat → List Nat) (so m : Nat) (g : G) : Prop where
  so : g.so = so
  n : g.n = m
  rl : g.rl = none
  po : g.po = 0
  fi : g.fi = 0
  np : ∀ k, k < m → g.np k = (preds k).length
  su : ∀ p, p < m → g.su p = sucs preds m p
theorem Ini.more {preds : Nat → List Nat} {so m : Nat} {g : G} (h : Ini preds so m g) (hp : ∀ k, ∀ p ∈ preds k, p < k) {a dd sl : Nat} : Ini preds so (m + 1) ((preds m).foldl (succStep m) ((g.add1 a dd sl).setNp m (preds m).length)) := by
  have sm := succ_same (k := m) (preds m) ((g.add1 a dd sl).setNp m (preds m).length)
  obtain ⟨h1, h2, h3, h4⟩ := succ_fold (k := m) (preds m) ((g.add1 a dd sl).setNp m (preds m).length)
  refine ⟨sm.so.trans h.so, sm.n.trans (congrArg (· + 1) h.n), sm.rl.trans h.rl, h2.trans h.po, h3.trans h.fi, fun k hk => ?_, fun p hk => ?_⟩
  · rw [h1]
    show fup (fup g.np g.n 0) m _ k = _
    by_cases e : k = m
    · subst e; rw [fup_self]
    · rw [fup_ne e, fup_ne (h.n ▸ e)]; exact h.np k (by lia)
  · rw [h4, sucs_succ]
    congr 1
    show fup g.su g.n [] p = _
    by_cases e : p = m
    · subst e; rw [← h.n, fup_self, h.n, sucs_self hp _ _ (Nat.le_refl _)]
    · rw [fup_ne (h.n ▸ e)]; exact h.su p (by lia)
theorem range_split {k x : Nat} {pre post : List Nat} (h : List.range k = pre ++ x :: post) : x = pre.length ∧ pre.length < k := by
  have h1 : (List.range k)[pre.length]? = some x := by rw [h]; simp
  have h2 : pre.length < k := by
    have := congrArg List.length h
    simp at this; lia
  rw [List.getElem?_range h2] at h1
  cases h1
  exact ⟨rfl, h2⟩
noncomputable def g00 (so d n2i : Nat) : G := ⟨so, d, n2i, 0, fun _ => 0, fun _ => 0, fun _ => 0, fun _ => 0, fun _ => [], none, 0, 0⟩
theorem srt0 {lo so d n2i : Nat} {v : Store} (k4 : v[so]? = some (.inst cSort d)) (k3 : v[d]? = some (sortNs (.ref n2i) .none (.int 0) (.int 0))) (k5 : v[n2i]? = some (.dict [])) (h : lo ≤ so ∧ lo ≤ d ∧ lo ≤ n2i) : Srt lo (g00 so d n2i) v :=
  ⟨k4, k3, k5, fun i h => absurd h (Nat.not_lt_zero i), fun i h => absurd h (Nat.not_lt_zero i), fun i h => absurd h (Nat.not_lt_zero i), fun i j h => absurd h (Nat.not_lt_zero i), fun r l h => (by cases h), fun j hj => by
    cases hj with
    | so => exact h.1
    | d => exact h.2.1
    | n2i => exact h.2.2
    | a h => exact absurd h (Nat.not_lt_zero _)
    | dd h => exact absurd h (Nat.not_lt_zero _)
    | sl h => exact absurd h (Nat.not_lt_zero _)
    | rl h => cases h⟩
structure Needs (di n : Nat) (pl : Nat → Nat) (preds : Nat → List Nat) (σ : Store) : Prop where
  d : σ[di]? = some (.dict (esOf n pl))
  l : ∀ i, i < n → σ[pl i]? = some (.list (natsV (preds i)))
  lt : ∀ k, ∀ p ∈ preds k, p < k
  len : ∀ k, (preds k).length < 100
section
variable {bs : Bs} {σ : Store} {n : Nat} {sc : Scope}
theorem sorter_run {di k : Nat} {pl : Nat → Nat} {preds : Nat → List Nat} {Q : AV → Bs → Store → Prop} (h : Needs di k pl preds σ) (hk : k < 64)
    (hq : ∀ g σ', Srt σ.length g σ' → Ext σ σ' → Ini preds g.so k g → Q (.ref g.so) bs σ') : Hx (callV PP (n + 80) (.ext (.ref cSort)) [.ref di] : Mm PP (n + 80) sc AV) bs σ Q := by
  refine hx_upV ?_
  refine hx_new_inst (fi := aInit) rfl rfl rfl ?_
  refine hx_callE (bs₀ := [("self", .ref (σ.length + 1)), ("graph", .ref di)]) (rest := []) rfl (by with_unfolding_all rfl) (by kernel_rfl) (by kernel_rfl) ?_
  obtain ⟨τ, hτ⟩ : ∃ τ, τ = σ ++ [AO.ns []] ++ [AO.inst cSort σ.length] := ⟨_, rfl⟩
  have h1 : τ[σ.length]? = some (.ns []) := hτ ▸ st_old st_new
  have h2 : τ[σ.length + 1]? = some (.inst cSort σ.length) := by subst hτ; simp
  have hE : Ext σ τ := hτ ▸ Ext.refl.app.app
  have hlen : τ.length = σ.length + 2 := by subst hτ; simp
  rw [← hτ]
  clear hτ
  refine hx_cons ?_
  with_reducible apply hs_attr
  with_reducible apply hx_dict0
  refine hx_pv (pv_name (by kernel_rfl) (by with_unfolding_all rfl)) ?_
  refine hx_setI (st_old h2) (st_old h1) ⟨rfl, rfl, by decide +kernel, (show 0 < 100 by decide)⟩ ?_
  refine seq_next (hx_cons ?_)
  with_reducible apply hs_attr
  (with_reducible apply hx_pv); · with_reducible exact pv_none
  refine hx_pv (pv_name (by kernel_rfl) (by with_unfolding_all rfl)) ?_
  refine hx_setI (st_set_ne (by lia) (st_old h2)) (st_set (st_old h1)) ⟨rfl, rfl, by decide +kernel, (show 1 < 100 by decide)⟩ ?_
  obtain ⟨u, hu⟩ : ∃ u, u = ((τ ++ [AO.dict []]).set σ.length (.ns (fput [] "_node2info" (.ref τ.length)))).set σ.length (.ns (fput (fput [] "_node2info" (.ref τ.length)) "_ready_nodes" .none)) := ⟨_, rfl⟩
  have hx := (hE.app : Ext σ (τ ++ [AO.dict []]))
  have h3 : u[σ.length]? = some (.ns [("_node2info", .ref τ.length), ("_ready_nodes", .none)]) := hu ▸ st_set (st_set (st_old h1))
  have h4 : u[σ.length + 1]? = some (.inst cSort σ.length) := hu ▸ st_set_ne (by lia) (st_set_ne (by lia) (st_old h2))
  have h5 : u[τ.length]? = some (.dict []) := hu ▸ st_set_ne (by lia) (st_set_ne (by lia) st_new)
  have hx : Ext σ u := hu ▸ (hx.set (Nat.le_refl _)).set (Nat.le_refl _)
  have hul : u.length = σ.length + 3 := by subst hu; simp [hlen]
  rw [← hu]
  clear hu h1 h2
  refine seq_next (hx_cons ?_)
  with_reducible apply hs_attr
  refine hx_pv pv_int ?_
  refine hx_pv (pv_name (by kernel_rfl) (by with_unfolding_all rfl)) ?_
  refine hx_setI h4 h3 ⟨rfl, rfl, by decide +kernel, (show 2 < 100 by decide)⟩ ?_
  refine seq_next (hx_cons ?_)
  with_reducible apply hs_attr
  refine hx_pv pv_int ?_
  refine hx_pv (pv_name (by kernel_rfl) (by with_unfolding_all rfl)) ?_
  refine hx_setI (st_set_ne (by lia) h4) (st_set h3) ⟨rfl, rfl, by decide +kernel, (show 3 < 100 by decide)⟩ ?_
  obtain ⟨v, hv⟩ : ∃ v, v = (u.set σ.length (.ns (fput [("_node2info", .ref τ.length), ("_ready_nodes", .none)] "_npassedout" (.int 0)))).set σ.length (.ns (fput (fput [("_node2info", .ref τ.length), ("_ready_nodes", .none)] "_npassedout" (.int 0)) "_nfinished" (.int 0))) := ⟨_, rfl⟩
  have k3 : v[σ.length]? = some (sortNs (.ref τ.length) .none (.int 0) (.int 0)) := hv ▸ st_set (st_set h3)
  have k4 : v[σ.length + 1]? = some (.inst cSort σ.length) := hv ▸ st_set_ne (by lia) (st_set_ne (by lia) h4)
  have k5 : v[τ.length]? = some (.dict []) := hv ▸ st_set_ne (by lia) (st_set_ne (by lia) h5)
  have kx : Ext σ v := hv ▸ (hx.set (Nat.le_refl _)).set (Nat.le_refl _)
  have hvl : v.length = σ.length + 3 := by subst hv; simp [hul]
  rw [← hv]
  clear hv h3 h4 h5 hx hul
  have hd := kx.get h.d
  refine seq_next (hx_cons ?_)
  ((with_reducible apply hs_if); · (with_reducible apply pv_tCmp); (· kernel_rfl); (· exact pv_name (by kernel_rfl) (by with_unfolding_all rfl)); (· with_reducible exact pv_none); · (with_reducible apply pv_isnot); rfl) <;> first | (intro h; exact absurd h (by decide)) | refine imp_of (by decide) ?_ | skip
  refine hx_cons ?_
  (with_reducible apply hs_for); · kernel_rfl
  (with_reducible apply hx_meth); (· exact ⟨by decide, by decide, rfl⟩); · rfl
  refine hx_pv (pv_name (by kernel_rfl) (by with_unfolding_all rfl)) ?_
  (with_reducible apply hx_findD); (· with_reducible assumption); · exact .inr (.inl ⟨rfl, rfl⟩)
  refine hx_args0 ?_
  (with_reducible apply hx_mcallB); · kernel_rfl
  (with_reducible apply hx_mItems); · with_reducible assumption
  refine runFor_srcD (.items st_new (st_old hd)) ?_
  have s0 : Srt σ.length (g00 (σ.length + 1) σ.length τ.length) v := srt0 k4 k3 k5 ⟨by lia, by lia, by lia⟩
  have hdl : di < σ.length := lt_of h.d
  have i0 : Ini preds (σ.length + 1) 0 (g00 (σ.length + 1) σ.length τ.length) := ⟨rfl, rfl, rfl, rfl, rfl, fun k h => absurd h (Nat.not_lt_zero k), fun k h => absurd h (Nat.not_lt_zero k)⟩
  generalize g00 (σ.length + 1) σ.length τ.length = g0 at s0 i0
  have s1 : Srt σ.length g0 ((v ++ [AO.items di]).set di (.fdict (esOf k pl))) := s0.app.set fun q => by have := s0.lo _ q; lia
  have e1 : Ext (σ.set di (.fdict (esOf k pl))) ((v ++ [AO.items di]).set di (.fdict (esOf k pl))) := fun j o hj => by
    by_cases q : di = j
    · subst q
      rw [st_set h.d] at hj; cases hj
      exact st_set (st_old hd)
    · rw [List.getElem?_set_ne q] at hj
      exact st_set_ne q (st_old (kx.get hj))
  have hl : ∀ i, i < k → (σ.set di (.fdict (esOf k pl)))[pl i]? = some (.list (natsV (preds i))) := fun i hi => st_set_ne (ne_of h.d (h.l i hi) fun q => by cases q) (h.l i hi)
  have hfd : (σ.set di (.fdict (esOf k pl)))[di]? = some (.fdict (esOf k pl)) := st_set h.d
  have hlen : (σ.set di (.fdict (esOf k pl))).length = σ.length := List.length_set
  generalize (v ++ [AO.items di]).set di (.fdict (esOf k pl)) = w at s1 e1
  generalize hσf : σ.set di (.fdict (esOf k pl)) = σf at e1 hl hfd hlen
  rw [show (esOf k pl).map (fun e => Item.two (.int e.1) e.2) = (List.range k).map fun (i : Nat) => Item.two (.int i) (.ref (pl i)) by unfold esOf; rw [List.map_map]; rfl]
  show Hx (forItems _ _ _ di (.fdict (esOf k pl)) _ _ _) _ _ _
  refine hx_forPre (B := fun _ => [("self", .ref (σ.length + 1)), ("graph", .ref di)]) (S := fun pre σ₃ => ∃ g, Srt σ.length g σ₃ ∧ Ext σf σ₃ ∧ Ini preds (σ.length + 1) pre.length g) (fun pre σ₃ h => ?_) (fun pre p post σ₃ hpre h => ?_) ⟨g0, s1, e1, i0⟩ ?_ (fun σ₃ bs₃ h hb => ?_)
  · obtain ⟨g, _, e, _⟩ := h
    exact e.get hfd
  · obtain ⟨g, s, e, i⟩ := h
    obtain ⟨rfl, hlt⟩ := range_split hpre
    have h1 := s.so
    have h2 := s.d
    have hso := i.so
    have hn := i.n
    have hlp := e.get (hl _ hlt)
    rw [← hso]
    (with_reducible apply hx_bindT); · kernel_rfl
    refine hx_cons ?_
    (with_reducible apply hs_expr); · kernel_rfl
    (with_reducible apply hx_methS); · exact ⟨by decide, by decide, rfl⟩
    refine hx_pv (pv_name (by kernel_rfl) (by with_unfolding_all rfl)) ?_
    (with_reducible apply hx_findSo); (· with_reducible assumption); (· with_reducible assumption); (· rfl); · rfl
    with_reducible apply fn_and
    refine hx_args1 rfl ?_
    refine hx_pv (pv_name (by kernel_rfl) (by with_unfolding_all rfl)) ?_
    (with_reducible apply hx_argsS); (· exact pv_name (by kernel_rfl) (by with_unfolding_all rfl)); · with_reducible assumption
    refine hx_args0 ?_
    with_reducible apply hx_mcallF
    rw [List.append_nil, ← hn]
    have hc := h.len g.n
    have hlt' : g.n < k := hn ▸ hlt
    refine add_run s i.rl (by lia) (by have := hlen ▸ e.len; lia) (fun p hp => by have := h.lt _ p hp; lia) (by lia) (fun p hp => ?_) fun a dd sl σ₄ x => ?_
    · rw [i.su p (by lia)]
      have := sucs_len (preds := preds) (c := 100) (fun k => Nat.le_of_lt (h.len k)) pre.length p
      lia
    with_reducible apply none_and
    refine seq_next ?_
    with_reducible apply hx_nil
    refine ⟨.inl rfl, by (refine Sub.cons (by with_unfolding_all rfl) ?_; refine Sub.cons (by with_unfolding_all rfl) ?_; with_reducible exact Sub.nil), _, x.s, x.t.ext s (Nat.le_of_eq hlen) e, ?_⟩
    rw [List.length_append, hso, List.length_singleton, ← hn]
    exact (hn ▸ i : Ini preds (σ.length + 1) g.n g).more h.lt
  · with_reducible exact Sub.refl
  · obtain ⟨g, s, e, i⟩ := h
    refine ⟨e.get hfd, ?_⟩
    refine Hx.sub ?_ hb
    with_reducible apply hx_nil
    refine seq_next ?_
    with_reducible apply hx_nil
    with_reducible apply none_and
    rw [List.length_range] at i
    exact i.so ▸ hq g _ (s.set fun q => by have := s.lo _ q; lia) (ext_thaw h.d (hσf ▸ e)) { i with so := rfl }
end

structure Fr where
  (v x y k : Nat)
theorem nodup_len : ∀ (n : Nat) (l : List Nat), l.Nodup → (∀ v ∈ l, v < n) → l.length ≤ n
  | 0, l, _, h => by
    cases l with
    | nil => exact Nat.le_refl _
    | cons a l => exact absurd (h a (.head _)) (Nat.not_lt_zero _)
  | n + 1, l, hn, h => by
    have h1 := nodup_len n (l.erase n) (hn.erase n) fun v hv => by
      have h2 := h v (List.mem_of_mem_erase hv)
      have h3 : v ≠ n := fun q => by subst q; exact (List.Nodup.not_mem_erase hn) hv
      lia
    have h2 : l.length ≤ (l.erase n).length + 1 := by
      rw [List.length_erase]; split <;> lia
    lia
theorem inc_nodup {l : List Nat} (h : l.Pairwise (· < ·)) : l.Nodup := h.imp fun hab q => by lia
noncomputable def edg (su : Nat → List Nat) (seen : List Nat) (l : List Nat) : Nat := (l.map fun p => if p ∈ seen then 0 else (su p).length).sum
theorem edg_out {su : Nat → List Nat} {seen : List Nat} {v : Nat} : ∀ {l : List Nat}, v ∉ l → edg su (seen ++ [v]) l = edg su seen l
  | [], _ => rfl
  | p :: l, h => by
    have h1 : p ≠ v := fun q => h (q ▸ .head _)
    have h2 := edg_out (su := su) (seen := seen) (fun q => h (.tail _ q) : v ∉ l)
    unfold edg at h2 ⊢
    rw [List.map_cons, List.map_cons, List.sum_cons, List.sum_cons, h2]
    have : (p ∈ seen ++ [v]) ↔ p ∈ seen := by simp [h1]
    simp only [this]
theorem edg_in {su : Nat → List Nat} {seen : List Nat} {v : Nat} (hs : v ∉ seen) : ∀ {l : List Nat}, l.Nodup → v ∈ l → edg su (seen ++ [v]) l + (su v).length = edg su seen l
  | p :: l, hn, h => by
    have hn' := List.nodup_cons.mp hn
    by_cases e : p = v
    · subst e
      have h2 := edg_out (su := su) (seen := seen) hn'.1
      unfold edg at h2 ⊢
      rw [List.map_cons, List.map_cons, List.sum_cons, List.sum_cons, h2, if_pos (by simp), if_neg hs]
      lia
    · have h2 := edg_in (su := su) hs hn'.2 (by rcases List.mem_cons.mp h with q | q; exact absurd q.symm e; exact q)
      unfold edg at h2 ⊢
      rw [List.map_cons, List.map_cons, List.sum_cons, List.sum_cons]
      have : (p ∈ seen ++ [v]) ↔ p ∈ seen := by simp [e]
      simp only [this]
      lia
noncomputable def rem (su : Nat → List Nat) (fs : List Fr) : Nat := (fs.map fun f => (su f.v).length - f.k).sum
theorem rem_snoc {su : Nat → List Nat} {fs : List Fr} {f : Fr} : rem su (fs ++ [f]) = rem su fs + ((su f.v).length - f.k) := by
  unfold rem; rw [List.map_append, List.sum_append]; simp
structure Cyc (g : G) (σf : Store) (fs : List Fr) (seen : List Nat) (σ : Store) : Prop where
  ext : Ext σf σ
  st : σ[σf.length]? = some (.list (natsV (fs.map (·.v))))
  its : σ[σf.length + 1]? = some (.list (fs.map fun f => .ref f.x))
  se : σ[σf.length + 2]? = some (.set (seen.map fun (i : Nat) => (i : Int)))
  nd : ∃ es, σ[σf.length + 3]? = some (.dict es) ∧ es.map (·.1) = fs.map fun f => (f.v : Int)
  fr : ∀ f ∈ fs, σ[f.x]? = some (.nextOf f.y) ∧ σ[f.y]? = some (.iter (g.sl f.v) f.k) ∧ f.v < g.n ∧ f.k ≤ (g.su f.v).length ∧ σf.length ≤ f.y
  dis : (fs.map (·.y)).Nodup
  inc : (fs.map (·.v)).Pairwise (· < ·)
  sn : seen.Nodup
  sb : ∀ v ∈ seen, v < g.n
section
variable {bs : Bs} {σ σf : Store} {n lo : Nat} {g : G} {fs : List Fr} {seen : List Nat} {sc : Scope}
theorem Cyc.push (c : Cyc g σf fs seen σ) {v : Nat} {es : List (Int × AV)} {w : AV} (h1 : σ[σf.length + 3]? = some (.dict es)) (h2 : es.map (·.1) = fs.map fun f => (f.v : Int)) (hv : ∀ f ∈ fs, f.v < v) (hn : v < g.n) (hs : v ∉ seen) :
    Cyc g σf (fs ++ [⟨v, σ.length + 1, σ.length, 0⟩]) (seen ++ [v])
      (((((σ.set (σf.length + 2) (.set (seen.map (fun (i : Nat) => (i : Int)) ++ [(v : Int)]))) ++ [AO.iter (g.sl v) 0] ++ [AO.nextOf σ.length]).set (σf.length + 1) (.list (fs.map (fun (f : Fr) => AV.ref f.x) ++ [AV.ref (σ.length + 1)]))).set (σf.length + 3) (.dict (dput es v w))).set σf.length (.list (natsV (fs.map Fr.v) ++ [AV.int v]))) where
  ext := ((((c.ext.set (by lia)).app.app.set (by lia)).set (by lia)).set (by lia))
  st := by
    have h3 := c.st
    rw [List.map_append, natsV_snoc]
    exact st_set (o' := .list (natsV (fs.map Fr.v))) (by ((with_reducible apply st_set_ne); (· lia); · (with_reducible apply st_set_ne); (· lia); · (with_reducible apply st_old); (with_reducible apply st_old); (with_reducible apply st_set_ne); (· lia); · with_reducible assumption))
  its := by
    have h3 := c.its
    rw [List.map_append]
    refine st_set_ne (by lia) (st_set_ne (by lia) (st_set (o' := .list (fs.map fun f => .ref f.x)) ?_))
    (with_reducible apply st_old); (with_reducible apply st_old); (with_reducible apply st_set_ne); (· lia); · with_reducible assumption
  se := by
    have h3 := c.se
    rw [List.map_append]
    refine st_set_ne (by lia) (st_set_ne (by lia) (st_set_ne (by lia) (st_old (st_old (st_set h3)))))
  nd := by
    refine ⟨dput es v w, st_set_ne (by lia) (st_set (o' := .dict es) (st_set_ne (by lia) (st_old (st_old (st_set_ne (by lia) h1))))), ?_⟩
    rw [List.map_append, ← h2]
    have : ∀ (l : List (Int × AV)), (∀ e ∈ l, e.1 ≠ v) → (dput l v w).map (·.1) = l.map (·.1) ++ [(v : Int)] := by
      intro l
      induction l with
      | nil => intro _; rfl
      | cons e l ih =>
        intro h
        obtain ⟨k', v'⟩ := e
        unfold dput
        rw [if_neg (fun q => h _ (.head _) q.symm), List.map_cons, ih fun e he => h e (.tail _ he)]
        rfl
    refine this es fun e he q => ?_
    have h3 : e.1 ∈ fs.map fun f => (f.v : Int) := h2 ▸ List.mem_map_of_mem (f := (·.1)) he
    obtain ⟨f, hf, hf'⟩ := List.mem_map.mp h3
    have := hv f hf
    lia
  fr := by
    intro f hf
    have hl := lt_of c.st
    have h5 := c.se
    have h6 := c.its
    rcases List.mem_append.mp hf with hf | hf
    · obtain ⟨k1, k2, k3, k4, k5⟩ := c.fr f hf
      have n1 := ne_of c.st k1 (fun h => by cases h)
      have n2 := ne_of c.its k1 (fun h => by cases h)
      have n3 := ne_of c.se k1 (fun h => by cases h)
      have n4 := ne_of h1 k1 (fun h => by cases h)
      have m1 := ne_of c.st k2 (fun h => by cases h)
      have m2 := ne_of c.its k2 (fun h => by cases h)
      have m3 := ne_of c.se k2 (fun h => by cases h)
      have m4 := ne_of h1 k2 (fun h => by cases h)
      exact ⟨by ((with_reducible apply st_set_ne); (· assumption); · (with_reducible apply st_set_ne); (· assumption); · (with_reducible apply st_set_ne); (· assumption); · (with_reducible apply st_old); (with_reducible apply st_old); (with_reducible apply st_set_ne); (· assumption); · with_reducible assumption), by ((with_reducible apply st_set_ne); (· assumption); · (with_reducible apply st_set_ne); (· assumption); · (with_reducible apply st_set_ne); (· assumption); · (with_reducible apply st_old); (with_reducible apply st_old); (with_reducible apply st_set_ne); (· assumption); · with_reducible assumption), k3, k4, k5⟩
    · rcases List.mem_singleton.mp hf with rfl
      have g1 := lt_of h1
      have g2 := lt_of h5
      have g3 := lt_of h6
      refine ⟨?_, ?_, hn, Nat.zero_le _, c.ext.len⟩
      · refine st_set_ne (by dsimp only; lia) (st_set_ne (by dsimp only; lia) (st_set_ne (by dsimp only; lia) ?_))
        have := @st_new (σ.set (σf.length + 2) (.set (seen.map (fun (i : Nat) => (i : Int)) ++ [(v : Int)])) ++ [.iter (g.sl v) 0]) (.nextOf σ.length)
        rw [List.length_append, List.length_set] at this
        exact this
      · refine st_set_ne (by dsimp only; lia) (st_set_ne (by dsimp only; lia) (st_set_ne (by dsimp only; lia) (st_old ?_)))
        have := @st_new (σ.set (σf.length + 2) (.set (seen.map (fun (i : Nat) => (i : Int)) ++ [(v : Int)]))) (.iter (g.sl v) 0)
        rw [List.length_set] at this
        exact this
  dis := by
    rw [List.map_append]
    refine List.nodup_append.mpr ⟨c.dis, by simp, fun a ha b hb q => ?_⟩
    obtain ⟨f, hf, rfl⟩ := List.mem_map.mp ha
    rcases List.mem_singleton.mp hb with rfl
    have := lt_of (c.fr f hf).2.1
    have q : f.y = σ.length := q
    lia
  inc := by
    rw [List.map_append]
    refine List.pairwise_append.mpr ⟨c.inc, by simp, fun a ha b hb => ?_⟩
    obtain ⟨f, hf, rfl⟩ := List.mem_map.mp ha
    rcases List.mem_singleton.mp hb with rfl
    exact hv f hf
  sn := List.nodup_append.mpr ⟨c.sn, by simp, fun a ha b hb q => by rcases List.mem_singleton.mp hb with rfl; exact hs (q ▸ ha)⟩
  sb := fun w hw => by
    rcases List.mem_append.mp hw with h | h
    · exact c.sb w h
    · rcases List.mem_singleton.mp h with rfl; exact hn
theorem Cyc.draw {f : Fr} (c : Cyc g σf (fs ++ [f]) seen σ) (hk : f.k < (g.su f.v).length) : Cyc g σf (fs ++ [⟨f.v, f.x, f.y, f.k + 1⟩]) seen (σ.set f.y (.iter (g.sl f.v) (f.k + 1))) := by
  obtain ⟨k1, k2, k3, k4, k5⟩ := c.fr f (by simp)
  obtain ⟨es, h1, h2⟩ := c.nd
  have e : ∀ {α : Type} (p : Fr → α), p (Fr.mk f.v f.x f.y (f.k + 1)) = p f → (fs ++ [Fr.mk f.v f.x f.y (f.k + 1)]).map p = (fs ++ [f]).map p := fun p h => by rw [List.map_append, List.map_append, List.map_singleton, List.map_singleton, h]
  refine ⟨c.ext.set k5, ?_, ?_, st_set_ne (ne_of k2 c.se fun h => by cases h) c.se, ⟨es, st_set_ne (ne_of k2 h1 fun h => by cases h) h1, ?_⟩, fun f' hf => ?_, ?_, ?_, c.sn, c.sb⟩
  · rw [e Fr.v rfl]; exact st_set_ne (ne_of k2 c.st fun h => by cases h) c.st
  · rw [e (fun f => AV.ref f.x) rfl]; exact st_set_ne (ne_of k2 c.its fun h => by cases h) c.its
  · rw [e (fun f => (f.v : Int)) rfl]; exact h2
  · rcases List.mem_append.mp hf with hf | hf
    · obtain ⟨j1, j2, j3, j4, j5⟩ := c.fr f' (List.mem_append_left _ hf)
      have hd := c.dis
      rw [List.map_append] at hd
      have hne := (List.nodup_append.mp hd).2.2 f'.y (List.mem_map_of_mem hf) f.y (by simp)
      exact ⟨st_set_ne (ne_of k2 j1 fun h => by cases h) j1, st_set_ne hne.symm j2, j3, j4, j5⟩
    · rcases List.mem_singleton.mp hf with rfl
      exact ⟨st_set_ne (ne_of k2 k1 fun h => by cases h) k1, st_set k2, k3, hk, k5⟩
  · rw [e Fr.y rfl]; exact c.dis
  · rw [e Fr.v rfl]; exact c.inc
theorem ddel_last {l : List Int} {v : Int} {es : List (Int × AV)} (h : es.map (·.1) = l ++ [v]) (hn : v ∉ l) : (ddel es v).map (·.1) = l ∧ es.any (·.1 == v) = true := by
  have h3 : (ddel es v).map (·.1) = (l ++ [v]).filter (· != v) := by
    unfold ddel; rw [← h, List.filter_map]; rfl
  refine ⟨?_, ?_⟩
  · rw [h3, List.filter_append]
    have : l.filter (· != v) = l := List.filter_eq_self.mpr fun a ha => by simp; exact fun q => hn (q ▸ ha)
    rw [this]; simp
  · rw [List.any_eq_true]
    have : v ∈ es.map (·.1) := by rw [h]; simp
    obtain ⟨e, he, rfl⟩ := List.mem_map.mp this
    exact ⟨e, he, by simp⟩
theorem Cyc.pop {f : Fr} {es : List (Int × AV)} (c : Cyc g σf (fs ++ [f]) seen σ) (h1 : σ[σf.length + 3]? = some (.dict es)) (h2 : es.map (·.1) = (fs ++ [f]).map fun f => (f.v : Int)) :
    Cyc g σf fs seen ((((σ.set f.y .junk).set σf.length (.list (natsV (fs.map (·.v))))).set (σf.length + 3) (.dict (ddel es f.v))).set (σf.length + 1) (.list (fs.map fun f => .ref f.x))) ∧ es.any (·.1 == (f.v : Int)) = true := by
  obtain ⟨k1, k2, k3, k4, k5⟩ := c.fr f (by simp)
  have n1 := ne_of k2 c.st (fun h => by cases h)
  have n2 := ne_of k2 c.its (fun h => by cases h)
  have n3 := ne_of k2 c.se (fun h => by cases h)
  have n4 := ne_of k2 h1 (fun h => by cases h)
  have hi := c.inc
  rw [List.map_append] at hi
  have hi := List.pairwise_append.mp hi
  have hd := c.dis
  rw [List.map_append] at hd
  have hd := List.nodup_append.mp hd
  rw [List.map_append, List.map_singleton] at h2
  obtain ⟨d1, d2⟩ := ddel_last h2 fun hq => by
    obtain ⟨f', hf', q⟩ := List.mem_map.mp hq
    have : f'.v < f.v := hi.2.2 f'.v (List.mem_map_of_mem hf') f.v (by simp)
    lia
  refine ⟨⟨(((c.ext.set k5).set (by lia)).set (by lia)).set (by lia), ?_, ?_, ?_, ⟨ddel es f.v, ?_, d1⟩, fun f' hf => ?_, hd.1, hi.1, c.sn, c.sb⟩, d2⟩
  · have := c.st; ((with_reducible apply st_set_ne); (· lia); · (with_reducible apply st_set_ne); (· lia); · (with_reducible apply st_set); (with_reducible apply st_set_ne); (· assumption); · with_reducible assumption)
  · have := c.its; ((with_reducible apply st_set); (with_reducible apply st_set_ne); (· lia); · (with_reducible apply st_set_ne); (· lia); · (with_reducible apply st_set_ne); (· assumption); · with_reducible assumption)
  · have := c.se; ((with_reducible apply st_set_ne); (· lia); · (with_reducible apply st_set_ne); (· lia); · (with_reducible apply st_set_ne); (· lia); · (with_reducible apply st_set_ne); (· assumption); · with_reducible assumption)
  · (with_reducible apply st_set_ne); (· lia); · (with_reducible apply st_set); (with_reducible apply st_set_ne); (· lia); · (with_reducible apply st_set_ne); (· assumption); · with_reducible assumption
  · obtain ⟨j1, j2, j3, j4, j5⟩ := c.fr f' (List.mem_append_left _ hf)
    have hne := hd.2.2 f'.y (List.mem_map_of_mem hf) f.y (by simp)
    have n0 := ne_of k2 j1 (fun h => by cases h)
    have m1 := ne_of c.st j1 (fun h => by cases h)
    have m2 := ne_of c.its j1 (fun h => by cases h)
    have m4 := ne_of h1 j1 (fun h => by cases h)
    have l1 := ne_of c.st j2 (fun h => by cases h)
    have l2 := ne_of c.its j2 (fun h => by cases h)
    have l4 := ne_of h1 j2 (fun h => by cases h)
    have hne' := hne.symm
    exact ⟨by ((with_reducible apply st_set_ne); (· assumption); · (with_reducible apply st_set_ne); (· assumption); · (with_reducible apply st_set_ne); (· assumption); · (with_reducible apply st_set_ne); (· assumption); · with_reducible assumption), by ((with_reducible apply st_set_ne); (· assumption); · (with_reducible apply st_set_ne); (· assumption); · (with_reducible apply st_set_ne); (· assumption); · (with_reducible apply st_set_ne); (· assumption); · with_reducible assumption), j3, j4, j5⟩
end

section
variable {bs : Bs} {σ σf : Store} {n lo : Nat} {g : G} {fs : List Fr} {seen : List Nat} {sc : Scope}
structure Fz (g : G) (σf : Store) : Prop where
  fd : σf[g.n2i]? = some (.fdict (esOf g.n g.a))
  node : ∀ i, i < g.n → σf[g.a i]? = some (g.nodeAt i)
  ns : ∀ i, i < g.n → σf[g.dd i]? = some (.ns [])
  sl : ∀ i, i < g.n → σf[g.sl i]? = some (.list (natsV (g.su i)))
  up : ∀ p, p < g.n → ∀ s ∈ g.su p, p < s ∧ s < g.n
noncomputable abbrev cyB (g : G) (b : Nat) : Bs := [("self", .ref g.so), ("n2i", .ref g.n2i), ("stack", .ref b), ("itstack", .ref (b + 1)), ("seen", .ref (b + 2)), ("node2stacki", .ref (b + 3))]
theorem pv_last {i : Nat} {l : List AV} {x : AV} (h : σ[i]? = some (.list (l ++ [x]))) : Pv (getItemV (.ref i) (.int (-1)) : Mm PP n sc AV) bs σ x := by
  refine pv_itemL h (by decide) ?_
  unfold place
  rw [if_neg (by decide), if_pos (by simp; lia)]
  have : (-1 + ((l ++ [x]).length : Int)).toNat = l.length := by simp; lia
  rw [this]
  simp
theorem contains_nat {seen : List Nat} {v : Nat} : (seen.map fun (i : Nat) => (i : Int)).contains (v : Int) = decide (v ∈ seen) := by
  rw [Bool.eq_iff_iff, List.contains_iff_mem, decide_eq_true_eq]
  constructor
  · intro h
    obtain ⟨w, hw, e⟩ := List.mem_map.mp h
    have : w = v := by lia
    exact this ▸ hw
  · exact fun h => List.mem_map_of_mem (f := fun (i : Nat) => (i : Int)) h
theorem any_miss {es : List (Int × AV)} {v : Nat} {fs : List Fr} (h : es.map (·.1) = fs.map fun f => (f.v : Int)) (hv : ∀ f ∈ fs, f.v < v) : es.any (·.1 == (v : Int)) = false := by
  rw [List.any_eq_false]
  intro e he q
  have h3 : e.1 ∈ fs.map fun f => (f.v : Int) := h ▸ List.mem_map_of_mem (f := (·.1)) he
  obtain ⟨f, hf, hf'⟩ := List.mem_map.mp h3
  have := hv f hf
  simp at q; lia
theorem cyc0 (s : Srt lo g σ) : Cyc g (σ.set g.n2i (.fdict (esOf g.n g.a))) [] [] ((σ ++ [AO.list []] ++ [AO.list []] ++ [AO.set []] ++ [AO.dict []]).set g.n2i (.fdict (esOf g.n g.a))) where
  ext := fun j o hj => by
    by_cases q : g.n2i = j
    · subst q
      rw [st_set s.n2i] at hj; cases hj
      exact st_set (st_old (st_old (st_old (st_old s.n2i))))
    · rw [List.getElem?_set_ne q] at hj
      exact st_set_ne q (st_old (st_old (st_old (st_old hj))))
  st := by
    have := lt_of s.n2i
    rw [List.length_set]
    exact st_set_ne (by lia) (st_old (st_old (st_old st_new)))
  its := by
    have := lt_of s.n2i
    rw [List.length_set]
    refine st_set_ne (by lia) (st_old (st_old ?_))
    have := @st_new (σ ++ [AO.list []]) (AO.list [])
    rw [List.length_append] at this
    exact this
  se := by
    have := lt_of s.n2i
    rw [List.length_set]
    refine st_set_ne (by lia) (st_old ?_)
    have := @st_new (σ ++ [AO.list []] ++ [AO.list []]) (AO.set [])
    rw [List.length_append, List.length_append] at this
    exact this
  nd := by
    have := lt_of s.n2i
    rw [List.length_set]
    refine ⟨[], st_set_ne (by lia) ?_, rfl⟩
    have := @st_new (σ ++ [AO.list []] ++ [AO.list []] ++ [AO.set []]) (AO.dict [])
    rw [List.length_append, List.length_append, List.length_append] at this
    exact this
  fr := fun f h => nomatch h
  dis := .nil
  inc := .nil
  sn := .nil
  sb := fun f h => nomatch h
theorem Srt.fz (s : Srt lo g σ) (up : ∀ p, p < g.n → ∀ s ∈ g.su p, p < s ∧ s < g.n) : Fz g (σ.set g.n2i (.fdict (esOf g.n g.a))) where
  fd := st_set s.n2i
  node := fun i h => st_set_ne (ne_of s.n2i (s.node i h) fun h => by cases h) (s.node i h)
  ns := fun i h => st_set_ne (ne_of s.n2i (s.ns i h) fun h => by cases h) (s.ns i h)
  sl := fun i h => st_set_ne (ne_of s.n2i (s.sl i h) fun h => by cases h) (s.sl i h)
  up := up
end
theorem cycle_run {sc : Scope} {bs : Bs} {σ : Store} {n lo : Nat} {g : G} {Q : AV → Bs → Store → Prop} (s : Srt lo g σ) (up : ∀ p, p < g.n → ∀ s ∈ g.su p, p < s ∧ s < g.n) (hn : g.n < 64) (he : edg g.su [] (List.range g.n) < 900)
    (hq : ∀ σ', Ext σ σ' → Q .none bs σ') : Hx (callA PP (n + 60) aCycle [.ref g.so] : Mm PP (n + 60) sc AV) bs σ Q := by
  refine hx_up ?_
  refine hx_callE (bs₀ := [("self", .ref g.so)]) (rest := []) rfl (by with_unfolding_all rfl) (by kernel_rfl) (by kernel_rfl) ?_
  have h1 := s.so
  have h2 := s.d
  have h3 := s.n2i
  refine hx_cons ?_
  refine hs_assign (by kernel_rfl) (by kernel_rfl) ?_
  (with_reducible apply hx_pv); · (with_reducible apply pv_attr); (· kernel_rfl); (· exact pv_name (by kernel_rfl) (by with_unfolding_all rfl)); · (with_reducible apply pv_n2i); (· with_reducible assumption); (· with_reducible assumption); · rfl
  refine seq_next (hx_cons ?_)
  refine hs_assign (by kernel_rfl) (by kernel_rfl) ?_
  with_reducible apply hx_list
  with_reducible apply hx_evs0
  (with_reducible apply hx_newL); · decide
  refine seq_next (hx_cons ?_)
  refine hs_assign (by kernel_rfl) (by kernel_rfl) ?_
  with_reducible apply hx_list
  with_reducible apply hx_evs0
  (with_reducible apply hx_newL); · decide
  refine seq_next (hx_cons ?_)
  refine hs_assign (by kernel_rfl) (by kernel_rfl) ?_
  refine hx_call rfl ?_
  refine hx_pv (pv_glob (by kernel_rfl) (by with_unfolding_all rfl)) ?_
  refine hx_args0 (hx_callT ?_)
  with_reducible apply hx_setE
  refine seq_next (hx_cons ?_)
  refine hs_assign (by kernel_rfl) (by kernel_rfl) ?_
  with_reducible apply hx_dict0
  refine seq_next (hx_cons ?_)
  (with_reducible apply hs_for); · kernel_rfl
  refine hx_pv (pv_name (by kernel_rfl) (by with_unfolding_all rfl)) ?_
  have hb : (σ.set g.n2i (.fdict (esOf g.n g.a))).length = σ.length := List.length_set
  rw [show (σ ++ [AO.list []] ++ [AO.list []] ++ [AO.set []]).length = σ.length + 3 by simp, show (σ ++ [AO.list []] ++ [AO.list []]).length = σ.length + 2 by simp, show (σ ++ [AO.list []]).length = σ.length + 1 by simp]
  refine runFor_srcD (.dict (st_old (st_old (st_old (st_old h3))))) ?_
  have c0 := cyc0 s
  have F := s.fz up
  have hx : ∀ σ', Ext (σ.set g.n2i (.fdict (esOf g.n g.a))) σ' → Ext σ (σ'.set g.n2i (.dict (esOf g.n g.a))) := fun σ' e => ext_thaw h3 e
  generalize (σ ++ [AO.list []] ++ [AO.list []] ++ [AO.set []] ++ [AO.dict []]).set g.n2i (.fdict (esOf g.n g.a)) = w at c0
  generalize σ.set g.n2i (.fdict (esOf g.n g.a)) = σf at hb c0 F hx
  rw [← hb]
  rw [show (esOf g.n g.a).map (fun e => Item.one (.int e.1)) = (List.range g.n).map fun (i : Nat) => Item.one (.int i) by unfold esOf; rw [List.map_map]; rfl]
  show Hx (forItems _ _ _ g.n2i (.fdict (esOf g.n g.a)) _ _ _) _ _ _
  refine hx_forPre (B := fun _ => cyB g σf.length) (S := fun pre σ' => ∃ seen, Cyc g σf [] seen σ') (fun pre σ' h => ?_) (fun pre p post σ' hpre h => ?_) ⟨[], c0⟩ ?_ (fun σ' bs' h hb => ?_)
  · obtain ⟨seen, c⟩ := h
    exact c.ext.get F.fd
  · obtain ⟨seen, c⟩ := h
    obtain ⟨rfl, hlt⟩ := range_split hpre
    have hse := c.se
    (with_reducible apply hx_bindN); · kernel_rfl
    refine hx_cons ?_
    ((with_reducible apply hs_if); · (with_reducible apply pv_tCmp); (· kernel_rfl); (· exact pv_name (by kernel_rfl) (by with_unfolding_all rfl)); (· exact pv_name (by kernel_rfl) (by with_unfolding_all rfl)); · (with_reducible apply pv_inS); · with_reducible assumption) <;> first | (intro h; exact absurd h (by decide)) | refine imp_of (by decide) ?_ | skip
    · intro hc
      refine hx_cons ?_
      with_reducible apply hs_cont
      with_reducible apply seq_cont
      with_reducible apply seq_cont
      exact ⟨.inr rfl, by (refine Sub.cons (by with_unfolding_all rfl) ?_; refine Sub.cons (by with_unfolding_all rfl) ?_; refine Sub.cons (by with_unfolding_all rfl) ?_; refine Sub.cons (by with_unfolding_all rfl) ?_; refine Sub.cons (by with_unfolding_all rfl) ?_; refine Sub.cons (by with_unfolding_all rfl) ?_; with_reducible exact Sub.nil), seen, c⟩
    · intro hc
      with_reducible apply hx_nil
      refine seq_next (hx_cons ?_)
      refine hs_while ?_
      refine hx_while (γ := List Fr × List Nat × Nat) (B := fun q => ("node", .int q.2.2) :: cyB g σf.length) (I := fun q σ' => Cyc g σf q.1 q.2.1 σ' ∧ (∀ f ∈ q.1, f.v < q.2.2) ∧ q.2.2 < g.n) (μ := fun q => rem g.su q.1 + edg g.su q.2.1 (List.range g.n))
        (fun q σ' hI => ?_) ([], seen, pre.length) _ _ ⟨c, fun f h => (nomatch h), hlt⟩ (by (with_reducible exact Sub.refl))
      · obtain ⟨fs, seen, v⟩ := q
        obtain ⟨c, hv, hlv⟩ := hI
        dsimp only at c hv hlv ⊢
        refine hx_pv (pv_tVal rfl pv_bool rfl) ⟨fun _ => ?_, fun h => by cases h⟩
        refine hx_cons ?_
        refine Hx.mono (Q := fun fl bs' σ'' => fl = .next ∧ Sub (cyB g σf.length) bs' ∧ ∃ fs' seen', Cyc g σf fs' seen' σ'' ∧ rem g.su fs' + edg g.su seen' (List.range g.n) = rem g.su fs + edg g.su seen (List.range g.n)) ?_ ?_
        · obtain ⟨es, k1, k2⟩ := c.nd
          have hse := c.se
          ((with_reducible apply hs_if); · (with_reducible apply pv_tCmp); (· kernel_rfl); (· exact pv_name (by kernel_rfl) (by with_unfolding_all rfl)); (· exact pv_name (by kernel_rfl) (by with_unfolding_all rfl)); · (with_reducible apply pv_inS); · with_reducible assumption) <;> first | (intro h; exact absurd h (by decide)) | refine imp_of (by decide) ?_ | skip
          · intro hc1
            refine hx_cons ?_
            ((with_reducible apply hs_if); · (with_reducible apply pv_tCmp); (· kernel_rfl); (· exact pv_name (by kernel_rfl) (by with_unfolding_all rfl)); (· exact pv_name (by kernel_rfl) (by with_unfolding_all rfl)); · (with_reducible apply pv_inD); · with_reducible assumption) <;> first | (intro h; exact absurd h (by decide)) | refine imp_of (by decide) ?_ | skip
            · intro hc2
              rw [any_miss k2 hv] at hc2
              cases hc2
            · intro _
              with_reducible apply hx_nil
              refine seq_next ?_
              with_reducible apply hx_nil
              exact ⟨rfl, by (refine Sub.cons (by with_unfolding_all rfl) ?_; refine Sub.cons (by with_unfolding_all rfl) ?_; refine Sub.cons (by with_unfolding_all rfl) ?_; refine Sub.cons (by with_unfolding_all rfl) ?_; refine Sub.cons (by with_unfolding_all rfl) ?_; refine Sub.cons (by with_unfolding_all rfl) ?_; with_reducible exact Sub.nil), fs, seen, c, rfl⟩
          · intro hc1
            rw [contains_nat, decide_eq_false_iff_not] at hc1
            have hst := c.st
            have hits := c.its
            have hlen : (seen.map fun (i : Nat) => (i : Int)).length < 1000 := by
              rw [List.length_map]
              have := nodup_len g.n seen c.sn c.sb
              lia
            have hfd := c.ext.get F.fd
            have hnode := c.ext.get (F.node v hlv)
            have hns := c.ext.get (F.ns v hlv)
            have hsl := c.ext.get (F.sl v hlv)
            unfold G.nodeAt at hnode
            have f1 := lt_of F.fd
            have f2 := lt_of (F.node v hlv)
            have f3 := lt_of (F.ns v hlv)
            have f4 := lt_of (F.sl v hlv)
            have hdg := dget_esOf (a := g.a) hlv
            have hfl : fs.length ≤ g.n := by
              have := nodup_len g.n (fs.map (·.v)) (inc_nodup c.inc) (fun u hu => by
                obtain ⟨f, hf, rfl⟩ := List.mem_map.mp hu
                exact (c.fr f hf).2.2.1)
              rwa [List.length_map] at this
            have hel : es.length < 1000 := by
              have := congrArg List.length k2
              simp only [List.length_map] at this
              lia
            have hcf : (seen.map fun (i : Nat) => (i : Int)).contains (v : Int) = false := by rw [contains_nat]; simpa using hc1
            refine hx_cons ?_
            (with_reducible apply hs_expr); · kernel_rfl
            (with_reducible apply hx_meth); (· exact ⟨by decide, by decide, rfl⟩); · rfl
            refine hx_pv (pv_name (by kernel_rfl) (by with_unfolding_all rfl)) ?_
            (with_reducible apply hx_findS); · with_reducible assumption
            refine hx_args1 rfl ?_
            refine hx_pv (pv_name (by kernel_rfl) (by with_unfolding_all rfl)) ?_
            refine hx_args0 ?_
            (with_reducible apply hx_mcallB); · kernel_rfl
            (with_reducible apply hx_mAdd); (· with_reducible assumption); · assumption
            with_reducible apply none_and
            refine seq_next (hx_cons ?_)
            (with_reducible apply hs_expr); · kernel_rfl
            (with_reducible apply hx_meth); (· exact ⟨by decide, by decide, rfl⟩); · rfl
            refine hx_pv (pv_name (by kernel_rfl) (by with_unfolding_all rfl)) ?_
            (with_reducible apply hx_findL); (· (with_reducible apply st_set_ne); (· lia); · with_reducible assumption); · exact .inl ⟨rfl, rfl⟩
            refine hx_args1 rfl ?_
            (with_reducible apply hx_attr); · kernel_rfl
            refine hx_call rfl ?_
            refine hx_pv (pv_glob (by kernel_rfl) (by with_unfolding_all rfl)) ?_
            refine hx_args1 rfl ?_
            (with_reducible apply hx_pv); · (with_reducible apply pv_attr); (· kernel_rfl); (· (with_reducible apply pv_item); (· kernel_rfl); (· exact pv_name (by kernel_rfl) (by with_unfolding_all rfl)); (· exact pv_name (by kernel_rfl) (by with_unfolding_all rfl)); · (with_reducible apply pv_itemFD); (· (with_reducible apply st_set_ne); (· lia); · with_reducible assumption); · assumption); · (with_reducible apply pv_succ); (· (with_reducible apply st_set_ne); (· lia); · with_reducible assumption); · (with_reducible apply st_set_ne); (· lia); · with_reducible assumption
            refine hx_args0 ?_
            with_reducible apply hx_callB
            (with_reducible apply hx_iter); · (with_reducible apply st_set_ne); (· lia); · with_reducible assumption
            (with_reducible apply hx_attrN); · with_reducible exact st_new
            refine hx_args0 ?_
            (with_reducible apply hx_mcallB); · kernel_rfl
            (with_reducible apply hx_mAppend); (· (with_reducible apply st_old); (with_reducible apply st_old); (with_reducible apply st_set_ne); (· lia); · with_reducible assumption); · simp only [List.length_append, List.length_map, List.length_cons, List.length_nil, List.length_replicate, List.length_range, natsV_len]; lia
            with_reducible apply none_and
            refine seq_next (hx_cons ?_)
            with_reducible apply hs_item
            (with_reducible apply hx_pv); · (with_reducible apply pv_call1); (· rfl); (· rfl); (· exact pv_glob (by kernel_rfl) (by with_unfolding_all rfl)); (· exact pv_name (by kernel_rfl) (by with_unfolding_all rfl)); · (with_reducible apply pv_lenL); (with_reducible apply st_set_ne); (· lia); · (with_reducible apply st_old); (with_reducible apply st_old); (with_reducible apply st_set_ne); (· lia); · with_reducible assumption
            refine hx_pv (pv_name (by kernel_rfl) (by with_unfolding_all rfl)) ?_
            refine hx_pv (pv_name (by kernel_rfl) (by with_unfolding_all rfl)) ?_
            (with_reducible apply hx_setitemD); (· (with_reducible apply st_set_ne); (· lia); · (with_reducible apply st_old); (with_reducible apply st_old); (with_reducible apply st_set_ne); (· lia); · with_reducible assumption); · assumption
            refine seq_next (hx_cons ?_)
            (with_reducible apply hs_expr); · kernel_rfl
            (with_reducible apply hx_meth); (· exact ⟨by decide, by decide, rfl⟩); · rfl
            refine hx_pv (pv_name (by kernel_rfl) (by with_unfolding_all rfl)) ?_
            (with_reducible apply hx_findL); (· (with_reducible apply st_set_ne); (· lia); · (with_reducible apply st_set_ne); (· lia); · (with_reducible apply st_old); (with_reducible apply st_old); (with_reducible apply st_set_ne); (· lia); · with_reducible assumption); · exact .inl ⟨rfl, rfl⟩
            refine hx_args1 rfl ?_
            refine hx_pv (pv_name (by kernel_rfl) (by with_unfolding_all rfl)) ?_
            refine hx_args0 ?_
            (with_reducible apply hx_mcallB); · kernel_rfl
            (with_reducible apply hx_mAppend); (· (with_reducible apply st_set_ne); (· lia); · (with_reducible apply st_set_ne); (· lia); · (with_reducible apply st_old); (with_reducible apply st_old); (with_reducible apply st_set_ne); (· lia); · with_reducible assumption); · simp only [List.length_append, List.length_map, List.length_cons, List.length_nil, List.length_replicate, List.length_range, natsV_len]; lia
            with_reducible apply none_and
            refine seq_next ?_
            with_reducible apply hx_nil
            simp only [hcf, Bool.false_eq_true, if_false, List.length_append, List.length_set, List.length_cons, List.length_nil, Nat.zero_add]
            refine ⟨trivial, by (refine Sub.cons (by with_unfolding_all rfl) ?_; refine Sub.cons (by with_unfolding_all rfl) ?_; refine Sub.cons (by with_unfolding_all rfl) ?_; refine Sub.cons (by with_unfolding_all rfl) ?_; refine Sub.cons (by with_unfolding_all rfl) ?_; refine Sub.cons (by with_unfolding_all rfl) ?_; with_reducible exact Sub.nil), _, _, c.push k1 k2 hv hlv hc1, ?_⟩
            have := edg_in (su := g.su) hc1 List.nodup_range (List.mem_range.mpr hlv)
            rw [rem_snoc]
            dsimp only
            lia
        · intro fl bs' σ₁ h
          obtain ⟨rfl, hb1, fs₁, seen₁, c₁, hm⟩ := h
          refine Hx.sub ?_ hb1
          refine hx_cons (hs_while ?_)
          refine hx_while (γ := List Fr) (B := fun _ => cyB g σf.length) (I := fun fs σ' => Cyc g σf fs seen₁ σ' ∧ rem g.su fs + edg g.su seen₁ (List.range g.n) = rem g.su fs₁ + edg g.su seen₁ (List.range g.n)) (μ := List.length) (fun fs₂ σ₂ hI => ?_) fs₁ _ _ ⟨c₁, rfl⟩ Sub.refl
          · obtain ⟨c₂, hm₂⟩ := hI
            have hst := c₂.st
            refine hx_pv (pv_tVal rfl (by (exact pv_name (by kernel_rfl) (by with_unfolding_all rfl))) (truth_list hst)) ⟨fun ht => ?_, fun ht => ?_⟩
            · obtain ⟨fs₃, f, rfl⟩ : ∃ fs₃ f, fs₂ = fs₃ ++ [f] := by
                rcases List.eq_nil_or_concat fs₂ with rfl | ⟨l, a, rfl⟩
                · cases ht
                · exact ⟨l, a, by simp⟩
              obtain ⟨q1, q2, q3, q4, q5⟩ := c₂.fr f (by simp)
              have hsl := c₂.ext.get (F.sl f.v q3)
              have hits := c₂.its
              refine hx_cons ?_
              rw [List.map_append, List.map_singleton] at hits
              obtain ⟨es, k1, k2⟩ := c₂.nd
              by_cases hk : f.k < (g.su f.v).length
              · have hw : (natsV (g.su f.v))[f.k]? = some (.int ((g.su f.v)[f.k] : Nat)) := by
                  unfold natsV
                  rw [List.getElem?_map, List.getElem?_eq_getElem hk]; rfl
                refine hx_tryDraw rfl (pv_item (by kernel_rfl) (by (exact pv_name (by kernel_rfl) (by with_unfolding_all rfl))) (pv_neg pv_int) (pv_last hits)) q1 q2 hsl hw (by kernel_rfl) ?_
                with_reducible apply seq_brk
                refine seq_next ?_
                with_reducible apply hx_nil
                obtain ⟨u1, u2⟩ := F.up f.v q3 _ (List.getElem_mem hk)
                refine ⟨(fs₃ ++ [⟨f.v, f.x, f.y, f.k + 1⟩], seen₁, (g.su f.v)[f.k]), by (with_reducible exact Sub.refl), ⟨c₂.draw hk, fun f' hf' => ?_, u2⟩, ?_⟩
                · have hi := c₂.inc
                  rw [List.map_append] at hi
                  rcases List.mem_append.mp hf' with h | h
                  · have := (List.pairwise_append.mp hi).2.2 f'.v (List.mem_map_of_mem h) f.v (by simp)
                    dsimp only; lia
                  · rcases List.mem_singleton.mp h with rfl
                    exact u1
                · rw [rem_snoc] at hm₂
                  dsimp only
                  rw [rem_snoc]
                  dsimp only
                  lia
              · have hw : (natsV (g.su f.v))[f.k]? = none := List.getElem?_eq_none (by rw [natsV_len]; lia)
                obtain ⟨cp, ha⟩ := c₂.pop k1 k2
                have hl := nodup_len g.n _ (inc_nodup c₂.inc) (fun u hu => by
                  obtain ⟨f, hf, rfl⟩ := List.mem_map.mp hu
                  exact (c₂.fr f hf).2.2.1)
                rw [List.map_append, List.length_append, List.length_map] at hl
                have n1 := ne_of q2 hst (fun h => by cases h)
                have n2 := ne_of q2 hits (fun h => by cases h)
                have n4 := ne_of q2 k1 (fun h => by cases h)
                rw [List.map_append, List.map_singleton, ← natsV_snoc] at hst
                refine hx_tryStop (S := natsV (fs₃.map (·.v))) (I := fs₃.map fun f => .ref f.x) rfl ⟨rfl, rfl, by kernel_rfl, by kernel_rfl⟩ (pv_item (by kernel_rfl) (by (exact pv_name (by kernel_rfl) (by with_unfolding_all rfl))) (pv_neg pv_int) (pv_last hits)) q1 q2 hsl hw ⟨⟨by kernel_rfl, by kernel_rfl⟩, by with_unfolding_all rfl⟩ ⟨⟨by kernel_rfl, by kernel_rfl⟩, by with_unfolding_all rfl⟩ ⟨⟨by kernel_rfl, by kernel_rfl⟩, by with_unfolding_all rfl⟩
                  (st_set_ne n1 hst) (by ((with_reducible apply st_set_ne); (· lia); · (with_reducible apply st_set_ne); (· assumption); · with_reducible assumption)) ha (by ((with_reducible apply st_set_ne); (· lia); · (with_reducible apply st_set_ne); (· lia); · (with_reducible apply st_set_ne); (· assumption); · with_reducible assumption)) ?_
                refine seq_next ?_
                with_reducible apply hx_nil
                refine ⟨fs₃, Sub.refl, ⟨cp, ?_⟩, by simp⟩
                rw [rem_snoc] at hm₂
                lia
            · obtain rfl : fs₂ = [] := by
                cases fs₂ with
                | nil => rfl
                | cons a l => cases ht
              refine hx_cons ?_
              with_reducible apply hs_break
              with_reducible apply seq_brk
              with_reducible apply seq_brk
              refine seq_next ?_
              with_reducible apply hx_nil
              exact ⟨.inl rfl, Sub.refl, seen₁, c₂⟩
  · refine Sub.cons (by with_unfolding_all rfl) ?_; refine Sub.cons (by with_unfolding_all rfl) ?_; refine Sub.cons (by with_unfolding_all rfl) ?_; refine Sub.cons (by with_unfolding_all rfl) ?_; refine Sub.cons (by with_unfolding_all rfl) ?_; refine Sub.cons (by with_unfolding_all rfl) ?_; with_reducible exact Sub.nil
  · obtain ⟨seen, c⟩ := h
    refine ⟨c.ext.get F.fd, ?_⟩
    refine Hx.sub ?_ hb
    refine hx_cons ?_
    with_reducible apply hs_ret
    (with_reducible apply hx_pv); · with_reducible exact pv_none
    with_reducible apply seq_ret
    exact hq _ (hx _ c.ext)

section
variable {bs : Bs} {σ : Store} {n lo : Nat} {g : G} {sc : Scope}
noncomputable def ready0 (g : G) : List Nat := (List.range g.n).filter fun i => g.np i == 0
theorem prepare_run {Q : AV → Bs → Store → Prop} (s : Srt lo g σ) (hrl : g.rl = none) (up : ∀ p, p < g.n → ∀ s ∈ g.su p, p < s ∧ s < g.n) (hn : g.n < 64) (he : edg g.su [] (List.range g.n) < 900) (hlo : lo ≤ σ.length)
    (hq : ∀ r σ', At lo g σ (g.setR r (ready0 g)) σ' → Q .none bs σ') : Hx (callA PP (n + 80) aPrep [.ref g.so] : Mm PP (n + 80) sc AV) bs σ Q := by
  refine hx_up ?_
  refine hx_callE (bs₀ := [("self", .ref g.so)]) (rest := []) rfl (by with_unfolding_all rfl) (by kernel_rfl) (by kernel_rfl) ?_
  have h1 := s.so
  have h2 := s.d
  have h3 := s.n2i
  rw [hrl] at h2
  have h2 : σ[g.d]? = some (sortNs (.ref g.n2i) .none (.int g.po) (.int g.fi)) := h2
  have hlt := lt_of h3
  refine hx_cons ?_
  ((with_reducible apply hs_if); · (with_reducible apply pv_tCmp); (· kernel_rfl); (· (with_reducible apply pv_attr); (· kernel_rfl); (· exact pv_name (by kernel_rfl) (by with_unfolding_all rfl)); · (with_reducible apply pv_ready); (· with_reducible assumption); (· with_reducible assumption); · rfl); (· with_reducible exact pv_none); · (with_reducible apply pv_isnot); rfl) <;> first | (intro h; exact absurd h (by decide)) | refine imp_of (by decide) ?_ | skip
  with_reducible apply hx_nil
  refine seq_next (hx_cons ?_)
  with_reducible apply hs_attr
  (with_reducible apply hx_comp); · kernel_rfl
  (with_reducible apply hx_meth); (· exact ⟨by decide, by decide, rfl⟩); · rfl
  (with_reducible apply hx_pv); · (with_reducible apply pv_attr); (· kernel_rfl); (· exact pv_name (by kernel_rfl) (by with_unfolding_all rfl)); · (with_reducible apply pv_n2i); (· with_reducible assumption); (· with_reducible assumption); · rfl
  (with_reducible apply hx_findD); (· with_reducible assumption); · exact .inr (.inr ⟨rfl, rfl⟩)
  refine hx_args0 ?_
  (with_reducible apply hx_mcallB); · kernel_rfl
  (with_reducible apply hx_mValues); · with_reducible assumption
  refine runComp_srcD (.values st_new (st_old h3)) ?_
  have hr0 : (ready0 g).length < 1000 := Nat.lt_of_le_of_lt (List.length_filter_le ..) (by rw [List.length_range]; lia)
  have hn0 : ((ready0 g).map fun (i : Nat) => AV.int i).length ≤ 1000000 := by rw [List.length_map]; lia
  rw [show (esOf g.n g.a).map (fun e => Item.one e.snd) = (List.range g.n).map fun (i : Nat) => Item.one (.ref (g.a i)) by unfold esOf; rw [List.map_map]; rfl]
  rw [List.set_append_left _ _ hlt]
  have F := s.fz up
  have ex := fun σ' => @ext_thaw σ σ' g.n2i (.dict (esOf g.n g.a)) (.fdict (esOf g.n g.a)) h3
  have hle : (σ.set g.n2i (.fdict (esOf g.n g.a))).length = σ.length := List.length_set
  generalize σ.set g.n2i (.fdict (esOf g.n g.a)) = σf at F ex hle
  refine hx_compN (ι := Nat) (xs := List.range g.n) (fun i => .ref (g.a i)) (fun i => g.np i == 0) (fun i => .int i) (by kernel_rfl) (by with_unfolding_all rfl) (st_old F.fd) (fun i hi => ?_) (fun i hi _ => ?_) fun bs' => ?_
  · have hi := List.mem_range.mp hi
    have k1 := F.node i hi
    have k2 := F.ns i hi
    unfold G.nodeAt at k1
    refine pv_tests1 ?_
    (with_reducible apply pv_tCmp); (· kernel_rfl); (· (with_reducible apply pv_attr); (· kernel_rfl); (· exact pv_name (by kernel_rfl) (by with_unfolding_all rfl)); · (with_reducible apply pv_npred); (· (with_reducible apply st_old); with_reducible assumption); · (with_reducible apply st_old); with_reducible assumption); (· with_reducible exact pv_int); · with_reducible exact pv_eqI
  · have hi := List.mem_range.mp hi
    have k1 := F.node i hi
    have k2 := F.ns i hi
    unfold G.nodeAt at k1
    (with_reducible apply pv_attr); (· kernel_rfl); (· exact pv_name (by kernel_rfl) (by with_unfolding_all rfl)); · (with_reducible apply pv_node); (· (with_reducible apply st_old); with_reducible assumption); (· (with_reducible apply st_old); with_reducible assumption); · rfl
  · refine ⟨st_old F.fd, ?_⟩
    have e1 := ex (σf ++ [AO.values g.n2i]) Ext.refl.app
    have x := (At.refl s).ext e1
    have hle2 : ((σf ++ [AO.values g.n2i]).set g.n2i (.dict (esOf g.n g.a))).length = σ.length + 1 := by simp [hle]
    generalize (σf ++ [AO.values g.n2i]).set g.n2i (.dict (esOf g.n g.a)) = τ at e1 x hle2
    have h1 := e1.get h1
    have h2 := e1.get h2
    show NewC ((ready0 g).map fun (i : Nat) => AV.int i) _ _ _
    (with_reducible apply hx_newC); · assumption
    refine hx_pv (pv_name (by kernel_rfl) (by with_unfolding_all rfl)) ?_
    (with_reducible apply hx_sReady); (· (with_reducible apply st_old); with_reducible assumption); · (with_reducible apply st_old); with_reducible assumption
    refine seq_next (hx_cons ?_)
    refine hs_assign (by kernel_rfl) (by kernel_rfl) ?_
    (with_reducible apply hx_meth); (· exact ⟨by decide, by decide, rfl⟩); · rfl
    refine hx_pv (pv_name (by kernel_rfl) (by with_unfolding_all rfl)) ?_
    have x := (x.app (t := [.list (natsV (ready0 g))])).newR (r := τ.length) st_new (fun q => by have := s.lt q; lia) (by lia) (by lia)
    have y := x.s
    have k1 := y.so
    have k2 := y.d
    dsimp only [G.setR, rdV] at k1 k2
    unfold natsV at k1 k2
    (with_reducible apply hx_findSo); (· with_reducible assumption); (· with_reducible assumption); (· rfl); · rfl
    refine hx_args0 ?_
    with_reducible apply hx_mcallF
    refine cycle_run (g := g.setR τ.length (ready0 g)) y up hn he fun σ' e2 => ?_
    refine seq_next (hx_cons ?_)
    ((with_reducible apply hs_if); · (with_reducible apply pv_tVal); (· rfl); (· exact pv_name (by kernel_rfl) (by with_unfolding_all rfl)); · rfl) <;> first | (intro h; exact absurd h (by decide)) | refine imp_of (by decide) ?_ | skip
    with_reducible apply hx_nil
    refine seq_next ?_
    with_reducible apply hx_nil
    exact hq _ _ (x.ext e2)
end

structure Sam (g g' : G) : Prop where
  so : g'.so = g.so
  n : g'.n = g.n
  su : g'.su = g.su
  sl : g'.sl = g.sl
  a : g'.a = g.a
  n2i : g'.n2i = g.n2i
  d : g'.d = g.d
theorem Sam.refl {g : G} : Sam g g := ⟨rfl, rfl, rfl, rfl, rfl, rfl, rfl⟩
theorem Sam.trans {a b c : G} (x : Sam a b) (y : Sam b c) : Sam a c := ⟨y.1.trans x.1, y.2.trans x.2, y.3.trans x.3, y.4.trans x.4, y.5.trans x.5, y.6.trans x.6, y.7.trans x.7⟩
theorem Sam.fold {ι : Type} {f : G → ι → G} (h : ∀ g i, Sam g (f g i)) : ∀ (l : List ι) (g : G), Sam g (l.foldl f g)
  | [], g => .refl
  | i :: l, g => (h g i).trans (Sam.fold h l _)
noncomputable def G.out1 (g : G) (i : Nat) : G := g.setNp i (-1)
noncomputable def G.out (g : G) (l : List Nat) : G := l.foldl G.out1 g
noncomputable def G.got (g : G) (r : Nat) (l : List Nat) : G := ((g.out l).setR r []).setC (g.po + l.length) g.fi
theorem out_same {g : G} : ∀ (l : List Nat) (g : G), (g.out l).rl = g.rl ∧ (g.out l).po = g.po ∧ (g.out l).fi = g.fi ∧ Sam g (g.out l)
  | [], g => ⟨rfl, rfl, rfl, .refl⟩
  | i :: l, g => by
    obtain ⟨h1, h2, h3, h4⟩ := out_same (g := g) l (g.out1 i)
    exact ⟨h1, h2, h3, (⟨rfl, rfl, rfl, rfl, rfl, rfl, rfl⟩ : Sam g (g.out1 i)).trans h4⟩
section
variable {bs : Bs} {σ : Store} {n lo : Nat} {g : G} {sc : Scope}
theorem active_run {r : Nat} {l : List Nat} {Q : AV → Bs → Store → Prop} (s : Srt lo g σ) (hr : g.rl = some (r, l)) (hq : Q (.bool (decide (g.fi < g.po) || !l.isEmpty)) bs σ) : Hx (callA PP (n + 40) aActive [.ref g.so] : Mm PP (n + 40) sc AV) bs σ Q := by
  refine hx_up ?_
  refine hx_callE (bs₀ := [("self", .ref g.so)]) (rest := []) rfl (by with_unfolding_all rfl) (by kernel_rfl) (by kernel_rfl) ?_
  have h1 := s.so
  have h2 := s.d
  rw [hr] at h2
  have h2 : σ[g.d]? = some (sortNs (.ref g.n2i) (.ref r) (.int g.po) (.int g.fi)) := h2
  have h3 := (s.rdy _ _ hr).1
  refine hx_cons ?_
  ((with_reducible apply hs_if); · (with_reducible apply pv_tCmp); (· kernel_rfl); (· (with_reducible apply pv_attr); (· kernel_rfl); (· exact pv_name (by kernel_rfl) (by with_unfolding_all rfl)); · (with_reducible apply pv_ready); (· with_reducible assumption); (· with_reducible assumption); · rfl); (· with_reducible exact pv_none); · (with_reducible apply pv_is); rfl) <;> first | (intro h; exact absurd h (by decide)) | refine imp_of (by decide) ?_ | skip
  with_reducible apply hx_nil
  refine seq_next (hx_cons ?_)
  with_reducible apply hs_ret
  refine hx_bool (hx_boolOr (hx_pv (by ((with_reducible apply pv_cmp); (· kernel_rfl); (· (with_reducible apply pv_attr); (· kernel_rfl); (· exact pv_name (by kernel_rfl) (by with_unfolding_all rfl)); · (with_reducible apply pv_fi); (· with_reducible assumption); (· with_reducible assumption); · rfl); (· (with_reducible apply pv_attr); (· kernel_rfl); (· exact pv_name (by kernel_rfl) (by with_unfolding_all rfl)); · (with_reducible apply pv_po); (· with_reducible assumption); (· with_reducible assumption); · rfl); · with_reducible exact pv_lt)) ⟨_, rfl, fun h => ?_, fun h => hx_bool1 ?_⟩))
  · rw [h] at hq ⊢
    with_reducible apply seq_ret
    exact hq
  · rw [h, Bool.false_or] at hq
    have : l.isEmpty = (natsV l).isEmpty := by cases l <;> rfl
    rw [this] at hq
    refine hx_call rfl ?_
    refine hx_pv (pv_glob (by kernel_rfl) (by with_unfolding_all rfl)) ?_
    refine hx_args1 rfl ?_
    (with_reducible apply hx_pv); · (with_reducible apply pv_attr); (· kernel_rfl); (· exact pv_name (by kernel_rfl) (by with_unfolding_all rfl)); · (with_reducible apply pv_ready); (· with_reducible assumption); (· with_reducible assumption); · rfl
    refine hx_args0 (hx_callT ?_)
    refine hx_pv (pv_boolL h3) ?_
    with_reducible apply seq_ret
    exact hq
theorem ready_run {r : Nat} {l : List Nat} {Q : AV → Bs → Store → Prop} (s : Srt lo g σ) (hr : g.rl = some (r, l)) (hl : ∀ i ∈ l, i < g.n) (hll : l.length < 1000)
    (hq : ∀ t σ', At lo g σ (g.got r l) σ' → σ'[t]? = some (.tuple (natsV l)) → σ.length ≤ t → ¬ Foot (g.got r l) t → Q (.ref t) bs σ') : Hx (callA PP (n + 50) aReady [.ref g.so] : Mm PP (n + 50) sc AV) bs σ Q := by
  refine hx_up ?_
  refine hx_callE (bs₀ := [("self", .ref g.so)]) (rest := []) rfl (by with_unfolding_all rfl) (by kernel_rfl) (by kernel_rfl) ?_
  have h1 := s.so
  have h2 := s.d
  rw [hr] at h2
  have h2 : σ[g.d]? = some (sortNs (.ref g.n2i) (.ref r) (.int g.po) (.int g.fi)) := h2
  have h3 := (s.rdy _ _ hr).1
  have hln : (natsV l).length ≤ 1000000 := by rw [natsV_len]; lia
  refine hx_cons ?_
  ((with_reducible apply hs_if); · (with_reducible apply pv_tCmp); (· kernel_rfl); (· (with_reducible apply pv_attr); (· kernel_rfl); (· exact pv_name (by kernel_rfl) (by with_unfolding_all rfl)); · (with_reducible apply pv_ready); (· with_reducible assumption); (· with_reducible assumption); · rfl); (· with_reducible exact pv_none); · (with_reducible apply pv_is); rfl) <;> first | (intro h; exact absurd h (by decide)) | refine imp_of (by decide) ?_ | skip
  with_reducible apply hx_nil
  refine seq_next (hx_cons ?_)
  refine hs_assign (by kernel_rfl) (by kernel_rfl) ?_
  refine hx_call rfl ?_
  refine hx_pv (pv_glob (by kernel_rfl) (by with_unfolding_all rfl)) ?_
  refine hx_args1 rfl ?_
  (with_reducible apply hx_pv); · (with_reducible apply pv_attr); (· kernel_rfl); (· exact pv_name (by kernel_rfl) (by with_unfolding_all rfl)); · (with_reducible apply pv_ready); (· with_reducible assumption); (· with_reducible assumption); · rfl
  refine hx_args0 (hx_callT ?_)
  (with_reducible apply hx_tupleL); (· with_reducible assumption); · assumption
  refine seq_next (hx_cons ?_)
  refine hs_assign (by kernel_rfl) (by kernel_rfl) ?_
  (with_reducible apply hx_pv); · (with_reducible apply pv_attr); (· kernel_rfl); (· exact pv_name (by kernel_rfl) (by with_unfolding_all rfl)); · (with_reducible apply pv_n2i); (· (with_reducible apply st_old); with_reducible assumption); (· (with_reducible apply st_old); with_reducible assumption); · rfl
  refine seq_next (hx_cons ?_)
  (with_reducible apply hs_for); · kernel_rfl
  refine hx_pv (pv_name (by kernel_rfl) (by with_unfolding_all rfl)) ?_
  (with_reducible apply runFor_tuple); · with_reducible exact st_new
  rw [items_nats]
  refine hx_forPre (B := fun _ => [("n2i", .ref g.n2i), ("result", .ref σ.length), ("self", .ref g.so)]) (S := fun pre σ₃ => At lo g (σ ++ [.tuple (natsV l)]) (g.out pre) σ₃ ∧ σ₃[σ.length]? = some (.tuple (natsV l))) (fun pre σ₃ h => h.2) (fun pre p post σ₃ hpre h => ?_) ⟨At.refl s.app, st_new⟩ ?_ (fun σ₃ bs₃ h hb => ?_)
  · obtain ⟨x, ht⟩ := h
    obtain ⟨q1, q2, q3, sm⟩ := out_same (g := g) pre g
    have hp := hl p (by rw [hpre]; simp)
    have : g.out (pre ++ [p]) = (g.out pre).out1 p := by unfold G.out; rw [List.foldl_append]; rfl
    rw [this]
    generalize g.out pre = g3 at x sm ⊢
    have hp3 : p < g3.n := by rw [sm.n]; exact hp
    have k1 := x.s.n2i
    have k2 := x.s.node p hp3
    have k3 := x.s.ns p hp3
    have hdg := dget_esOf (a := g.a) hp
    unfold G.nodeAt at k2
    rw [sm.n2i, sm.n, sm.a] at k1
    rw [sm.a] at k2
    have hne := ne_of k2 ht (fun h => by cases h)
    (with_reducible apply hx_bindN); · kernel_rfl
    refine hx_cons ?_
    with_reducible apply hs_attr
    refine hx_pv (pv_glob (by kernel_rfl) (by with_unfolding_all rfl)) ?_
    (with_reducible apply hx_pv); · (with_reducible apply pv_item); (· kernel_rfl); (· exact pv_name (by kernel_rfl) (by with_unfolding_all rfl)); (· exact pv_name (by kernel_rfl) (by with_unfolding_all rfl)); · (with_reducible apply pv_itemD); (· with_reducible assumption); · assumption
    (with_reducible apply hx_sNpred); (· with_reducible assumption); · with_reducible assumption
    refine seq_next ?_
    with_reducible apply hx_nil
    have y := x.setNp hp3 (-1)
    rw [sm.a] at y
    exact ⟨.inl rfl, by (refine Sub.cons (by with_unfolding_all rfl) ?_; refine Sub.cons (by with_unfolding_all rfl) ?_; refine Sub.cons (by with_unfolding_all rfl) ?_; with_reducible exact Sub.nil), y, by ((with_reducible apply st_set_ne); (· assumption); · with_reducible assumption)⟩
  · with_reducible exact Sub.refl
  · obtain ⟨x, ht⟩ := h
    refine Hx.sub ?_ hb
    obtain ⟨q1, q2, q3, sm⟩ := out_same (g := g) l g
    unfold G.got at hq
    generalize g.out l = g3 at x sm q1 q2 q3 hq
    have k1 := x.s.so
    have k2 := x.s.d
    have k3 := (x.s.rdy r l (q1.trans hr)).1
    rw [q1, hr, q2, q3, sm.d, sm.n2i] at k2
    rw [sm.so, sm.d] at k1
    have k2 : σ₃[g.d]? = some (sortNs (.ref g.n2i) (.ref r) (.int g.po) (.int g.fi)) := k2
    have n1 := ne_of k3 k1 (fun h => by cases h)
    have n2 := ne_of k3 k2 (fun h => by cases h)
    have n3 := ne_of k3 ht (fun h => by cases h)
    have n4 := ne_of k2 ht (fun h => by cases h)
    refine hx_cons ?_
    (with_reducible apply hs_expr); · kernel_rfl
    (with_reducible apply hx_meth); (· exact ⟨by decide, by decide, rfl⟩); · rfl
    (with_reducible apply hx_pv); · (with_reducible apply pv_attr); (· kernel_rfl); (· exact pv_name (by kernel_rfl) (by with_unfolding_all rfl)); · (with_reducible apply pv_ready); (· with_reducible assumption); (· with_reducible assumption); · rfl
    (with_reducible apply hx_findL); (· with_reducible assumption); · exact .inr (.inl ⟨rfl, rfl⟩)
    refine hx_args0 ?_
    (with_reducible apply hx_mcallB); · kernel_rfl
    (with_reducible apply hx_mClear); · with_reducible assumption
    with_reducible apply none_and
    refine seq_next (hx_cons ?_)
    (with_reducible apply hs_augA); (· exact pv_name (by kernel_rfl) (by with_unfolding_all rfl)); (· (with_reducible apply pv_po); (· (with_reducible apply st_set_ne); (· assumption); · with_reducible assumption); (· (with_reducible apply st_set_ne); (· assumption); · with_reducible assumption); · rfl); · (with_reducible apply pv_call1); (· rfl); (· rfl); (· exact pv_glob (by kernel_rfl) (by with_unfolding_all rfl)); (· exact pv_name (by kernel_rfl) (by with_unfolding_all rfl)); · (with_reducible apply pv_lenT); (with_reducible apply st_set_ne); (· assumption); · with_reducible assumption
    (with_reducible apply hx_sPo); (· (with_reducible apply st_set_ne); (· assumption); · with_reducible assumption); · (with_reducible apply st_set_ne); (· assumption); · with_reducible assumption
    refine seq_next (hx_cons ?_)
    with_reducible apply hs_ret
    refine hx_pv (pv_name (by kernel_rfl) (by with_unfolding_all rfl)) ?_
    with_reducible apply seq_ret
    rw [natsV_len]
    have y := (x.setR (l := []) (q1.trans hr)).setC (g.po + l.length) g.fi
    have y : At lo g (σ ++ [.tuple (natsV l)]) ((g3.setR r []).setC (g.po + l.length) g.fi) ((σ₃.set r (.list [])).set g.d (sortNs (.ref g.n2i) (.ref r) (.int (g.po + l.length)) (.int g.fi))) := by
      have e1 : (g3.setR r []).d = g.d := sm.d
      have e2 : (g3.setR r []).n2i = g.n2i := sm.n2i
      rw [e1, e2] at y
      exact y
    refine hq σ.length _ ((At.refl s).app.trans y) (by ((with_reducible apply st_set_ne); (· assumption); · (with_reducible apply st_set_ne); (· assumption); · with_reducible assumption)) (Nat.le_refl _) fun hf => ?_
    rcases y.t.foot _ hf with h | h
    · exact s.fresh h
    · rw [List.length_append] at h
      exact absurd h (Nat.not_succ_le_self _)
noncomputable def G.dec (g : G) (i : Nat) : G := match g.rl with
  | some p => if g.np i - 1 = 0 then (g.setNp i (g.np i - 1)).setR p.1 (p.2 ++ [i]) else g.setNp i (g.np i - 1)
  | none => g.setNp i (g.np i - 1)
noncomputable def G.done1 (g : G) (v : Nat) : G := let h := (g.su v).foldl G.dec (g.setNp v (-2)); h.setC h.po (h.fi + 1)
theorem dec_same (g : G) (i : Nat) : Sam g (g.dec i) := by
  unfold G.dec
  cases g.rl with
  | none => exact ⟨rfl, rfl, rfl, rfl, rfl, rfl, rfl⟩
  | some p =>
    dsimp only
    split <;> exact ⟨rfl, rfl, rfl, rfl, rfl, rfl, rfl⟩
theorem dec_po (g : G) (i : Nat) : (g.dec i).po = g.po ∧ (g.dec i).fi = g.fi := by
  unfold G.dec
  cases g.rl with
  | none => exact ⟨rfl, rfl⟩
  | some p =>
    dsimp only
    split <;> exact ⟨rfl, rfl⟩
theorem dec_rl (g : G) (i : Nat) {r : Nat} {l : List Nat} (h : g.rl = some (r, l)) : ∃ l', (g.dec i).rl = some (r, l') ∧ l'.length ≤ l.length + 1 := by
  unfold G.dec
  rw [h]
  dsimp only
  split
  · exact ⟨_, rfl, by rw [List.length_append]; exact Nat.le_refl _⟩
  · exact ⟨l, h, Nat.le_succ _⟩
theorem decs_rl {r : Nat} : ∀ (is : List Nat) (g : G) (l : List Nat), g.rl = some (r, l) → ∃ l', (is.foldl G.dec g).rl = some (r, l') ∧ l'.length ≤ l.length + is.length
  | [], g, l, h => ⟨l, h, Nat.le_refl _⟩
  | i :: is, g, l, h => by
    obtain ⟨l1, h1, h2⟩ := dec_rl g i h
    obtain ⟨l2, h3, h4⟩ := decs_rl is _ l1 h1
    exact ⟨l2, h3, by rw [List.length_cons]; lia⟩
theorem done1_same (g : G) (v : Nat) : Sam g (g.done1 v) :=
  ((⟨rfl, rfl, rfl, rfl, rfl, rfl, rfl⟩ : Sam g (g.setNp v (-2))).trans (Sam.fold dec_same _ _)).trans ⟨rfl, rfl, rfl, rfl, rfl, rfl, rfl⟩
theorem done_run {r : Nat} {vs : List Nat} {Q : AV → Bs → Store → Prop} (s : Srt lo g σ) (hvs : vs.length < 1000) (hsu : ∀ v, v < g.n → ∀ i ∈ g.su v, i < g.n)
    (hst : ∀ pre v post, vs = pre ++ v :: post → v < g.n ∧ (pre.foldl G.done1 g).np v = -1 ∧ ∃ l, (pre.foldl G.done1 g).rl = some (r, l) ∧ l.length + (g.su v).length < 1000) (hrl : ∃ l, g.rl = some (r, l))
    (hq : ∀ σ', At lo g σ (vs.foldl G.done1 g) σ' → Q .none bs σ') : Hx (callA PP (n + 70) aDone (.ref g.so :: natsV vs) : Mm PP (n + 70) sc AV) bs σ Q := by
  refine hx_up ?_
  have hlv : (natsV vs).length ≤ 1000000 := by rw [natsV_len]; lia
  refine hx_callAV (x := "nodes") (bs₀ := [("self", .ref g.so)]) (rest := natsV vs) rfl (by with_unfolding_all rfl) (by kernel_rfl) ?_ hlv ?_
  · exact bind_va (fn := fDone) (args := .ref g.so :: natsV vs) (Nat.le_add_left 1 _) (by kernel_rfl)
  obtain ⟨l0, hr⟩ := hrl
  have h1 : (σ ++ [.tuple (natsV vs)])[g.so]? = some (.inst cSort g.d) := st_old s.so
  have h2 := s.d
  rw [hr] at h2
  have h2 : (σ ++ [.tuple (natsV vs)])[g.d]? = some (sortNs (.ref g.n2i) (.ref r) (.int g.po) (.int g.fi)) := st_old h2
  refine hx_cons ?_
  ((with_reducible apply hs_if); · (with_reducible apply pv_tCmp); (· kernel_rfl); (· (with_reducible apply pv_attr); (· kernel_rfl); (· exact pv_name (by kernel_rfl) (by with_unfolding_all rfl)); · (with_reducible apply pv_ready); (· with_reducible assumption); (· with_reducible assumption); · rfl); (· with_reducible exact pv_none); · (with_reducible apply pv_is); rfl) <;> first | (intro h; exact absurd h (by decide)) | refine imp_of (by decide) ?_ | skip
  with_reducible apply hx_nil
  refine seq_next (hx_cons ?_)
  refine hs_assign (by kernel_rfl) (by kernel_rfl) ?_
  (with_reducible apply hx_pv); · (with_reducible apply pv_attr); (· kernel_rfl); (· exact pv_name (by kernel_rfl) (by with_unfolding_all rfl)); · (with_reducible apply pv_n2i); (· with_reducible assumption); (· with_reducible assumption); · rfl
  refine seq_next (hx_cons ?_)
  (with_reducible apply hs_for); · kernel_rfl
  refine hx_pv (pv_name (by kernel_rfl) (by with_unfolding_all rfl)) ?_
  (with_reducible apply runFor_tuple); · with_reducible exact st_new
  rw [items_nats]
  refine hx_forPre (B := fun _ => [("n2i", .ref g.n2i), ("self", .ref g.so)]) (S := fun pre σ₃ => At lo g (σ ++ [.tuple (natsV vs)]) (pre.foldl G.done1 g) σ₃ ∧ σ₃[σ.length]? = some (.tuple (natsV vs))) (fun pre σ₃ h => h.2) (fun pre v post σ₃ hpre h => ?_) ⟨At.refl s.app, st_new⟩ ?_ (fun σ₃ bs₃ h hb => ?_)
  · obtain ⟨x, ht⟩ := h
    obtain ⟨hv, hnp, l, hl, hll⟩ := hst pre v post hpre
    have sm := Sam.fold done1_same pre g
    rw [List.foldl_append]
    show HxB _ _ _ _ _ _ _ _ fun fl bs' σ' => _ ∧ _ ∧ At lo g _ ((pre.foldl G.done1 g).done1 v) σ' ∧ _
    generalize pre.foldl G.done1 g = g3 at x sm hnp hl ⊢
    have hv3 : v < g3.n := by rw [sm.n]; exact hv
    have k1 := x.s.n2i
    have k2 := x.s.node v hv3
    have k3 := x.s.ns v hv3
    have k4 := x.s.sl v hv3
    have hdg := dget_esOf (a := g.a) hv
    unfold G.nodeAt at k2
    rw [sm.n2i, sm.n, sm.a] at k1
    rw [sm.a, hnp] at k2
    have hne := ne_of k2 ht (fun h => by cases h)
    have hne2 := ne_of k2 k4 (fun h => by cases h)
    have hne3 := ne_of k2 k3 (fun h => by cases h)
    (with_reducible apply hx_bindN); · kernel_rfl
    refine hx_cons ?_
    with_reducible apply hs_ifH
    (with_reducible apply hx_tCmp); · kernel_rfl
    (with_reducible apply hx_walrus); · kernel_rfl
    (with_reducible apply hx_meth); (· exact ⟨by decide, by decide, rfl⟩); · rfl
    refine hx_pv (pv_name (by kernel_rfl) (by with_unfolding_all rfl)) ?_
    (with_reducible apply hx_findD); (· with_reducible assumption); · exact .inl ⟨rfl, rfl⟩
    refine hx_args1 rfl ?_
    refine hx_pv (pv_name (by kernel_rfl) (by with_unfolding_all rfl)) ?_
    refine hx_args0 ?_
    (with_reducible apply hx_mcallB); · kernel_rfl
    (with_reducible apply hx_mGet); · with_reducible assumption
    (with_reducible apply hx_pv); · with_reducible exact pv_none
    rw [hdg, Option.getD_some]
    (with_reducible apply hx_pv); · (with_reducible apply pv_is); rfl
    with_reducible apply ex_bool
    with_reducible apply br_false
    with_reducible apply hx_nil
    refine seq_next (hx_cons ?_)
    refine hs_assign (by kernel_rfl) (by kernel_rfl) ?_
    (with_reducible apply hx_pv); · (with_reducible apply pv_attr); (· kernel_rfl); (· exact pv_name (by kernel_rfl) (by with_unfolding_all rfl)); · (with_reducible apply pv_npred); (· with_reducible assumption); · with_reducible assumption
    refine seq_next (hx_cons ?_)
    ((with_reducible apply hs_if); · (with_reducible apply pv_tCmp); (· kernel_rfl); (· exact pv_name (by kernel_rfl) (by with_unfolding_all rfl)); (· exact pv_glob (by kernel_rfl) (by with_unfolding_all rfl)); · with_reducible exact pv_neI) <;> first | (intro h; exact absurd h (by decide)) | refine imp_of (by decide) ?_ | skip
    with_reducible apply hx_nil
    refine seq_next (hx_cons ?_)
    with_reducible apply hs_attr
    refine hx_pv (pv_glob (by kernel_rfl) (by with_unfolding_all rfl)) ?_
    refine hx_pv (pv_name (by kernel_rfl) (by with_unfolding_all rfl)) ?_
    (with_reducible apply hx_sNpred); (· with_reducible assumption); · with_reducible assumption
    refine seq_next (hx_cons ?_)
    (with_reducible apply hs_for); · kernel_rfl
    (with_reducible apply hx_pv); · (with_reducible apply pv_attr); (· kernel_rfl); (· exact pv_name (by kernel_rfl) (by with_unfolding_all rfl)); · (with_reducible apply pv_succ); (· (with_reducible apply st_set); with_reducible assumption); · (with_reducible apply st_set_ne); (· assumption); · with_reducible assumption
    (with_reducible apply runFor_list); · (with_reducible apply st_set_ne); (· assumption); · with_reducible assumption
    have y := x.setNp hv3 (-2)
    rw [sm.a] at y
    have ht := st_set_ne (o' := nodeO (g3.dd v) (some (.int v)) (some (.int (-2))) (some (.ref (g3.sl v)))) hne ht
    have k5 := st_set (o := nodeO (g3.dd v) (some (.int v)) (some (.int (-2))) (some (.ref (g3.sl v)))) k2
    generalize hσ : σ₃.set (g.a v) (nodeO (g3.dd v) (some (.int v)) (some (.int (-2))) (some (.ref (g3.sl v)))) = σ₄ at y ht k5 ⊢
    rw [items_nats, sm.su]
    refine hx_forPre (B := fun _ => [("nodeinfo", .ref (g.a v)), ("n2i", .ref g.n2i), ("self", .ref g.so)]) (S := fun pre₂ σ₅ => At lo g (σ ++ [.tuple (natsV vs)]) (pre₂.foldl G.dec (g3.setNp v (-2))) σ₅ ∧ σ₅[σ.length]? = some (.tuple (natsV vs)))
      (fun pre₂ σ₅ h => ?_) (fun pre₂ i post₂ σ₅ hpre₂ h => ?_) ⟨y, ht⟩ ?_ (fun σ₅ bs₅ h hb => ?_)
    · have sm2 := (⟨rfl, rfl, rfl, rfl, rfl, rfl, rfl⟩ : Sam g3 (g3.setNp v (-2))).trans (Sam.fold dec_same pre₂ _)
      have := h.1.s.sl v (by rw [sm2.n]; exact hv3)
      rw [sm2.sl, sm2.su, sm.su] at this
      exact this
    · obtain ⟨x, ht⟩ := h
      have sm2 := sm.trans ((⟨rfl, rfl, rfl, rfl, rfl, rfl, rfl⟩ : Sam g3 (g3.setNp v (-2))).trans (Sam.fold dec_same pre₂ _))
      obtain ⟨l2, hl2, hl3⟩ := decs_rl (r := r) pre₂ (g3.setNp v (-2)) l hl
      have hi : i < g.n := hsu v hv i (by rw [hpre₂]; simp)
      have hlen : (g.su v).length = pre₂.length + (post₂.length + 1) := by rw [hpre₂]; simp
      rw [List.foldl_append]
      show HxB _ _ _ _ _ _ _ _ fun fl bs' σ' => _ ∧ _ ∧ At lo g _ ((pre₂.foldl G.dec (g3.setNp v (-2))).dec i) σ' ∧ _
      generalize pre₂.foldl G.dec (g3.setNp v (-2)) = g4 at x sm2 hl2 ⊢
      have hi4 : i < g4.n := by rw [sm2.n]; exact hi
      have k1 := x.s.n2i
      have k2 := x.s.node i hi4
      have k3 := x.s.ns i hi4
      have k6 := x.s.so
      have k7 := x.s.d
      have k8 := (x.s.rdy r l2 hl2).1
      have hdg := dget_esOf (a := g.a) hi
      unfold G.nodeAt at k2
      rw [sm2.n2i, sm2.n, sm2.a] at k1
      rw [sm2.a] at k2
      rw [sm2.so, sm2.d] at k6
      rw [sm2.d, sm2.n2i, hl2] at k7
      have k7 : σ₅[g.d]? = some (sortNs (.ref g.n2i) (.ref r) (.int g4.po) (.int g4.fi)) := k7
      have hne := ne_of k2 ht (fun h => by cases h)
      have hne2 := ne_of k2 k8 (fun h => by cases h)
      have hne3 := ne_of k2 k6 (fun h => by cases h)
      have hne4 := ne_of k2 k7 (fun h => by cases h)
      have hne5 := ne_of k8 ht (fun h => by cases h)
      have hne6 := ne_of k2 k3 (fun h => by cases h)
      have hl4 : (natsV l2 ++ [AV.int i]).length ≤ 1000000 := by rw [natsV_snoc, natsV_len, List.length_append, List.length_singleton]; lia
      have y := x.setNp hi4 (g4.np i - 1)
      rw [sm2.a] at y
      have hd : g4.dec i = if g4.np i - 1 = 0 then (g4.setNp i (g4.np i - 1)).setR r (l2 ++ [i]) else g4.setNp i (g4.np i - 1) := by unfold G.dec; rw [hl2]
      (with_reducible apply hx_bindN); · kernel_rfl
      refine hx_cons ?_
      refine hs_assign (by kernel_rfl) (by kernel_rfl) ?_
      (with_reducible apply hx_pv); · (with_reducible apply pv_item); (· kernel_rfl); (· exact pv_name (by kernel_rfl) (by with_unfolding_all rfl)); (· exact pv_name (by kernel_rfl) (by with_unfolding_all rfl)); · (with_reducible apply pv_itemD); (· with_reducible assumption); · assumption
      refine seq_next (hx_cons ?_)
      (with_reducible apply hs_augS); (· exact pv_name (by kernel_rfl) (by with_unfolding_all rfl)); (· (with_reducible apply pv_npred); (· with_reducible assumption); · with_reducible assumption); · with_reducible exact pv_int
      (with_reducible apply hx_sNpred); (· with_reducible assumption); · with_reducible assumption
      refine seq_next (hx_cons ?_)
      ((with_reducible apply hs_if); · (with_reducible apply pv_tCmp); (· kernel_rfl); (· (with_reducible apply pv_attr); (· kernel_rfl); (· exact pv_name (by kernel_rfl) (by with_unfolding_all rfl)); · (with_reducible apply pv_npred); (· (with_reducible apply st_set); with_reducible assumption); · (with_reducible apply st_set_ne); (· assumption); · with_reducible assumption); (· with_reducible exact pv_int); · with_reducible exact pv_eqI) <;> first | (intro h; exact absurd h (by decide)) | refine imp_of (by decide) ?_ | skip
      · intro hc
        rw [hd, if_pos (by simpa using hc)]
        refine hx_cons ?_
        (with_reducible apply hs_expr); · kernel_rfl
        (with_reducible apply hx_meth); (· exact ⟨by decide, by decide, rfl⟩); · rfl
        (with_reducible apply hx_pv); · (with_reducible apply pv_attr); (· kernel_rfl); (· exact pv_name (by kernel_rfl) (by with_unfolding_all rfl)); · (with_reducible apply pv_ready); (· (with_reducible apply st_set_ne); (· assumption); · with_reducible assumption); (· (with_reducible apply st_set_ne); (· assumption); · with_reducible assumption); · rfl
        (with_reducible apply hx_findL); (· (with_reducible apply st_set_ne); (· assumption); · with_reducible assumption); · exact .inl ⟨rfl, rfl⟩
        refine hx_args1 rfl ?_
        refine hx_pv (pv_name (by kernel_rfl) (by with_unfolding_all rfl)) ?_
        refine hx_args0 ?_
        (with_reducible apply hx_mcallB); · kernel_rfl
        (with_reducible apply hx_mAppend); (· (with_reducible apply st_set_ne); (· assumption); · with_reducible assumption); · assumption
        with_reducible apply none_and
        refine seq_next ?_
        with_reducible apply hx_nil
        refine seq_next ?_
        with_reducible apply hx_nil
        rw [natsV_snoc]
        exact ⟨.inl rfl, by (refine Sub.cons (by with_unfolding_all rfl) ?_; refine Sub.cons (by with_unfolding_all rfl) ?_; refine Sub.cons (by with_unfolding_all rfl) ?_; with_reducible exact Sub.nil), y.setR (l := l2 ++ [i]) hl2, by ((with_reducible apply st_set_ne); (· assumption); · (with_reducible apply st_set_ne); (· assumption); · with_reducible assumption)⟩
      · intro hc
        rw [hd, if_neg (by simpa using hc)]
        with_reducible apply hx_nil
        refine seq_next ?_
        with_reducible apply hx_nil
        exact ⟨.inl rfl, by (refine Sub.cons (by with_unfolding_all rfl) ?_; refine Sub.cons (by with_unfolding_all rfl) ?_; refine Sub.cons (by with_unfolding_all rfl) ?_; with_reducible exact Sub.nil), y, by ((with_reducible apply st_set_ne); (· assumption); · with_reducible assumption)⟩
    · refine Sub.cons (by with_unfolding_all rfl) ?_; refine Sub.cons (by with_unfolding_all rfl) ?_; refine Sub.cons (by with_unfolding_all rfl) ?_; with_reducible exact Sub.nil
    · obtain ⟨x, ht⟩ := h
      refine Hx.sub ?_ hb
      have sm2 := sm.trans ((⟨rfl, rfl, rfl, rfl, rfl, rfl, rfl⟩ : Sam g3 (g3.setNp v (-2))).trans (Sam.fold dec_same (g.su v) _))
      obtain ⟨l2, hl2, hl3⟩ := decs_rl (r := r) (g.su v) (g3.setNp v (-2)) l hl
      unfold G.done1
      rw [sm.su]
      generalize (g.su v).foldl G.dec (g3.setNp v (-2)) = g4 at x sm2 hl2 ⊢
      have k6 := x.s.so
      have k7 := x.s.d
      rw [sm2.so, sm2.d] at k6
      rw [sm2.d, sm2.n2i, hl2] at k7
      have k7 : σ₅[g.d]? = some (sortNs (.ref g.n2i) (.ref r) (.int g4.po) (.int g4.fi)) := k7
      have hne4 := ne_of k7 ht (fun h => by cases h)
      have y := x.setC g4.po (g4.fi + 1)
      rw [sm2.d, sm2.n2i, hl2] at y
      refine hx_cons ?_
      (with_reducible apply hs_augA); (· exact pv_name (by kernel_rfl) (by with_unfolding_all rfl)); (· (with_reducible apply pv_fi); (· with_reducible assumption); (· with_reducible assumption); · rfl); · with_reducible exact pv_int
      (with_reducible apply hx_sFi); (· with_reducible assumption); · with_reducible assumption
      refine seq_next ?_
      with_reducible apply hx_nil
      exact ⟨.inl rfl, by (refine Sub.cons (by with_unfolding_all rfl) ?_; refine Sub.cons (by with_unfolding_all rfl) ?_; with_reducible exact Sub.nil), y, by ((with_reducible apply st_set_ne); (· assumption); · with_reducible assumption)⟩
  · refine Sub.cons (by with_unfolding_all rfl) ?_; refine Sub.cons (by with_unfolding_all rfl) ?_; with_reducible exact Sub.nil
  · obtain ⟨x, ht⟩ := h
    refine Hx.sub ?_ hb
    with_reducible apply hx_nil
    exact hq _ ((At.refl s).app.trans x)
end

structure Acy (preds : Nat → List Nat) : Prop where
  lt : ∀ k, ∀ p ∈ preds k, p < k
  nd : ∀ k, (preds k).Nodup
noncomputable def isFree (preds : Nat → List Nat) (n : Nat) (D : List Nat) (v : Nat) : Prop := v < n ∧ v ∉ D ∧ ∀ p ∈ preds v, p ∈ D
structure OkG (preds : Nat → List Nat) (n : Nat) (D W : List Nat) (r : Nat) (R : List Nat) (g : G) : Prop where
  gn : g.n = n
  su : ∀ p, p < n → g.su p = sucs preds n p
  rl : g.rl = some (r, R)
  po : g.po = D.length + W.length
  fi : g.fi = D.length
  nd : (D ++ W ++ R).Nodup
  lt : ∀ v ∈ D, v < n
  down : ∀ v ∈ D, ∀ p ∈ preds v, p ∈ D
  mem : ∀ v, (v ∈ W ∨ v ∈ R) ↔ isFree preds n D v
  npD : ∀ v ∈ D, g.np v = -2
  npW : ∀ v ∈ W, g.np v = -1
  npo : ∀ v, v < n → v ∉ D → v ∉ W → g.np v = ((preds v).filter (fun p => decide (p ∉ D))).length
theorem filt_one {l : List Nat} {p : Nat} (h : l.Nodup) : l.filter (· == p) = if p ∈ l then [p] else [] := by
  induction l with
  | nil => rfl
  | cons a l ih =>
    obtain ⟨h1, h2⟩ := List.nodup_cons.mp h
    rw [List.filter_cons, ih h2]
    by_cases e : a = p
    · subst e
      simp [h1]
    · have : (a == p) = false := by simpa using e
      rw [this]
      simp [Ne.symm e]
theorem mem_sucs {preds : Nat → List Nat} {n p k : Nat} : k ∈ sucs preds n p ↔ k < n ∧ p ∈ preds k := by
  unfold sucs
  rw [List.mem_flatMap]
  constructor
  · rintro ⟨j, hj, h⟩
    obtain ⟨q, hq, rfl⟩ := List.mem_map.mp h
    rw [List.mem_filter] at hq
    obtain ⟨h1, h2⟩ := hq
    rw [beq_iff_eq] at h2
    exact ⟨List.mem_range.mp hj, h2 ▸ h1⟩
  · rintro ⟨h1, h2⟩
    exact ⟨k, List.mem_range.mpr h1, List.mem_map.mpr ⟨p, List.mem_filter.mpr ⟨h2, by simp⟩, rfl⟩⟩
theorem sucs_nodup {preds : Nat → List Nat} (a : Acy preds) {p : Nat} : ∀ n, (sucs preds n p).Nodup
  | 0 => .nil
  | n + 1 => by
    rw [sucs_succ, filt_one (a.nd n)]
    refine List.nodup_append.mpr ⟨sucs_nodup a n, by split <;> simp, fun x hx y hy => ?_⟩
    have := (mem_sucs.mp hx).1
    obtain ⟨_, _, rfl⟩ := List.mem_map.mp hy
    lia
theorem decs_spec {r : Nat} : ∀ (is : List Nat) (g : G) (R : List Nat), is.Nodup → g.rl = some (r, R) →
    (∀ k, (is.foldl G.dec g).np k = if k ∈ is then g.np k - 1 else g.np k) ∧ (is.foldl G.dec g).rl = some (r, R ++ is.filter fun k => decide (g.np k - 1 = 0)) ∧ (is.foldl G.dec g).po = g.po ∧ (is.foldl G.dec g).fi = g.fi
  | [], g, R, _, h => ⟨fun k => by simp, by simpa using h, rfl, rfl⟩
  | i :: is, g, R, hn, h => by
    obtain ⟨h1, h2⟩ := List.nodup_cons.mp hn
    have e1 : ∀ k, (g.dec i).np k = if k = i then g.np i - 1 else g.np k := fun k => by
      unfold G.dec; rw [h]; dsimp only
      split <;> rfl
    have e2 : (g.dec i).rl = some (r, R ++ if g.np i - 1 = 0 then [i] else []) := by
      unfold G.dec; rw [h]; dsimp only
      split
      · rfl
      · rw [List.append_nil]; exact h
    obtain ⟨f1, f2, f3, f4⟩ := decs_spec is (g.dec i) _ h2 e2
    obtain ⟨p1, p2⟩ := dec_po g i
    refine ⟨fun k => ?_, ?_, f3.trans p1, f4.trans p2⟩
    · rw [List.foldl_cons, f1 k, e1 k]
      by_cases e : k = i
      · subst e; simp [h1]
      · simp [e]
    · rw [List.foldl_cons, f2, List.append_assoc]
      congr 2
      rw [List.filter_cons]
      have : is.filter (fun k => decide ((g.dec i).np k - 1 = 0)) = is.filter (fun k => decide (g.np k - 1 = 0)) := List.filter_congr fun k hk => by
        have hne : k ≠ i := fun q => h1 (q ▸ hk)
        rw [e1 k, if_neg hne]
      rw [this]
      by_cases e : g.np i - 1 = 0 <;> simp [e]
section
variable {preds : Nat → List Nat} {n r : Nat} {D W R : List Nat} {g : G}
theorem outs_np : ∀ (l : List Nat) (g : G) (k : Nat), (g.out l).np k = if k ∈ l then -1 else g.np k
  | [], g, k => by simp [G.out]
  | i :: l, g, k => by
    show ((g.out1 i).out l).np k = _
    rw [outs_np l, show (g.out1 i).np k = if k = i then -1 else g.np k from rfl]
    by_cases e : k = i <;> simp [e]
theorem OkG.got (h : OkG preds n D W r R g) : OkG preds n D (W ++ R) r [] (g.got r R) := by
  obtain ⟨q1, q2, q3, sm⟩ := out_same (g := g) R g
  have hn := h.nd
  rw [List.append_assoc] at hn
  have hnd := List.nodup_append.mp hn
  exact {
    gn := sm.n.trans h.gn
    su := fun p hp => (congrFun sm.su p).trans (h.su p hp)
    rl := rfl
    po := by
      show g.po + R.length = _
      rw [h.po, List.length_append]; lia
    fi := h.fi
    nd := by rw [List.append_nil]; exact hn
    lt := h.lt
    down := h.down
    mem := fun v => by
      rw [← h.mem v, List.mem_append]; simp
    npD := fun v hv => by
      show (g.out R).np v = -2
      rw [outs_np, if_neg (fun q => hnd.2.2 v hv v (List.mem_append_right _ q) rfl)]
      exact h.npD v hv
    npW := fun v hv => by
      show (g.out R).np v = -1
      rw [outs_np]
      rcases List.mem_append.mp hv with hv | hv
      · split
        · rfl
        · exact h.npW v hv
      · rw [if_pos hv]
    npo := fun v h1 h2 h3 => by
      show (g.out R).np v = _
      rw [outs_np, if_neg (fun q => h3 (List.mem_append_right _ q))]
      exact h.npo v h1 h2 fun q => h3 (List.mem_append_left _ q) }
theorem count_less {l D : List Nat} {v : Nat} (hl : l.Nodup) (hv : v ∉ D) : (l.filter (fun p => decide (p ∉ D))).length = (l.filter (fun p => decide (p ∉ D ++ [v]))).length + if v ∈ l then 1 else 0 := by
  induction l with
  | nil => rfl
  | cons a l ih =>
    obtain ⟨h1, h2⟩ := List.nodup_cons.mp hl
    have := ih h2
    rw [List.filter_cons, List.filter_cons]
    by_cases e : a = v
    · subst e
      simp only [hv, h1, not_false_eq_true, decide_true, if_true, List.length_cons, List.mem_append, List.mem_singleton, or_true, not_true_eq_false, decide_false, List.mem_cons, true_or] at this ⊢
      simp at this ⊢
      lia
    · have e2 : (a ∉ D ++ [v]) ↔ a ∉ D := by simp [e]
      have e3 : (v ∈ a :: l) ↔ v ∈ l := by simp [Ne.symm e]
      simp only [e2, e3]
      by_cases e4 : a ∈ D <;> simp [e4] at this ⊢ <;> lia
theorem OkG.done1 (a : Acy preds) (h : OkG preds n D W r R g) {v : Nat} (hv : v ∈ W) : ∃ R', OkG preds n (D ++ [v]) (W.filter (· != v)) r R' (g.done1 v) := by
  have fv := (h.mem v).mp (.inl hv)
  obtain ⟨hvn, hvD, hvp⟩ := fv
  have hnd := List.nodup_append.mp (List.append_assoc D W R ▸ h.nd : (D ++ (W ++ R)).Nodup)
  have hwr := List.nodup_append.mp hnd.2.1
  have hsu := h.su v hvn
  have hsn : (g.su v).Nodup := hsu ▸ sucs_nodup a n
  obtain ⟨e1, e2, e3, e4⟩ := decs_spec (r := r) (g.su v) (g.setNp v (-2)) R hsn h.rl
  have sm := done1_same g v
  have hms : ∀ k, k ∈ g.su v ↔ k < n ∧ v ∈ preds k := fun k => by rw [hsu]; exact mem_sucs
  have hvs : v ∉ g.su v := fun q => by
    have := a.lt v v ((hms v).mp q).2
    lia
  have hk0 : ∀ k, k ∈ g.su v → k ∉ D ∧ k ∉ W ∧ k ∉ R := fun k hk => by
    obtain ⟨q1, q2⟩ := (hms k).mp hk
    refine ⟨fun q => hvD (h.down k q v q2), fun q => ?_, fun q => ?_⟩
    · exact hvD (((h.mem k).mp (.inl q)).2.2 v q2)
    · exact hvD (((h.mem k).mp (.inr q)).2.2 v q2)
  have hnp : ∀ k, (g.done1 v).np k = if k = v then -2 else if k ∈ g.su v then g.np k - 1 else g.np k := fun k => by
    show ((g.su v).foldl G.dec (g.setNp v (-2))).np k = _
    rw [e1 k]
    show (if k ∈ g.su v then (if k = v then -2 else g.np k) - 1 else (if k = v then -2 else g.np k)) = _
    by_cases q : k = v
    · subst q; rw [if_neg hvs, if_pos rfl, if_pos rfl]
    · rw [if_neg q, if_neg q]
  have hcount : ∀ k, k < n → k ∉ D → k ∉ W → (((preds k).filter (fun p => decide (p ∉ D ++ [v]))).length : Int) = if k ∈ g.su v then g.np k - 1 else g.np k := fun k q1 q2 q3 => by
    have := count_less (a.nd k) hvD
    rw [h.npo k q1 q2 q3]
    by_cases q : v ∈ preds k
    · rw [if_pos q] at this; rw [if_pos ((hms k).mpr ⟨q1, q⟩)]; lia
    · rw [if_neg q] at this; rw [if_neg fun c => q ((hms k).mp c).2]; lia
  have hzero : ∀ k, ((((preds k).filter (fun p => decide (p ∉ D ++ [v]))).length : Int) = 0) ↔ ∀ p ∈ preds k, p ∈ D ++ [v] := fun k => by
    rw [show ((0 : Int) = ((0 : Nat) : Int)) from rfl, Int.ofNat_inj, List.length_eq_zero_iff, List.filter_eq_nil_iff]
    exact forall_congr' fun p => forall_congr' fun _ => by simp only [decide_eq_true_eq, Classical.not_not]
  refine ⟨R ++ (g.su v).filter fun k => decide ((g.setNp v (-2)).np k - 1 = 0), ?_⟩
  have hnew : ∀ k, k ∈ (g.su v).filter (fun k => decide ((g.setNp v (-2)).np k - 1 = 0)) ↔ k ∈ g.su v ∧ ∀ p ∈ preds k, p ∈ D ++ [v] := fun k => by
    rw [List.mem_filter, decide_eq_true_eq]
    refine and_congr_right fun hk => ?_
    obtain ⟨k1, k2, k3⟩ := hk0 k hk
    rw [← hzero k, hcount k ((hms k).mp hk).1 k1 k2, if_pos hk]
    show (if k = v then -2 else g.np k) - 1 = 0 ↔ _
    have hne : k ≠ v := fun q => hvs (q ▸ hk)
    rw [if_neg hne]
  exact {
    gn := sm.n.trans h.gn
    su := fun p hp => (congrFun sm.su p).trans (h.su p hp)
    rl := e2
    po := by
      show ((g.su v).foldl G.dec (g.setNp v (-2))).po = _
      rw [e3]
      show g.po = _
      rw [h.po]
      have : (W.filter (· != v)).length + 1 = W.length := by
        have h1 := List.length_eq_countP_add_countP (· != v) (l := W)
        rw [List.countP_eq_length_filter, List.countP_eq_length_filter] at h1
        have h2 : W.filter (fun x => decide ¬(x != v) = true) = W.filter (· == v) := List.filter_congr fun x _ => by by_cases e : x = v <;> simp [e]
        rw [h2, filt_one hwr.1, if_pos hv] at h1
        simp at h1
        lia
      rw [List.length_append]
      simp
      lia
    fi := by
      show ((g.su v).foldl G.dec (g.setNp v (-2))).fi + 1 = _
      rw [e4]
      show g.fi + 1 = _
      rw [h.fi, List.length_append]; rfl
    nd := by
      rw [List.append_assoc, List.append_assoc]
      refine List.nodup_append.mpr ⟨hnd.1, ?_, ?_⟩
      · refine List.nodup_append.mpr ⟨by simp, ?_, ?_⟩
        · refine List.nodup_append.mpr ⟨List.Pairwise.filter _ hwr.1, ?_, ?_⟩
          · refine List.nodup_append.mpr ⟨hwr.2.1, List.Pairwise.filter _ hsn, fun x hx y hy q => ?_⟩
            subst q
            exact (hk0 x (List.mem_filter.mp hy).1).2.2 hx
          · intro x hx y hy q
            subst q
            have hx' := (List.mem_filter.mp hx).1
            rcases List.mem_append.mp hy with hy | hy
            · exact hwr.2.2 x hx' x hy rfl
            · exact (hk0 x (List.mem_filter.mp hy).1).2.1 hx'
        · intro x hx y hy q
          subst q
          rcases List.mem_singleton.mp hx with rfl
          rcases List.mem_append.mp hy with hy | hy
          · have := (List.mem_filter.mp hy).2; simp at this
          · rcases List.mem_append.mp hy with hy | hy
            · exact hwr.2.2 x hv x hy rfl
            · exact hvs (List.mem_filter.mp hy).1
      · intro x hx y hy q
        subst q
        rcases List.mem_append.mp hy with hy | hy
        · rcases List.mem_singleton.mp hy with rfl; exact hvD hx
        · rcases List.mem_append.mp hy with hy | hy
          · exact hnd.2.2 x hx x (List.mem_append_left _ (List.mem_filter.mp hy).1) rfl
          · rcases List.mem_append.mp hy with hy | hy
            · exact hnd.2.2 x hx x (List.mem_append_right _ hy) rfl
            · exact (hk0 x (List.mem_filter.mp hy).1).1 hx
    lt := fun x hx => by
      rcases List.mem_append.mp hx with hx | hx
      · exact h.lt x hx
      · rcases List.mem_singleton.mp hx with rfl; exact hvn
    down := fun x hx p hp => by
      rcases List.mem_append.mp hx with hx | hx
      · exact List.mem_append_left _ (h.down x hx p hp)
      · rcases List.mem_singleton.mp hx with rfl
        exact List.mem_append_left _ (hvp p hp)
    mem := fun k => by
      rw [List.mem_append, hnew k]
      unfold isFree
      constructor
      · rintro (hk | hk | ⟨hk, hk2⟩)
        · obtain ⟨k1, k2⟩ := List.mem_filter.mp hk
          obtain ⟨j1, j2, j3⟩ := (h.mem k).mp (.inl k1)
          exact ⟨j1, by simp at k2 ⊢; exact ⟨j2, k2⟩, fun p hp => List.mem_append_left _ (j3 p hp)⟩
        · obtain ⟨j1, j2, j3⟩ := (h.mem k).mp (.inr hk)
          refine ⟨j1, ?_, fun p hp => List.mem_append_left _ (j3 p hp)⟩
          have : k ≠ v := fun q => hwr.2.2 v hv k hk q.symm
          simp; exact ⟨j2, this⟩
        · refine ⟨((hms k).mp hk).1, ?_, hk2⟩
          have : k ≠ v := fun q => hvs (q ▸ hk)
          simp; exact ⟨(hk0 k hk).1, this⟩
      · rintro ⟨j1, j2, j3⟩
        have j4 : k ∉ D ∧ k ≠ v := by simpa using j2
        by_cases q : v ∈ preds k
        · exact .inr (.inr ⟨(hms k).mpr ⟨j1, q⟩, j3⟩)
        · have : isFree preds n D k := ⟨j1, j4.1, fun p hp => by
            rcases List.mem_append.mp (j3 p hp) with c | c
            · exact c
            · rcases List.mem_singleton.mp c with rfl; exact absurd hp q⟩
          rcases (h.mem k).mpr this with c | c
          · exact .inl (List.mem_filter.mpr ⟨c, by simp [j4.2]⟩)
          · exact .inr (.inl c)
    npD := fun k hk => by
      rw [hnp k]
      rcases List.mem_append.mp hk with hk | hk
      · have hne : k ≠ v := fun q => hvD (q ▸ hk)
        rw [if_neg hne, if_neg (fun q => (hk0 k q).1 hk)]
        exact h.npD k hk
      · rcases List.mem_singleton.mp hk with rfl; rw [if_pos rfl]
    npW := fun k hk => by
      obtain ⟨k1, k2⟩ := List.mem_filter.mp hk
      rw [hnp k, if_neg (by simpa using k2), if_neg (fun q => (hk0 k q).2.1 k1)]
      exact h.npW k k1
    npo := fun k k1 k2 k3 => by
      have j4 : k ∉ D ∧ k ≠ v := by simpa using k2
      have j5 : k ∉ W := fun q => k3 (List.mem_filter.mpr ⟨q, by simp [j4.2]⟩)
      rw [hnp k, if_neg j4.2, hcount k k1 j4.1 j5] }
theorem OkG.dones (a : Acy preds) : ∀ (vs : List Nat) {D W R : List Nat} {g : G}, OkG preds n D W r R g → vs.Nodup → (∀ v ∈ vs, v ∈ W) → ∃ R', OkG preds n (D ++ vs) (W.filter fun x => !vs.contains x) r R' (vs.foldl G.done1 g)
  | [], D, W, R, g, h, _, _ => ⟨R, by
    have : W.filter (fun x => !([] : List Nat).contains x) = W := List.filter_eq_self.mpr fun x _ => rfl
    rw [this, List.append_nil]; exact h⟩
  | v :: vs, D, W, R, g, h, hn, hw => by
    obtain ⟨h1, h2⟩ := List.nodup_cons.mp hn
    obtain ⟨R1, k1⟩ := h.done1 a (hw v (.head _))
    obtain ⟨R2, k2⟩ := OkG.dones a vs k1 h2 fun u hu => List.mem_filter.mpr ⟨hw u (.tail _ hu), by
      have hne : u ≠ v := fun q => h1 (q ▸ hu)
      simpa using hne⟩
    refine ⟨R2, ?_⟩
    rw [List.append_assoc] at k2
    have : (W.filter (· != v)).filter (fun x => !vs.contains x) = W.filter fun x => !(v :: vs).contains x := by
      rw [List.filter_filter]
      refine List.filter_congr fun x _ => ?_
      rw [List.contains_cons]
      cases e : x == v <;> simp [e, bne]
    rw [this] at k2
    exact k2
theorem free_some (a : Acy preds) {v : Nat} (hv : v < n) (hD : v ∉ D) : ∃ u, isFree preds n D u := by
  induction v using Nat.strongRecOn with
  | ind v ih =>
    by_cases h : ∀ p ∈ preds v, p ∈ D
    · exact ⟨v, hv, hD, h⟩
    · obtain ⟨p, hp⟩ := Classical.not_forall.mp h
      obtain ⟨h1, h2⟩ := Classical.not_imp.mp hp
      have := a.lt v p h1
      exact ih p this (by lia) h2
end

section
variable {preds : Nat → List Nat} {n : Nat}
theorem edg_bound {su : Nat → List Nat} (h : ∀ p, p < n → (su p).length ≤ n) (hn : n < 16) : edg su [] (List.range n) < 900 := by
  have : ∀ (l : List Nat), (∀ p ∈ l, p < n) → edg su [] l ≤ l.length * n := by
    intro l
    induction l with
    | nil => intro _; exact Nat.zero_le _
    | cons p l ih =>
      intro hl
      have h1 := ih fun q hq => hl q (.tail _ hq)
      have h2 := h p (hl p (.head _))
      unfold edg at h1 ⊢
      rw [List.map_cons, List.sum_cons, if_neg (by simp), List.length_cons, Nat.add_mul]
      lia
  have h1 := this (List.range n) fun p hp => List.mem_range.mp hp
  rw [List.length_range] at h1
  have : n * n ≤ 15 * 15 := Nat.mul_le_mul (by lia) (by lia)
  lia
theorem sucs_le (a : Acy preds) {p : Nat} : (sucs preds n p).length ≤ n := by
  have := List.Nodup.length_le_of_subset (sucs_nodup a (p := p) n) (l₂ := List.range n) fun k hk => List.mem_range.mpr (mem_sucs.mp hk).1
  rwa [List.length_range] at this
theorem OkG.start {g : G} {so r : Nat} (a : Acy preds) (h : Ini preds so n g) : OkG preds n [] [] r (ready0 g) (g.setR r (ready0 g)) where
  gn := h.n
  su := h.su
  rl := rfl
  po := h.po
  fi := h.fi
  nd := by
    show (ready0 g).Nodup
    exact List.Pairwise.filter _ List.nodup_range
  lt := fun v hv => nomatch hv
  down := fun v hv => nomatch hv
  mem := fun v => by
    unfold ready0 isFree
    rw [List.mem_filter, List.mem_range, h.n]
    constructor
    · rintro (h1 | ⟨h1, h2⟩)
      · cases h1
      · rw [h.np v h1] at h2
        have h3 : preds v = [] := by
          have h4 : ((preds v).length : Int) = 0 := by simpa using h2
          exact List.length_eq_zero_iff.mp (by lia)
        exact ⟨h1, by simp, fun p hp => by rw [h3] at hp; cases hp⟩
    · rintro ⟨h1, _, h2⟩
      refine .inr ⟨h1, ?_⟩
      rw [h.np v h1]
      have : preds v = [] := List.eq_nil_iff_forall_not_mem.mpr fun p hp => by have := h2 p hp; cases this
      rw [this]; rfl
  npD := fun v hv => nomatch hv
  npW := fun v hv => nomatch hv
  npo := fun v h1 _ _ => by
    show g.np v = _
    rw [h.np v h1]
    have : (preds v).filter (fun p => decide (p ∉ ([] : List Nat))) = preds v := List.filter_eq_self.mpr fun p _ => by simp
    rw [this]
theorem natsV_eq {l : List Nat} : natsV l = (l.map fun (i : Nat) => (i : Int)).map AV.int := by unfold natsV; rw [List.map_map]; rfl
theorem natsV_app {l l' : List Nat} : natsV (l ++ l') = natsV l ++ natsV l' := by unfold natsV; rw [List.map_append]
theorem asInts_nats {l : List Nat} : asInts (natsV l) = some (l.map fun (i : Nat) => (i : Int)) := by rw [natsV_eq, asInts_map]
theorem OkG.lens {D W R : List Nat} {r : Nat} {g : G} (h : OkG preds n D W r R g) : D.length + W.length + R.length ≤ n := by
  have := List.Nodup.length_le_of_subset h.nd (l₂ := List.range n) fun k hk => by
    rw [List.mem_range]
    rcases List.mem_append.mp hk with hk | hk
    · rcases List.mem_append.mp hk with hk | hk
      · exact h.lt k hk
      · exact ((h.mem k).mp (.inl hk)).1
    · exact ((h.mem k).mp (.inr hk)).1
  rwa [List.length_append, List.length_append, List.length_range] at this
noncomputable def leftL (n : Nat) (D : List Nat) : List Nat := (List.range n).filter fun i => !decide (i ∈ D)
noncomputable def freeL (preds : Nat → List Nat) (n : Nat) (D : List Nat) : List Nat := (leftL n D).filter fun i => ((preds i).filter fun p => decide (p ∈ leftL n D)).isEmpty
theorem mem_leftL {D : List Nat} {v : Nat} : v ∈ leftL n D ↔ v < n ∧ v ∉ D := by unfold leftL; simp
theorem mem_freeL (a : Acy preds) {D : List Nat} {v : Nat} : v ∈ freeL preds n D ↔ isFree preds n D v := by
  unfold freeL isFree
  rw [List.mem_filter, mem_leftL, List.isEmpty_iff, List.filter_eq_nil_iff, and_assoc]
  refine and_congr_right fun h1 => and_congr_right fun h2 => forall_congr' fun p => forall_congr' fun hp => ?_
  rw [decide_eq_true_eq, mem_leftL]
  have := a.lt v p hp
  constructor
  · intro q; exact Classical.byContradiction fun q2 => q ⟨by lia, q2⟩
  · intro q q2; exact q2.2 q
theorem free_sorted {D : List Nat} : (freeL preds n D).Pairwise (· < ·) := List.Pairwise.filter _ (List.Pairwise.filter _ List.pairwise_lt_range)
theorem OkG.sorted (a : Acy preds) {D W : List Nat} {r : Nat} {g : G} (h : OkG preds n D W r [] g) : sortI (W.map fun (i : Nat) => (i : Int)) = (freeL preds n D).map fun (i : Nat) => (i : Int) := by
  refine sortI_eq (List.Perm.map _ ?_) (List.pairwise_map.mpr (free_sorted.imp fun h => by lia))
  have hn := List.nodup_append.mp (List.append_nil (D ++ W) ▸ h.nd : (D ++ W).Nodup)
  refine (List.perm_ext_iff_of_nodup hn.2.1 (free_sorted.imp fun h q => by lia)).mpr fun v => ?_
  rw [mem_freeL a, ← h.mem v]
  simp
theorem OkG.len_free (a : Acy preds) {D W : List Nat} {r : Nat} {g : G} (h : OkG preds n D W r [] g) : (freeL preds n D).length = W.length := by
  have := congrArg List.length (h.sorted a)
  rw [(sortI_perm _).length_eq, List.length_map, List.length_map] at this
  exact this.symm
theorem OkG.full (a : Acy preds) {D : List Nat} {r : Nat} {g : G} (h : OkG preds n D [] r [] g) : (∀ v, v ∈ D ↔ v < n) ∧ D.length = n := by
  have h1 : ∀ v, v ∈ D ↔ v < n := fun v => ⟨h.lt v, fun hv => Classical.byContradiction fun q => by
    obtain ⟨u, hu⟩ := free_some a hv q
    rcases (h.mem u).mpr hu with c | c <;> cases c⟩
  refine ⟨h1, ?_⟩
  have hn : D.Nodup := by
    have := h.nd
    rw [List.append_nil, List.append_nil] at this
    exact this
  have := ((List.perm_ext_iff_of_nodup hn List.nodup_range).mpr fun v => (h1 v).trans List.mem_range.symm).length_eq
  rwa [List.length_range] at this
theorem pv_itemZ {sc : Scope} {bs : Bs} {σ : Store} {i : Nat} {j : Int} {l : List Nat} (h : σ[i]? = some (.list (natsV l))) (h0 : 0 ≤ j) (h1 : j.toNat < l.length) (hl : l.length < 1000) : Pv (getItemV (.ref i) (.int j) : Mm PP n sc AV) bs σ (.int (l[j.toNat] : Nat)) := by
  refine pv_itemL h (by lia) ?_
  unfold place
  rw [if_pos h0, if_pos (by rw [natsV_len]; lia)]
  show (natsV l)[j.toNat]? = _
  unfold natsV
  rw [List.getElem?_map, List.getElem?_eq_getElem h1]; rfl
theorem rep_ne {m : Nat} {l : List Nat} (h : 1 ≤ m) : AO.list (List.replicate m .none) ≠ .list (natsV l) := fun q => by
  injection q with q
  cases m with
  | zero => cases h
  | succ m =>
    cases l with
    | nil => cases q
    | cons a l => cases q
theorem ord_app {D vs : List Nat} (h : ∀ pre v post, D = pre ++ v :: post → ∀ p ∈ preds v, p ∈ pre) (hv : ∀ v ∈ vs, ∀ p ∈ preds v, p ∈ D) : ∀ pre v post, D ++ vs = pre ++ v :: post → ∀ p ∈ preds v, p ∈ pre := by
  intro pre v post e p hp
  rcases List.append_eq_append_iff.mp e with ⟨l, h1, h2⟩ | ⟨l, h1, h2⟩
  · have hm : v ∈ vs := by rw [h2]; simp
    rw [h1]; exact List.mem_append_left _ (hv v hm p hp)
  · cases l with
    | nil =>
      rw [List.nil_append] at h2
      have hm : v ∈ vs := by rw [← h2]; simp
      rw [List.append_nil] at h1
      rw [← h1]; exact hv v hm p hp
    | cons b l =>
      rw [List.cons_append] at h2
      injection h2 with h3 h4
      subst h3
      exact h pre v l h1 p hp
structure Lin (preds : Nat → List Nat) (n : Nat) (D : List Nat) : Prop where
  nd : D.Nodup
  mem : ∀ v, v ∈ D ↔ v < n
  ord : ∀ pre v post, D = pre ++ v :: post → ∀ p ∈ preds v, p ∈ pre
structure TS where
  g : G
  D : List Nat
  W : List Nat
  R : List Nat
  wa : Nat
  oa : Nat
  aa : Nat
  m : Nat
structure TurnO (preds : Nat → List Nat) (n r so : Nat) (σ₀ : Store) (t : Nat) (c : TS) (σ : Store) : Prop where
  s : Srt σ₀.length c.g σ
  e : Ext σ₀ σ
  ok : OkG preds n c.D c.W r c.R c.g
  so : c.g.so = so
  w : σ[c.wa]? = some (.list (natsV c.W))
  wf : ¬ Foot c.g c.wa
  o : σ[c.oa]? = some (.list (natsV c.D))
  of : ¬ Foot c.g c.oa
  a : σ[c.aa]? = some (.list (List.replicate c.m .none))
  af : ¬ Foot c.g c.aa
  al : σ₀.length ≤ c.aa
  m : 1 ≤ c.m ∧ c.m ≤ t + 1
  t : t ≤ c.D.length
  ord : ∀ pre v post, c.D = pre ++ v :: post → ∀ p ∈ preds v, p ∈ pre
theorem hxb_gen {P : Prog} {n : Nat} {sc : Scope} {target : Expr} {x : Item} {b : List Stmt} {bs : Bs} {σ : Store} {γ : Type} {B : γ → Bs} {S : γ → Store → Prop} (h : ∀ Q' : Fl → Bs → Store → Prop, (∀ c bs' σ', Sub (B c) bs' → S c σ' → Q' .next bs' σ') → HxB P n sc target x b bs σ Q') :
    HxB P n sc target x b bs σ fun fl bs' σ' => (fl = .next ∨ fl = .cont) ∧ ∃ c, Sub (B c) bs' ∧ S c σ' := h _ fun c bs' σ' h1 h2 => ⟨.inl rfl, c, h1, h2⟩
theorem hxb_genP {P : Prog} {n : Nat} {sc : Scope} {target : Expr} {x : Item} {b : List Stmt} {bs : Bs} {σ : Store} {B : Bs} {S : Store → Prop} (h : ∀ Q' : Fl → Bs → Store → Prop, (∀ bs' σ', Sub B bs' → S σ' → Q' .next bs' σ') → HxB P n sc target x b bs σ Q') :
    HxB P n sc target x b bs σ fun fl bs' σ' => (fl = .next ∨ fl = .cont) ∧ Sub B bs' ∧ S σ' := h _ fun bs' σ' h1 h2 => ⟨.inl rfl, h1, h2⟩
set_option maxHeartbeats 0 in
theorem order_run {sc : Scope} {bs : Bs} {σ : Store} {k di : Nat} {pl : Nat → Nat} {fv : AV} {Q : AV → Bs → Store → Prop} (h : Needs di n pl preds σ) (a : Acy preds) (hn : n < 16) (hf : fv = .none ∨ ∃ f, fv = .int f)
    (hq : ∀ r D σ', Ext σ σ' → σ'[r]? = some (.list (natsV D)) → Lin preds n D → Q (.ref r) bs σ') : Hx (callA PP (k + 110) aOrder [.ref di, fv] : Mm PP (k + 110) sc AV) bs σ Q := by
  refine hx_up ?_
  refine hx_callE (bs₀ := [("needs", .ref di), ("figure", fv)]) (rest := []) rfl (by with_unfolding_all rfl) (by kernel_rfl) (by kernel_rfl) ?_
  have hd := h.d
  refine hx_cons ?_
  refine hs_assign (by kernel_rfl) (by kernel_rfl) ?_
  refine hx_call rfl ?_
  refine hx_pv (pv_glob (by kernel_rfl) (by with_unfolding_all rfl)) ?_
  refine hx_args1 rfl ?_
  refine hx_pv (pv_name (by kernel_rfl) (by with_unfolding_all rfl)) ?_
  refine hx_args0 ?_
  refine sorter_run h (by lia) fun g σ₁ s₁ e₁ i₁ => ?_
  refine seq_next (hx_cons ?_)
  refine hs_assign (by kernel_rfl) (by kernel_rfl) ?_
  with_reducible apply hx_list
  (with_reducible apply hx_evs1); · rfl
  (with_reducible apply hx_meth); (· exact ⟨by decide, by decide, rfl⟩); · rfl
  refine hx_pv (pv_name (by kernel_rfl) (by with_unfolding_all rfl)) ?_
  have up : ∀ p, p < g.n → ∀ s ∈ g.su p, p < s ∧ s < g.n := fun p hp s hs => by
    rw [i₁.su p (i₁.n ▸ hp)] at hs
    obtain ⟨h1, h2⟩ := mem_sucs.mp hs
    exact ⟨a.lt s p h2, by rw [i₁.n]; exact h1⟩
  have hso := s₁.so
  have hsd := s₁.d
  (with_reducible apply hx_findSo); (· with_reducible assumption); (· with_reducible assumption); (· rfl); · rfl
  refine hx_args0 ?_
  with_reducible apply hx_mcallF
  refine prepare_run s₁ i₁.rl up (by rw [i₁.n]; lia) (by rw [i₁.n]; exact edg_bound (fun p hp => by rw [i₁.su p hp]; exact sucs_le a) hn) e₁.len fun r σ₂ x₂ => ?_
  have ok := OkG.start (r := r) a i₁
  have hso2 : (g.setR r (ready0 g)).so = g.so := rfl
  have e₂ := x₂.t.ext s₁ (Nat.le_refl _) e₁
  generalize g.setR r (ready0 g) = g₂ at x₂ ok hso2
  have hd₂ := e₂.get hd
  with_reducible apply hx_evs0
  (with_reducible apply hx_newL); · decide
  refine seq_next (hx_cons ?_)
  refine hs_assign (by kernel_rfl) (by kernel_rfl) ?_
  with_reducible apply hx_list
  with_reducible apply hx_evs0
  (with_reducible apply hx_newL); · decide
  refine seq_next (hx_cons ?_)
  refine hs_assign (by kernel_rfl) (by kernel_rfl) ?_
  with_reducible apply hx_list
  with_reducible apply hx_evs0
  (with_reducible apply hx_newL); · decide
  refine seq_next (hx_cons ?_)
  (with_reducible apply hs_for); · kernel_rfl
  refine hx_call rfl ?_
  refine hx_pv (pv_glob (by kernel_rfl) (by with_unfolding_all rfl)) ?_
  refine hx_args1 rfl ?_
  (with_reducible apply hx_pv); · (with_reducible apply pv_call1); (· rfl); (· rfl); (· exact pv_glob (by kernel_rfl) (by with_unfolding_all rfl)); (· exact pv_name (by kernel_rfl) (by with_unfolding_all rfl)); · (with_reducible apply pv_lenD); (with_reducible apply st_old); (with_reducible apply st_old); (with_reducible apply st_old); with_reducible assumption
  refine hx_args0 (hx_callT ?_)
  rw [esOf_len]
  have hsm : small (n : Int) = true := by unfold small; rw [decide_eq_true_eq]; lia
  have hsm2 : (small 0 && small (n : Int) && small 1 && (1 : Int) != 0) = true := by rw [hsm]; decide
  (with_reducible apply hx_range1); · assumption
  (with_reducible apply runFor_range); (· with_reducible exact st_new); · assumption
  rw [rangeInts_nat, List.map_map]
  have T0 : TurnO preds n r g.so σ 0 ⟨g₂, [], [], ready0 g, (σ₂ ++ [AO.list [AV.none]]).length, (σ₂ ++ [AO.list [AV.none]] ++ [AO.list []]).length, σ₂.length, 1⟩ (σ₂ ++ [AO.list [AV.none]] ++ [AO.list []] ++ [AO.list []] ++ [AO.range 0 n 1]) := {
    s := x₂.s.app.app.app.app
    e := e₂.app.app.app.app
    ok := ok
    so := hso2
    w := st_old (st_old st_new)
    wf := x₂.s.fresh' (by show σ₂.length ≤ (σ₂ ++ [AO.list [AV.none]]).length; rw [List.length_append]; lia)
    o := st_old st_new
    of := x₂.s.fresh' (by show σ₂.length ≤ (σ₂ ++ [AO.list [AV.none]] ++ [AO.list []]).length; rw [List.length_append, List.length_append]; lia)
    a := st_old (st_old (st_old st_new))
    af := x₂.s.fresh
    al := e₂.len
    m := ⟨Nat.le_refl _, Nat.le_refl _⟩
    t := Nat.le_refl _
    ord := fun pre v post q => by cases pre <;> cases q }
  have hra : (σ₂ ++ [AO.list [AV.none]] ++ [AO.list []] ++ [AO.list []] ++ [AO.range 0 n 1])[(σ₂ ++ [AO.list [AV.none]] ++ [AO.list []] ++ [AO.list []]).length]? = some (.range 0 n 1) := st_new
  have hrf : ¬ Foot g₂ (σ₂ ++ [AO.list [AV.none]] ++ [AO.list []] ++ [AO.list []]).length := x₂.s.fresh' (by rw [List.length_append, List.length_append, List.length_append]; lia)
  generalize (σ₂ ++ [AO.list [AV.none]] ++ [AO.list []] ++ [AO.list []] ++ [AO.range 0 n 1]) = σ₃ at T0 hra
  generalize (σ₂ ++ [AO.list [AV.none]] ++ [AO.list []] ++ [AO.list []]).length = ra at hra hrf
  generalize (σ₂ ++ [AO.list [AV.none]] ++ [AO.list []]).length = oa at T0
  generalize (σ₂ ++ [AO.list [AV.none]]).length = wa at T0
  generalize g.so = so at T0 hso2
  refine hx_forG (γ := TS) (fun c => [("waiting", .ref c.wa), ("order", .ref c.oa), ("answers", .ref c.aa), ("sorter", .ref so), ("needs", .ref di), ("figure", fv)]) (fun c pre σ' => TurnO preds n r so σ pre.length c σ' ∧ σ'[ra]? = some (.range 0 n 1) ∧ ¬ Foot c.g ra) _
    (fun c pre σ' h => h.2.1) (fun c pre t post σ' hpre hT => ?_) ⟨T0, hra, hrf⟩ (by (refine Sub.cons (by with_unfolding_all rfl) ?_; refine Sub.cons (by with_unfolding_all rfl) ?_; refine Sub.cons (by with_unfolding_all rfl) ?_; refine Sub.cons (by with_unfolding_all rfl) ?_; refine Sub.cons (by with_unfolding_all rfl) ?_; refine Sub.cons (by with_unfolding_all rfl) ?_; with_reducible exact Sub.nil)) (fun c σ' bs' hT hb => ?_)
  · refine hxb_gen fun Q' hQ' => ?_
    obtain ⟨T, hra, hrf⟩ := hT
    obtain ⟨rfl, htn⟩ := range_split hpre
    clear hsd hso hd₂ T0 x₂ ok i₁ up s₁ e₁ e₂ hso2
    obtain rfl := T.so
    have k1 := T.s.so
    have k2 := T.s.d
    have hlens := T.ok.lens
    dsimp only [Function.comp]
    (with_reducible apply hx_bindN); · kernel_rfl
    refine hx_cons ?_
    refine hs_assign (by kernel_rfl) (by kernel_rfl) ?_
    (with_reducible apply hx_meth); (· exact ⟨by decide, by decide, rfl⟩); · rfl
    refine hx_pv (pv_name (by kernel_rfl) (by with_unfolding_all rfl)) ?_
    (with_reducible apply hx_findSo); (· with_reducible assumption); (· with_reducible assumption); (· rfl); · rfl
    refine hx_args0 ?_
    with_reducible apply hx_mcallF
    refine ready_run T.s T.ok.rl (fun i hi => ?_) (by lia) fun tu σ₄ x₄ ht hlt hft => ?_
    · rw [T.ok.gn]; exact ((T.ok.mem i).mp (.inr hi)).1
    have ok₄ := T.ok.got
    have hso4 : (c.g.got r c.R).so = c.g.so := (out_same (g := c.g) c.R c.g).2.2.2.so
    have hw := x₄.get T.wf T.w
    have ho := x₄.get T.of T.o
    have ha := x₄.get T.af T.a
    have hra₄ := x₄.get hrf hra
    have e₄ := x₄.t.ext T.s (Nat.le_refl _) T.e
    have hwf := x₄.t.nf T.wf (lt_of T.w)
    have hof := x₄.t.nf T.of (lt_of T.o)
    have haf := x₄.t.nf T.af (lt_of T.a)
    have hrf₄ := x₄.t.nf hrf (lt_of hra)
    have s₄ := x₄.s
    generalize c.g.got r c.R = g₄ at ok₄ hso4 hwf hof haf hrf₄ hft s₄
    clear x₄
    rw [← hso4] at hQ' ⊢
    have hd₄ := e₄.get hd
    have hDi := asInts_nats (l := c.D)
    refine seq_next (hx_cons ?_)
    refine hs_assign (by kernel_rfl) (by kernel_rfl) ?_
    with_reducible apply hx_bin
    refine hx_pv (pv_name (by kernel_rfl) (by with_unfolding_all rfl)) ?_
    refine hx_call rfl ?_
    refine hx_pv (pv_glob (by kernel_rfl) (by with_unfolding_all rfl)) ?_
    refine hx_args1 rfl ?_
    refine hx_pv (pv_name (by kernel_rfl) (by with_unfolding_all rfl)) ?_
    refine hx_args0 (hx_callT ?_)
    (with_reducible apply hx_listT); (· with_reducible assumption); · simp only [List.length_append, List.length_map, List.length_cons, List.length_nil, List.length_replicate, List.length_range, natsV_len]; lia
    (with_reducible apply hx_cat); (· (with_reducible apply st_old); with_reducible assumption); (· with_reducible exact st_new); · simp only [List.length_append, List.length_map, List.length_cons, List.length_nil, List.length_replicate, List.length_range, natsV_len]; lia
    refine seq_next (hx_cons ?_)
    (with_reducible apply assign_comp); (· kernel_rfl); · kernel_rfl
    refine hx_call rfl ?_
    refine hx_pv (pv_glob (by kernel_rfl) (by with_unfolding_all rfl)) ?_
    refine hx_args1 rfl ?_
    (with_reducible apply hx_pv); · (with_reducible apply pv_call1); (· rfl); (· rfl); (· exact pv_glob (by kernel_rfl) (by with_unfolding_all rfl)); (· exact pv_name (by kernel_rfl) (by with_unfolding_all rfl)); · (with_reducible apply pv_lenD); (with_reducible apply st_old); (with_reducible apply st_old); with_reducible assumption
    refine hx_args0 (hx_callT ?_)
    rw [esOf_len]
    (with_reducible apply hx_range1); · assumption
    (with_reducible apply runComp_range); (· with_reducible exact st_new); · assumption
    rw [range_items]
    refine hx_compN (ι := Nat) (fun i => .int i) (fun i => !decide (i ∈ c.D)) (fun i => .int i) (by kernel_rfl) (by with_unfolding_all rfl) st_new (fun i hi => ?_) (fun i hi _ => ?_) fun bs' => ?_
    · refine pv_tests1 ?_
      rw [← contains_nat]
      (with_reducible apply pv_tCmp); (· kernel_rfl); (· exact pv_name (by kernel_rfl) (by with_unfolding_all rfl)); (· exact pv_name (by kernel_rfl) (by with_unfolding_all rfl)); · (with_reducible apply pv_notinA); (· (with_reducible apply st_old); (with_reducible apply st_old); (with_reducible apply st_old); with_reducible assumption); · assumption
    · exact pv_name (by kernel_rfl) (by with_unfolding_all rfl)
    show NewC (natsV (leftL n c.D)) _ _ _
    have hleft : (leftL n c.D).length ≤ n := by
      have := List.length_filter_le (fun i => !decide (i ∈ c.D)) (List.range n)
      rwa [List.length_range] at this
    (with_reducible apply hx_newC); · simp only [List.length_append, List.length_map, List.length_cons, List.length_nil, List.length_replicate, List.length_range, natsV_len]; lia
    refine seq_next (hx_cons ?_)
    (with_reducible apply assign_comp); (· kernel_rfl); · kernel_rfl
    refine hx_pv (pv_name (by kernel_rfl) (by with_unfolding_all rfl)) ?_
    (with_reducible apply runComp_list); · with_reducible exact st_new
    rw [items_nats]
    obtain ⟨σ₅, hσ₅⟩ : ∃ σ₅, σ₅ = σ₄ ++ [AO.list (natsV c.R)] ++ [AO.list (natsV c.W ++ natsV c.R)] ++ [AO.range 0 n 1] ++ [AO.list (natsV (leftL n c.D))] := ⟨_, rfl⟩
    have e₅ : Ext σ₄ σ₅ := hσ₅ ▸ Ext.refl.app.app.app.app
    have hw₅ : σ₅[(σ₄ ++ [AO.list (natsV c.R)]).length]? = some (.list (natsV (c.W ++ c.R))) := by
      rw [hσ₅, natsV_app]; exact st_old (st_old st_new)
    have hl₅ : σ₅[(σ₄ ++ [AO.list (natsV c.R)] ++ [AO.list (natsV c.W ++ natsV c.R)] ++ [AO.range 0 n 1]).length]? = some (.list (natsV (leftL n c.D))) := hσ₅ ▸ st_new
    have hwf₅ : ¬ Foot g₄ (σ₄ ++ [AO.list (natsV c.R)]).length := s₄.fresh' (by rw [List.length_append]; lia)
    rw [← hσ₅]
    clear hσ₅
    generalize (σ₄ ++ [AO.list (natsV c.R)] ++ [AO.list (natsV c.W ++ natsV c.R)] ++ [AO.range 0 n 1]).length = l5 at hl₅ ⊢
    generalize (σ₄ ++ [AO.list (natsV c.R)]).length = w5 at hw₅ hwf₅ ⊢
    refine Hx.sub (bs' := [("left", .ref l5), ("needs", .ref di)]) ?_ (by (refine Sub.cons (by with_unfolding_all rfl) ?_; refine Sub.cons (by with_unfolding_all rfl) ?_; with_reducible exact Sub.nil))
    have hLi := asInts_nats (l := leftL n c.D)
    refine hx_compE (mk := fun (i : Nat) => Item.one (.int i)) (G := fun (i : Nat) => if ((preds i).filter fun p => decide (p ∈ leftL n c.D)).isEmpty = true then [AV.int i] else []) hl₅ (fun i hi σ₆ e₆ => ?_) fun bs' σ₆ e₆ => ?_
    · have hin := (mem_leftL.mp hi).1
      have hdg := dget_esOf (a := pl) hin
      have hd₆ := e₆.get (e₅.get hd₄)
      have hl₆ := e₆.get hl₅
      have hp₆ := e₆.get (e₅.get (e₄.get (h.l i hin)))
      have hpl := h.len i
      refine hx_cbindN (by kernel_rfl) ?_
      refine hx_cbody (hx_tests1 (hx_tNot (hx_tVal rfl ?_)))
      (with_reducible apply hx_comp); · kernel_rfl
      (with_reducible apply hx_pv); · (with_reducible apply pv_item); (· kernel_rfl); (· exact pv_name (by kernel_rfl) (by with_unfolding_all rfl)); (· exact pv_name (by kernel_rfl) (by with_unfolding_all rfl)); · (with_reducible apply pv_itemD); (· with_reducible assumption); · assumption
      (with_reducible apply runComp_list); · with_reducible assumption
      rw [items_nats]
      refine hx_compN (ι := Nat) (fun i => .int i) (fun p => decide (p ∈ leftL n c.D)) (fun i => .int i) (by kernel_rfl) (by with_unfolding_all rfl) hp₆ (fun p hp => ?_) (fun p hp _ => ?_) fun bs' => ?_
      · refine pv_tests1 ?_
        rw [← contains_nat]
        (with_reducible apply pv_tCmp); (· kernel_rfl); (· exact pv_name (by kernel_rfl) (by with_unfolding_all rfl)); (· exact pv_name (by kernel_rfl) (by with_unfolding_all rfl)); · (with_reducible apply pv_inA); (· with_reducible assumption); · assumption
      · exact pv_name (by kernel_rfl) (by with_unfolding_all rfl)
      refine hx_newC (by rw [List.length_map]; exact Nat.le_trans (List.length_filter_le ..) (by lia)) ?_
      refine ⟨_, truth_list st_new, ?_⟩
      rw [List.isEmpty_map, Bool.not_not]
      refine ⟨fun hc => hx_tests0 ⟨fun _ => ?_, fun q => (by cases q)⟩, fun hc => ⟨fun q => (by cases q), fun _ => ⟨by (refine Sub.cons (by with_unfolding_all rfl) ?_; refine Sub.cons (by with_unfolding_all rfl) ?_; with_reducible exact Sub.nil), e₆.app, by rw [if_neg (by rw [hc]; decide)]⟩⟩⟩
      exact hx_inner0 (hx_pv (by (exact pv_name (by kernel_rfl) (by with_unfolding_all rfl))) ⟨by (refine Sub.cons (by with_unfolding_all rfl) ?_; refine Sub.cons (by with_unfolding_all rfl) ?_; with_reducible exact Sub.nil), e₆.app, by rw [if_pos hc]⟩)
    rw [flatMap_if]
    show NewC (natsV (freeL preds n c.D)) _ _ _
    have hfree : (freeL preds n c.D).length ≤ n := Nat.le_trans (List.length_filter_le ..) hleft
    (with_reducible apply hx_newC); · simp only [List.length_append, List.length_map, List.length_cons, List.length_nil, List.length_replicate, List.length_range, natsV_len]; lia
    refine seq_next (hx_cons ?_)
    with_reducible apply hs_ifH
    with_reducible apply hx_tBool
    with_reducible apply hx_or
    with_reducible apply hx_tNot
    (with_reducible apply hx_tVal); · rfl
    refine hx_call rfl ?_
    refine hx_pv (pv_glob (by kernel_rfl) (by with_unfolding_all rfl)) ?_
    refine hx_args1 rfl ?_
    refine hx_pv (pv_name (by kernel_rfl) (by with_unfolding_all rfl)) ?_
    refine hx_args1 rfl ?_
    refine hx_pv (pv_glob (by kernel_rfl) (by with_unfolding_all rfl)) ?_
    refine hx_args0 ?_
    with_reducible apply hx_callB
    have e₇ : Ext σ₄ (σ₆ ++ [AO.list (natsV (freeL preds n c.D))]) := (e₅.trans e₆).app
    have hw₇ : (σ₆ ++ [AO.list (natsV (freeL preds n c.D))])[w5]? = some (.list (natsV (c.W ++ c.R))) := st_old (e₆.get hw₅)
    have hf₇ : (σ₆ ++ [AO.list (natsV (freeL preds n c.D))])[σ₆.length]? = some (.list (natsV (freeL preds n c.D))) := st_new
    generalize σ₆ ++ [AO.list (natsV (freeL preds n c.D))] = σ₇ at e₇ hw₇ hf₇ ⊢
    generalize σ₆.length = f7 at hf₇ ⊢
    clear e₆ e₅ hl₅ hw₅ hLi hw hra
    have ht₇ := e₇.get ht
    have s₇ := s₄.ext e₇
    refine hx_pv (pv_isT ht₇) ⟨_, rfl, fun q => (by cases q), fun _ => ?_⟩
    with_reducible apply hx_or
    (with_reducible apply hx_tCmp); · kernel_rfl
    refine hx_call rfl ?_
    refine hx_pv (pv_glob (by kernel_rfl) (by with_unfolding_all rfl)) ?_
    refine hx_args1 rfl ?_
    refine hx_pv (pv_name (by kernel_rfl) (by with_unfolding_all rfl)) ?_
    refine hx_args0 ?_
    with_reducible apply hx_callB
    have hlw : ((c.W ++ c.R).map fun (i : Nat) => (i : Int)).length < 64 := by rw [List.length_map, List.length_append]; lia
    refine hx_sorted hw₇ asInts_nats hlw (by rw [List.length_map, (sortI_perm _).length_eq]; lia) ?_
    rw [ok₄.sorted a, ← natsV_eq]
    refine hx_pv (pv_name (by kernel_rfl) (by with_unfolding_all rfl)) ?_
    refine hx_pv (pv_neL (r := true) (xs := (freeL preds n c.D).map fun (i : Nat) => (i : Int)) (ys := (freeL preds n c.D).map fun (i : Nat) => (i : Int)) (natsV_eq ▸ st_new) (natsV_eq ▸ st_old hf₇) (decide_eq_true rfl)) ⟨_, rfl, fun q => (by cases q), fun _ => ?_⟩
    have s₈ := s₇.app (t := [AO.list (natsV (freeL preds n c.D))])
    have e₈ := e₇.app (t := [AO.list (natsV (freeL preds n c.D))])
    have hw₈ := st_old (t := [AO.list (natsV (freeL preds n c.D))]) hw₇
    have hf₈ := st_old (t := [AO.list (natsV (freeL preds n c.D))]) hf₇
    generalize σ₇ ++ [AO.list (natsV (freeL preds n c.D))] = σ₈ at s₈ e₈ hw₈ hf₈ ⊢
    clear e₇ hw₇ hf₇ s₇ ht₇
    have k1 := s₈.so
    have k2 := s₈.d
    with_reducible apply hx_or
    (with_reducible apply hx_tCmp); · kernel_rfl
    (with_reducible apply hx_meth); (· exact ⟨by decide, by decide, rfl⟩); · rfl
    refine hx_pv (pv_name (by kernel_rfl) (by with_unfolding_all rfl)) ?_
    (with_reducible apply hx_findSo); (· with_reducible assumption); (· with_reducible assumption); (· rfl); · rfl
    refine hx_args0 ?_
    with_reducible apply hx_mcallF
    refine active_run s₈ ok₄.rl ?_
    rw [ok₄.po, ok₄.fi]
    have hlf := ok₄.len_free a
    (with_reducible apply hx_cmp); · kernel_rfl
    refine hx_pv (pv_name (by kernel_rfl) (by with_unfolding_all rfl)) ?_
    with_reducible apply hx_list
    with_reducible apply hx_evs0
    (with_reducible apply hx_newL); · decide
    refine hx_pv (pv_neL (xs := (freeL preds n c.D).map fun (i : Nat) => (i : Int)) (ys := []) (natsV_eq ▸ st_old hf₈) (st_new (o := .list (([] : List Int).map AV.int))) rfl) ?_
    have hb : (!((decide ((c.D.length : Int) < c.D.length + (c.W ++ c.R).length) || !([] : List Nat).isEmpty) == !decide ((freeL preds n c.D).map (fun (i : Nat) => (i : Int)) = []))) = false := by
      have hz : decide ((freeL preds n c.D).map (fun (i : Nat) => (i : Int)) = []) = decide ((c.W ++ c.R).length = 0) := decide_eq_decide.mpr (by rw [List.map_eq_nil_iff, ← List.length_eq_zero_iff, hlf])
      rw [hz, List.isEmpty_nil, Bool.not_true, Bool.or_false]
      generalize (c.W ++ c.R).length = z
      by_cases hz : z = 0
      · subst hz; simp
      · have : (c.D.length : Int) < c.D.length + z := by lia
        simp [hz, this]
    refine hx_pv (pv_isnot rfl) ⟨_, rfl, fun q => absurd (hb.symm.trans q) (by decide), fun _ => ?_⟩
    have s₉ := s₈.app (t := [AO.list []])
    have e₉ := e₈.app (t := [AO.list []])
    have hw₉ := st_old (t := [AO.list []]) hw₈
    have hf₉ := st_old (t := [AO.list []]) hf₈
    clear k1 k2
    have hra₉ := e₉.get hra₄
    have hWn : (c.W ++ c.R).Nodup := by
      have := ok₄.nd
      rw [List.append_nil] at this
      exact (List.nodup_append.mp this).2.1
    have hWl : (c.W ++ c.R).length ≤ n := by have := ok₄.lens; lia
    have hmT : (pre ++ [pre.length]).length = pre.length + 1 := by rw [List.length_append]; rfl
    with_reducible apply hx_allOr
    with_reducible apply br_false
    with_reducible apply hx_nil
    refine seq_next (hx_cons ?_)
    ((with_reducible apply hs_if); · (with_reducible apply pv_tVal); (· rfl); (· exact pv_name (by kernel_rfl) (by with_unfolding_all rfl)); · (with_reducible apply truth_list); with_reducible assumption) <;> first | (intro h; exact absurd h (by decide)) | refine imp_of (by decide) ?_ | skip
    · intro hc
      refine hx_cons ?_
      refine hs_assign (by kernel_rfl) (by kernel_rfl) ?_
      refine hx_pv (pv_name (by kernel_rfl) (by with_unfolding_all rfl)) ?_
      refine seq_next ?_
      generalize σ₈ ++ [AO.list []] = σ₉ at s₉ e₉ hw₉ hf₉ hra₉ ⊢
      clear s₈ e₈ hw₈ hf₈ hb hDi
      have hne : c.W ++ c.R ≠ [] := fun q => by rw [q] at hc; cases hc
      refine hx_cons ?_
      refine Hx.mono (Q := fun fl bs' σ' => fl = .next ∧ ∃ pk vs, Sub [("picked", .ref pk), ("waiting", .ref w5), ("order", .ref c.oa), ("answers", .ref c.aa), ("sorter", .ref g₄.so), ("needs", .ref di), ("figure", fv)] bs' ∧ σ'[pk]? = some (.list (natsV vs)) ∧ vs.Nodup ∧ (∀ v ∈ vs, v ∈ c.W ++ c.R) ∧ vs ≠ [] ∧ Ext σ₉ σ' ∧ ¬ Foot g₄ pk) ?_ ?_
      · rcases hf with rfl | ⟨f, rfl⟩
        · ((with_reducible apply hs_if); · (with_reducible apply pv_tCmp); (· kernel_rfl); (· exact pv_name (by kernel_rfl) (by with_unfolding_all rfl)); (· with_reducible exact pv_none); · (with_reducible apply pv_isnot); rfl) <;> first | (intro h; exact absurd h (by decide)) | refine imp_of (by decide) ?_ | skip
          with_reducible apply hx_nil
          exact ⟨rfl, w5, c.W ++ c.R, by (refine Sub.cons (by with_unfolding_all rfl) ?_; refine Sub.cons (by with_unfolding_all rfl) ?_; refine Sub.cons (by with_unfolding_all rfl) ?_; refine Sub.cons (by with_unfolding_all rfl) ?_; refine Sub.cons (by with_unfolding_all rfl) ?_; refine Sub.cons (by with_unfolding_all rfl) ?_; refine Sub.cons (by with_unfolding_all rfl) ?_; with_reducible exact Sub.nil), hw₉, hWn, fun v h => h, hne, Ext.refl, hwf₅⟩
        · have hl0 : 0 < (natsV (freeL preds n c.D)).length := by
            rw [natsV_len, hlf]
            exact List.length_pos_iff.mpr hne
          have hm : (0 : Int) < ((natsV (freeL preds n c.D)).length : Int) := by lia
          have hp2 : (0 : Int) < 2 ^ ((pre.length : Int)).toNat ∧ (2 : Int) ^ ((pre.length : Int)).toNat < 2 ^ 62 := by
            rw [Int.toNat_natCast]
            refine ⟨Int.pow_pos (by decide), ?_⟩
            have h1 : (2 : Nat) ^ pre.length < 2 ^ 62 := Nat.pow_lt_pow_right (by decide) (by lia)
            exact_mod_cast h1
          ((with_reducible apply hs_if); · (with_reducible apply pv_tCmp); (· kernel_rfl); (· exact pv_name (by kernel_rfl) (by with_unfolding_all rfl)); (· with_reducible exact pv_none); · (with_reducible apply pv_isnot); rfl) <;> first | (intro h; exact absurd h (by decide)) | refine imp_of (by decide) ?_ | skip
          refine hx_cons ?_
          refine hs_assign (by kernel_rfl) (by kernel_rfl) ?_
          with_reducible apply hx_list
          (with_reducible apply hx_evs1); · rfl
          have hi0 := Int.emod_nonneg (f / 2 ^ ((pre.length : Int)).toNat) (Int.ne_of_gt hm)
          have hi1 := Int.emod_lt_of_pos (f / 2 ^ ((pre.length : Int)).toNat) hm
          have hil : (f / 2 ^ ((pre.length : Int)).toNat % ((natsV (freeL preds n c.D)).length : Int)).toNat < (freeL preds n c.D).length := by
            generalize f / 2 ^ ((pre.length : Int)).toNat % ((natsV (freeL preds n c.D)).length : Int) = ix at hi0 hi1
            rw [natsV_len] at hi1
            lia
          refine hx_pv (pv_item (by kernel_rfl) (by (exact pv_name (by kernel_rfl) (by with_unfolding_all rfl))) (by ((with_reducible apply pv_bin); (· (with_reducible apply pv_bin); (· exact pv_name (by kernel_rfl) (by with_unfolding_all rfl)); (· (with_reducible apply pv_bin); (· with_reducible exact pv_int); (· exact pv_name (by kernel_rfl) (by with_unfolding_all rfl)); · (with_reducible apply pv_pow); lia); · (with_reducible apply pv_div); assumption); (· (with_reducible apply pv_call1); (· rfl); (· rfl); (· exact pv_glob (by kernel_rfl) (by with_unfolding_all rfl)); (· exact pv_name (by kernel_rfl) (by with_unfolding_all rfl)); · (with_reducible apply pv_lenL); with_reducible assumption); · (with_reducible apply pv_mod); assumption)) (pv_itemZ hf₉ hi0 hil (by lia))) ?_
          with_reducible apply hx_evs0
          (with_reducible apply hx_newL); · simp only [List.length_append, List.length_map, List.length_cons, List.length_nil, List.length_replicate, List.length_range, natsV_len]; lia
          refine seq_next ?_
          with_reducible apply hx_nil
          refine ⟨rfl, σ₉.length, [(freeL preds n c.D)[_]], by (refine Sub.cons (by with_unfolding_all rfl) ?_; refine Sub.cons (by with_unfolding_all rfl) ?_; refine Sub.cons (by with_unfolding_all rfl) ?_; refine Sub.cons (by with_unfolding_all rfl) ?_; refine Sub.cons (by with_unfolding_all rfl) ?_; refine Sub.cons (by with_unfolding_all rfl) ?_; refine Sub.cons (by with_unfolding_all rfl) ?_; with_reducible exact Sub.nil), st_new, by simp, fun v hv => ?_, by simp, Ext.refl.app, s₉.fresh⟩
          rcases List.mem_singleton.mp hv with rfl
          rcases (ok₄.mem _).mpr ((mem_freeL a).mp (List.getElem_mem hil)) with q | q
          · exact q
          · cases q
      · intro fl bs' σ' h
        obtain ⟨rfl, pk, vs, hb, hpk, hvn, hvs, hv0, e', hpf⟩ := h
        refine Hx.sub ?_ hb
        have e₉ := e₉.trans e'
        have s₉ := s₉.ext e'
        have k1 := s₉.so
        have k2 := s₉.d
        have ha₉ := e₉.get ha
        clear hb
        have hra₉ := e'.get hra₉
        refine hx_cons ?_
        (with_reducible apply hs_expr); · kernel_rfl
        (with_reducible apply hx_meth); (· exact ⟨by decide, by decide, rfl⟩); · rfl
        refine hx_pv (pv_name (by kernel_rfl) (by with_unfolding_all rfl)) ?_
        (with_reducible apply hx_findL); (· with_reducible assumption); · exact .inl ⟨rfl, rfl⟩
        refine hx_args1 rfl ?_
        (with_reducible apply hx_methS); · exact ⟨by decide, by decide, rfl⟩
        refine hx_pv (pv_name (by kernel_rfl) (by with_unfolding_all rfl)) ?_
        (with_reducible apply hx_findSo); (· with_reducible assumption); (· with_reducible assumption); (· rfl); · rfl
        with_reducible apply fn_and
        (with_reducible apply hx_argsS); (· exact pv_name (by kernel_rfl) (by with_unfolding_all rfl)); · with_reducible assumption
        refine hx_args0 ?_
        with_reducible apply hx_mcallF
        rw [List.append_nil]
        have hvl : vs.length ≤ n := Nat.le_trans (List.Nodup.length_le_of_subset hvn hvs) hWl
        refine done_run s₉ (by lia) (fun v hv i hi => ?_) (fun p v q hp => ?_) ⟨_, ok₄.rl⟩ fun σ₁₀ x => ?_
        · rw [ok₄.gn] at hv
          rw [ok₄.su v hv] at hi
          rw [ok₄.gn]; exact (mem_sucs.mp hi).1
        · rw [hp] at hvn
          obtain ⟨q1, q2, q3⟩ := List.nodup_append.mp hvn
          obtain ⟨R1, okp⟩ := OkG.dones a p ok₄ q1 fun u hu => hvs u (by rw [hp]; exact List.mem_append_left _ hu)
          have hvW := hvs v (by rw [hp]; simp)
          have hvlt := ((ok₄.mem v).mp (.inl hvW)).1
          have hvp : v ∉ p := fun c => q3 v c v (by simp) rfl
          refine ⟨by rw [ok₄.gn]; exact hvlt, okp.npW v (List.mem_filter.mpr ⟨hvW, by simpa using hvp⟩), R1, okp.rl, ?_⟩
          have h1 := okp.lens
          have h2 := sucs_le a (n := n) (p := v)
          rw [ok₄.su v hvlt]
          lia
        obtain ⟨R1, ok₅⟩ := OkG.dones a vs ok₄ hvn hvs
        have hso5 : (vs.foldl G.done1 g₄).so = g₄.so := (Sam.fold done1_same vs g₄).so
        generalize vs.foldl G.done1 g₄ = g₅ at x ok₅ hso5
        have ha₁₀ := x.get haf ha₉
        have hw₁₀ := x.get hwf₅ (e'.get hw₉)
        have ho₁₀ := x.get hof (e₉.get ho)
        have hp₁₀ := x.get hpf hpk
        have hra₁₀ := x.get hrf₄ hra₉
        have haf₁₀ := x.t.nf haf (lt_of ha₉)
        have hrf₁₀ := x.t.nf hrf₄ (lt_of hra₉)
        have e₁₀ := x.t.ext s₉ (Nat.le_refl _) (e₄.trans e₉)
        have s₁₀ := x.s
        have hmm := T.m
        have hn1 := ne_of ha₁₀ hra₁₀ (fun h => by cases h)
        have hn2 := ne_of ha₁₀ ho₁₀ (rep_ne hmm.1)
        have hn3 := ne_of ha₁₀ hw₁₀ (rep_ne hmm.1)
        have hn4 := ne_of ha₁₀ hp₁₀ (rep_ne hmm.1)
        have hr : List.replicate c.m AV.none ++ [AV.none] = List.replicate (c.m + 1) .none := (List.replicate_succ' ..).symm
        clear x
        refine hx_args0 ?_
        (with_reducible apply hx_mcallB); · kernel_rfl
        (with_reducible apply hx_mAppend); (· with_reducible assumption); · simp only [List.length_append, List.length_map, List.length_cons, List.length_nil, List.length_replicate, List.length_range, natsV_len]; lia
        with_reducible apply none_and
        refine seq_next (hx_cons ?_)
        refine hs_assign (by kernel_rfl) (by kernel_rfl) ?_
        with_reducible apply hx_bin
        refine hx_pv (pv_name (by kernel_rfl) (by with_unfolding_all rfl)) ?_
        refine hx_pv (pv_name (by kernel_rfl) (by with_unfolding_all rfl)) ?_
        (with_reducible apply hx_cat); (· (with_reducible apply st_set_ne); (· assumption); · with_reducible assumption); (· (with_reducible apply st_set_ne); (· assumption); · with_reducible assumption); · simp only [List.length_append, List.length_map, List.length_cons, List.length_nil, List.length_replicate, List.length_range, natsV_len]; lia
        refine seq_next (hx_cons ?_)
        (with_reducible apply assign_comp); (· kernel_rfl); · kernel_rfl
        refine hx_pv (pv_name (by kernel_rfl) (by with_unfolding_all rfl)) ?_
        (with_reducible apply runComp_list); · (with_reducible apply st_old); (with_reducible apply st_set_ne); (· assumption); · with_reducible assumption
        have hVi := asInts_nats (l := vs)
        rw [items_nats]
        refine hx_compN (ι := Nat) (fun i => .int i) (fun i => !decide (i ∈ vs)) (fun i => .int i) (by kernel_rfl) (by with_unfolding_all rfl) (by ((with_reducible apply st_old); (with_reducible apply st_set_ne); (· assumption); · with_reducible assumption)) (fun i hi => ?_) (fun i hi _ => ?_) fun bs' => ?_
        · refine pv_tests1 ?_
          rw [← contains_nat]
          (with_reducible apply pv_tCmp); (· kernel_rfl); (· exact pv_name (by kernel_rfl) (by with_unfolding_all rfl)); (· exact pv_name (by kernel_rfl) (by with_unfolding_all rfl)); · (with_reducible apply pv_notinA); (· (with_reducible apply st_old); (with_reducible apply st_set_ne); (· assumption); · with_reducible assumption); · assumption
        · exact pv_name (by kernel_rfl) (by with_unfolding_all rfl)
        show NewC (natsV ((c.W ++ c.R).filter fun i => !decide (i ∈ vs))) _ _ _
        have hfl : ((c.W ++ c.R).filter fun i => !decide (i ∈ vs)).length ≤ n := Nat.le_trans (List.length_filter_le ..) hWl
        have hfe : (c.W ++ c.R).filter (fun x => !vs.contains x) = (c.W ++ c.R).filter fun i => !decide (i ∈ vs) := List.filter_congr fun x _ => by simp
        rw [hfe] at ok₅
        (with_reducible apply hx_newC); · simp only [List.length_append, List.length_map, List.length_cons, List.length_nil, List.length_replicate, List.length_range, natsV_len]; lia
        refine seq_next ?_
        with_reducible apply hx_nil
        refine seq_next ?_
        with_reducible apply hx_nil
        rw [← natsV_app, hr]
        refine hQ' ⟨g₅, c.D ++ vs, (c.W ++ c.R).filter fun i => !decide (i ∈ vs), R1, _, _, c.aa, c.m + 1⟩ _ _ (by (refine Sub.cons (by with_unfolding_all rfl) ?_; refine Sub.cons (by with_unfolding_all rfl) ?_; refine Sub.cons (by with_unfolding_all rfl) ?_; refine Sub.cons (by with_unfolding_all rfl) ?_; refine Sub.cons (by with_unfolding_all rfl) ?_; refine Sub.cons (by with_unfolding_all rfl) ?_; with_reducible exact Sub.nil)) ⟨{ s := (s₁₀.set haf₁₀).app.app, e := (e₁₀.set T.al).app.app, ok := ok₅, so := hso5, w := st_new, wf := s₁₀.fresh' (by show σ₁₀.length ≤ (σ₁₀.set _ _ ++ [_]).length; rw [List.length_append, List.length_set]; lia), o := st_old st_new, of := s₁₀.fresh' (by show σ₁₀.length ≤ (σ₁₀.set _ _).length; rw [List.length_set]; lia), a := st_old (st_old (st_set ha₁₀)), af := haf₁₀, al := T.al, m := by rw [hmT]; dsimp only; lia, t := ?_, ord := ?_ }, by ((with_reducible apply st_old); (with_reducible apply st_old); (with_reducible apply st_set_ne); (· assumption); · with_reducible assumption), hrf₁₀⟩
        · have := T.t
          have := List.length_pos_iff.mpr hv0
          rw [hmT]
          dsimp only
          rw [List.length_append]
          lia
        · exact ord_app T.ord fun v hv => ((ok₄.mem v).mp (.inl (hvs v hv))).2.2
    · intro hc
      have hW : c.W ++ c.R = [] := by
        generalize c.W ++ c.R = z at hc
        cases z with
        | nil => rfl
        | cons a l => cases hc
      with_reducible apply hx_nil
      refine seq_next ?_
      with_reducible apply hx_nil
      refine hQ' ⟨g₄, c.D, c.W ++ c.R, [], w5, c.oa, c.aa, c.m⟩ _ _ (by (refine Sub.cons (by with_unfolding_all rfl) ?_; refine Sub.cons (by with_unfolding_all rfl) ?_; refine Sub.cons (by with_unfolding_all rfl) ?_; refine Sub.cons (by with_unfolding_all rfl) ?_; refine Sub.cons (by with_unfolding_all rfl) ?_; refine Sub.cons (by with_unfolding_all rfl) ?_; with_reducible exact Sub.nil)) ⟨{ s := s₉, e := e₄.trans e₉, ok := ok₄, so := rfl, w := hw₉, wf := hwf₅, o := e₉.get ho, of := hof, a := e₉.get ha, af := haf, al := T.al, m := by have := T.m; rw [hmT]; dsimp only; lia, t := ?_, ord := T.ord }, hra₉, hrf₄⟩
      have := ((hW ▸ ok₄ : OkG preds n c.D [] r [] g₄).full a).2
      rw [hmT]
      dsimp only
      lia
  · obtain ⟨T, hra, hrf⟩ := hT
    refine Hx.sub ?_ hb
    clear hsd hso hd₂ T0 x₂ ok i₁ up s₁ e₁ e₂ hso2
    obtain rfl := T.so
    obtain ⟨cg, cD, cW, cR, cwa, coa, caa, cm⟩ := c
    have hl := T.ok.lens
    have ht := T.t
    rw [List.length_range] at ht
    dsimp only at hl ht
    obtain rfl : cW = [] := List.length_eq_zero_iff.mp (by lia)
    obtain rfl : cR = [] := List.length_eq_zero_iff.mp (by lia)
    have ha := T.a
    have ho := T.o
    have hs := T.s
    have hf := T.ok.full a
    have hok := T.ok
    have hord := T.ord
    have he := T.e
    clear T
    dsimp only at ha ho hs hok hord
    refine hx_cons ?_
    with_reducible apply hs_ifH
    with_reducible apply hx_tBool
    with_reducible apply hx_or
    (with_reducible apply hx_tVal); · rfl
    (with_reducible apply hx_comp); · kernel_rfl
    refine hx_pv (pv_name (by kernel_rfl) (by with_unfolding_all rfl)) ?_
    (with_reducible apply runComp_list); · with_reducible assumption
    refine hx_compN (ι := AV) (fun v => v) (fun _ => false) (fun _ => .int 1) (by kernel_rfl) (by with_unfolding_all rfl) ha (fun v hv => ?_) (fun v hv q => (by cases q)) fun bs' => ?_
    · obtain rfl := (List.mem_replicate.mp hv).2
      exact pv_tests1 (show Pv _ _ _ (!true) by ((with_reducible apply pv_tCmp); (· kernel_rfl); (· exact pv_name (by kernel_rfl) (by with_unfolding_all rfl)); (· with_reducible exact pv_none); · (with_reducible apply pv_isnot); rfl))
    have hfl : (List.replicate cm AV.none).filter (fun _ => false) = [] := by simp
    rw [hfl]
    show NewC [] _ _ _
    refine hx_newC (Nat.zero_le _) ⟨_, truth_list st_new, fun q => (by cases q), fun _ => ?_⟩
    have hs := hs.app (t := [AO.list []])
    have k1 := hs.so
    have k2 := hs.d
    with_reducible apply hx_or
    (with_reducible apply hx_tCmp); · kernel_rfl
    (with_reducible apply hx_meth); (· exact ⟨by decide, by decide, rfl⟩); · rfl
    refine hx_pv (pv_name (by kernel_rfl) (by with_unfolding_all rfl)) ?_
    (with_reducible apply hx_findSo); (· with_reducible assumption); (· with_reducible assumption); (· rfl); · rfl
    refine hx_args0 ?_
    with_reducible apply hx_mcallF
    refine active_run hs hok.rl ?_
    rw [hok.po, hok.fi]
    have hb : (decide ((cD.length : Int) < cD.length + ([] : List Nat).length) || !([] : List Nat).isEmpty) = false := by simp
    rw [hb]
    (with_reducible apply hx_pv); · with_reducible exact pv_bool
    (with_reducible apply hx_pv); · (with_reducible apply pv_isnot); rfl
    with_reducible apply ex_bool
    refine ⟨fun q => (by cases q), fun _ => ?_⟩
    with_reducible apply hx_allOr
    with_reducible apply br_false
    with_reducible apply hx_nil
    refine seq_next (hx_cons ?_)
    with_reducible apply hs_ret
    refine hx_pv (pv_name (by kernel_rfl) (by with_unfolding_all rfl)) ?_
    with_reducible apply seq_ret
    exact hq coa cD _ he.app (st_old ho) ⟨(by have := hok.nd; rw [List.append_nil, List.append_nil] at this; exact this), hf.1, hord⟩
end

section
variable {bs : Bs} {σ : Store} {n : Nat} {sc : Scope} {P : Prog}
noncomputable abbrev aMiss : Addr := PP.miss
theorem reduce_run {f : AV} {iv : Option AV} {l : Nat} {vs : List AV} {Q : AV → Bs → Store → Prop} (J : Nat → AV → Store → Prop) (hl : σ[l]? = some (.list vs)) (hlen : vs.length < 100)
    (h0 : match iv with
      | some v => J 0 v σ ∧ ∀ σ', Ext σ σ' → isV PP.miss σ' v (.ext (.ref aMiss)) = some false
      | none => ∃ v, vs[0]? = some v ∧ J 1 v σ)
    (hJ : ∀ k v σ' i o a b, J k v σ' → σ'[i]? = some (.iter a b) → J k v (σ'.set i o)) (hJa : ∀ k v σ' t, J k v σ' → J k v (σ' ++ t))
    (hs : ∀ (sc : Scope) (m : Nat) k v x σ' bs (Q : AV → Bs → Store → Prop), Ext σ σ' → J k v σ' → vs[k]? = some x → (∀ v' σ'', Ext σ' σ'' → J (k + 1) v' σ'' → Q v' bs σ'') → Hx (callV PP (m + 50) f [v, x] : Mm PP (m + 50) sc AV) bs σ' Q)
    (hq : ∀ v σ', Ext σ σ' → J vs.length v σ' → Q v bs σ') : Hx (callA PP (n + 70) aReduce (f :: .ref l :: iv.toList) : Mm PP (n + 70) sc AV) bs σ Q := by
  refine hx_up ?_
  refine hx_callE (bs₀ := [("function", f), ("sequence", .ref l), ("initial", iv.getD (.ext (.ref aMiss)))]) (rest := []) rfl (by with_unfolding_all rfl) (by kernel_rfl) (by cases iv <;> kernel_rfl) ?_
  have hii : (σ ++ [AO.iter l 0])[σ.length]? = some (.iter l 0) := st_new
  have hee : Ext σ (σ ++ [AO.iter l 0]) := Ext.refl.app
  have hne : l ≠ σ.length := by have := lt_of hl; lia
  refine hx_cons (hs_assign (by kernel_rfl) (by kernel_rfl) ?_)
  refine Hx.mono (Q := fun v bs' σ' => v = .ref σ.length ∧ bs' = ([("function", f), ("sequence", .ref l), ("initial", iv.getD (.ext (.ref aMiss)))] : Bs) ∧ σ' = σ ++ [.iter l 0]) ?_ ?_
  · refine hx_call rfl ?_
    refine hx_pv (pv_glob (by kernel_rfl) (by with_unfolding_all rfl)) ?_
    refine hx_args1 rfl ?_
    refine hx_pv (pv_name (by kernel_rfl) (by with_unfolding_all rfl)) ?_
    refine hx_args0 ?_
    with_reducible apply hx_callB
    (with_reducible apply hx_iter); · with_reducible assumption
    exact ⟨rfl, rfl, rfl⟩
  intro v bs' σ' h
  obtain ⟨rfl, rfl, rfl⟩ := h
  refine seq_next (hx_cons ?_)
  refine Hx.mono (Q := fun fl bs' σ' => fl = Fl.next ∧ ∃ v k, Sub [("value", v), ("it", .ref σ.length), ("function", f)] bs' ∧ J k v σ' ∧ σ'[σ.length]? = some (.iter l k) ∧ Ext σ σ' ∧ k ≤ vs.length) ?_ ?_
  · cases iv with
    | some v =>
      obtain ⟨h1, h2⟩ := h0
      refine hs_ifH (hx_tCmp (by kernel_rfl) (hx_pv (by (exact pv_name (by kernel_rfl) (by with_unfolding_all rfl))) (hx_pv (by (exact pv_glob (by kernel_rfl) (by with_unfolding_all rfl))) (hx_pv (pv_is (h2 _ hee)) ⟨_, rfl, fun q => (by cases q), fun _ => ?_⟩))))
      refine hx_cons ?_
      refine hs_assign (by kernel_rfl) (by kernel_rfl) ?_
      refine hx_pv (pv_name (by kernel_rfl) (by with_unfolding_all rfl)) ?_
      refine seq_next ?_
      with_reducible apply hx_nil
      exact ⟨rfl, v, 0, by (refine Sub.cons (by with_unfolding_all rfl) ?_; refine Sub.cons (by with_unfolding_all rfl) ?_; refine Sub.cons (by with_unfolding_all rfl) ?_; with_reducible exact Sub.nil), hJa _ _ _ _ h1, hii, hee, Nat.zero_le _⟩
    | none =>
      obtain ⟨v, h1, h2⟩ := h0
      refine hs_ifH (hx_tCmp (by kernel_rfl) (hx_pv (by (exact pv_name (by kernel_rfl) (by with_unfolding_all rfl))) (hx_pv (by (exact pv_glob (by kernel_rfl) (by with_unfolding_all rfl))) (hx_pv (pv_is rfl) ⟨_, rfl, fun _ => ?_, fun q => (by cases q)⟩))))
      have hv1 : 1 ≤ vs.length := by
        cases vs with
        | nil => cases h1
        | cons a l => exact Nat.succ_le_succ (Nat.zero_le _)
      refine hx_cons (hs_try0 (hx_cons ?_))
      refine hs_assign (by kernel_rfl) (by kernel_rfl) ?_
      refine hx_call rfl ?_
      refine hx_pv (pv_glob (by kernel_rfl) (by with_unfolding_all rfl)) ?_
      refine hx_args1 rfl ?_
      refine hx_pv (pv_name (by kernel_rfl) (by with_unfolding_all rfl)) ?_
      refine hx_args0 ?_
      with_reducible apply hx_callB
      refine hx_nextB hii (st_old hl) h1 ?_
      refine seq_next ?_
      with_reducible apply hx_nil
      refine seq_next ?_
      with_reducible apply hx_nil
      exact ⟨rfl, v, 1, by (refine Sub.cons (by with_unfolding_all rfl) ?_; refine Sub.cons (by with_unfolding_all rfl) ?_; refine Sub.cons (by with_unfolding_all rfl) ?_; with_reducible exact Sub.nil), hJ _ _ _ _ _ _ _ (hJa _ _ _ _ h2) hii, st_set hii, hee.set (Nat.le_refl _), hv1⟩
  · intro fl bs' σ' h
    obtain ⟨rfl, v, k, hb, h1, h2, h3, h4⟩ := h
    refine Hx.sub ?_ hb
    refine hx_cons ?_
    (with_reducible apply hs_for); · kernel_rfl
    refine hx_pv (pv_name (by kernel_rfl) (by with_unfolding_all rfl)) ?_
    refine hx_forIter (γ := AV) (B := fun v => [("value", v), ("it", .ref σ.length), ("function", f)]) (I := fun v k σ' => J k v σ' ∧ σ'[σ.length]? = some (.iter l k) ∧ Ext σ σ' ∧ k ≤ vs.length) (vs := vs) (by kernel_rfl) (fun g k σ' h => ⟨h.2.1, h.2.2.1.get hl⟩) (fun g k σ₁ x hI hx => ?_) (fun g k σ₁ bs₁ hI hk hb => ?_) v k σ' _ ⟨h1, h2, h3, h4⟩ Sub.refl h4
    · obtain ⟨q1, q2, q3, q4⟩ := hI
      have hlt : k < vs.length := by
        rcases Nat.lt_or_ge k vs.length with c | c
        · exact c
        · rw [List.getElem?_eq_none c] at hx; cases hx
      refine hx_cons ?_
      refine hs_assign (by kernel_rfl) (by kernel_rfl) ?_
      refine hx_call rfl ?_
      refine hx_pv (pv_name (by kernel_rfl) (by with_unfolding_all rfl)) ?_
      refine hx_args1 rfl ?_
      refine hx_pv (pv_name (by kernel_rfl) (by with_unfolding_all rfl)) ?_
      refine hx_args1 rfl ?_
      refine hx_pv (pv_name (by kernel_rfl) (by with_unfolding_all rfl)) ?_
      refine hx_args0 ?_
      refine hs _ _ k g x _ _ _ (q3.set (Nat.le_refl _)) (hJ _ _ _ _ _ _ _ q1 q2) hx fun v' σ₂ e₂ q5 => ?_
      refine seq_next ?_
      with_reducible apply hx_nil
      exact ⟨rfl, v', by (refine Sub.cons (by with_unfolding_all rfl) ?_; refine Sub.cons (by with_unfolding_all rfl) ?_; refine Sub.cons (by with_unfolding_all rfl) ?_; with_reducible exact Sub.nil), q5, e₂.get (st_set q2), (q3.set (Nat.le_refl _)).trans e₂, hlt⟩
    · obtain ⟨q1, q2, q3, q4⟩ := hI
      obtain rfl : k = vs.length := Nat.le_antisymm q4 hk
      refine Hx.sub ?_ hb
      refine hx_cons ?_
      with_reducible apply hs_ret
      refine hx_pv (pv_name (by kernel_rfl) (by with_unfolding_all rfl)) ?_
      with_reducible apply seq_ret
      exact hq g _ (q3.set (Nat.le_refl _)) (hJ _ _ _ _ _ _ _ q1 q2)
end

section
variable {pr : Nat → List Nat}
noncomputable def swp (pr : Nat → List Nat) (a b : Nat) (u v : List Nat) : List Nat := if a ∈ pr b ∨ b ∈ pr a then u ++ a :: b :: v else u ++ b :: a :: v
noncomputable def tog (pr : Nat → List Nat) (r : List Nat) (at' : Nat) : List Nat := swp pr (r[at']?.getD 0) (r[at' + 1]?.getD 0) (r.take at') (r.drop (at' + 2))
theorem sub_top {m i : Nat} (h : i + 1 < m) : m - 1 - i + 1 = m - i := by rw [Nat.sub_right_comm, Nat.sub_add_cancel (Nat.sub_pos_of_lt (Nat.lt_of_succ_lt h))]
theorem sub_lt1 {m i : Nat} (h : i + 1 < m) : m - 1 - i < m := Nat.lt_of_le_of_lt (Nat.sub_le _ _) (Nat.sub_lt (Nat.lt_of_le_of_lt (Nat.zero_le _) h) (by decide))
theorem cat_len {i j a b : Nat} (hij : i + 2 ≤ j) (hu : a = i) (hv : b = j - i - 2) : a + (b + 1 + 1) = j := by
  subst hu hv
  show a + (j - a - 2 + 2) = j
  rw [Nat.sub_add_cancel (Nat.le_sub_of_add_le' hij), Nat.add_sub_cancel' (Nat.le_trans (Nat.le_add_right ..) hij)]
theorem cut2 {r : List Nat} {k : Nat} (h : k + 1 < r.length) : ∃ u a b v, r = u ++ a :: b :: v ∧ u.length = k := by
  refine ⟨r.take k, r[k], r[k + 1], r.drop (k + 2), ?_, List.length_take_of_le (by lia)⟩
  rw [← List.drop_eq_getElem_cons h, ← List.drop_eq_getElem_cons (show k < r.length by lia), List.take_append_drop]
theorem tog_eq {u v : List Nat} {a b k : Nat} (h : u.length = k) : tog pr (u ++ a :: b :: v) k = swp pr a b u v := by
  subst h
  have h1 : (u ++ a :: b :: v)[u.length]? = some a := by rw [List.getElem?_append_right (Nat.le_refl _), Nat.sub_self]; rfl
  have h2 : (u ++ a :: b :: v)[u.length + 1]? = some b := by rw [List.getElem?_append_right (Nat.le_succ _), show u.length.succ - u.length = 1 by lia]; rfl
  have h3 : (u ++ a :: b :: v).drop (u.length + 2) = v := by rw [← List.drop_drop, List.drop_left]; rfl
  unfold tog
  rw [h1, h2, h3, List.take_left]; rfl
theorem swp_len {u v : List Nat} {a b : Nat} : (swp pr a b u v).length = (u ++ a :: b :: v).length := by
  unfold swp
  split
  · rfl
  · simp
theorem tog_len {r : List Nat} {k : Nat} (h : k + 1 < r.length) : (tog pr r k).length = r.length := by
  obtain ⟨u, a, b, v, rfl, hk⟩ := cut2 h
  rw [tog_eq hk, swp_len]
theorem tog_tog {r : List Nat} {k : Nat} (h : k + 1 < r.length) : tog pr (tog pr r k) k = r := by
  obtain ⟨u, a, b, v, rfl, hk⟩ := cut2 h
  rw [tog_eq hk]
  by_cases c : a ∈ pr b ∨ b ∈ pr a
  · unfold swp
    rw [if_pos c, tog_eq hk]
    unfold swp
    rw [if_pos c]
  · unfold swp
    rw [if_neg c, tog_eq hk]
    unfold swp
    rw [if_neg (fun q => c q.symm)]
theorem swp_cases {u v : List Nat} {a b : Nat} : ∃ a' b', swp pr a b u v = u ++ a' :: b' :: v ∧ ∀ u' v', swp pr a b u' v' = u' ++ a' :: b' :: v' := by
  by_cases c : a ∈ pr b ∨ b ∈ pr a
  · exact ⟨a, b, if_pos c, fun _ _ => if_pos c⟩
  · exact ⟨b, a, if_neg c, fun _ _ => if_neg c⟩
theorem tog_comm {r : List Nat} {i j : Nat} (hij : i + 2 ≤ j) (h : j + 1 < r.length) : tog pr (tog pr r j) i = tog pr (tog pr r i) j := by
  obtain ⟨u, a, b, t, rfl, hu⟩ := cut2 (show i + 1 < r.length by lia)
  have ht : (j - i - 2) + 1 < t.length := by simp at h; lia
  obtain ⟨v, c, d, w, rfl, hv⟩ := cut2 ht
  obtain ⟨a', b', e1, e2⟩ := swp_cases (pr := pr) (u := u) (v := v ++ c :: d :: w) (a := a) (b := b)
  obtain ⟨c', d', f1, f2⟩ := swp_cases (pr := pr) (u := u ++ a :: b :: v) (v := w) (a := c) (b := d)
  have s1 : u ++ a :: b :: (v ++ c :: d :: w) = (u ++ a :: b :: v) ++ c :: d :: w := by simp
  have s2 : u ++ a' :: b' :: (v ++ c :: d :: w) = (u ++ a' :: b' :: v) ++ c :: d :: w := by simp
  have l1 : (u ++ a :: b :: v).length = j := by rw [List.length_append, List.length_cons, List.length_cons]; exact cat_len hij hu hv
  have l2 : (u ++ a' :: b' :: v).length = j := by rw [List.length_append, List.length_cons, List.length_cons]; exact cat_len hij hu hv
  rw [tog_eq hu, e1, s2, tog_eq l2, f2, s1, tog_eq l1, f1, show (u ++ a :: b :: v) ++ c' :: d' :: w = u ++ a :: b :: (v ++ c' :: d' :: w) by simp, tog_eq hu, e2]
  simp
noncomputable def led (pr : Nat → List Nat) (r : List Nat) (w : List Nat) : List Nat := w.foldl (tog pr) r
theorem led_len : ∀ (w : List Nat) (r : List Nat), (∀ x ∈ w, x + 1 < r.length) → (led pr r w).length = r.length
  | [], r, _ => rfl
  | x :: w, r, h => by
    have hx := tog_len (pr := pr) (h x (.head _))
    show (led pr (tog pr r x) w).length = _
    rw [led_len w _ (fun y hy => by rw [hx]; exact h y (.tail _ hy)), hx]
theorem led_app {r w v : List Nat} : led pr r (w ++ v) = led pr (led pr r w) v := List.foldl_append
noncomputable def far (a b : Nat) : Bool := decide (a + 2 ≤ b) || decide (b + 2 ≤ a)
noncomputable def drp (x : Nat) : List Nat → Option (List Nat)
  | [] => none
  | a :: l => if a = x then some l else if far a x then (drp x l).map (a :: ·) else none
noncomputable def psh (st : List Nat) (x : Nat) : List Nat := (drp x st).getD (x :: st)
noncomputable def red (w : List Nat) : List Nat := w.foldl psh []
theorem led_rev_cons {r st : List Nat} {a : Nat} : led pr r (a :: st).reverse = tog pr (led pr r st.reverse) a := by
  rw [List.reverse_cons, led_app]; rfl
theorem far_comm {r : List Nat} {a x : Nat} (hf : far a x = true) (ha : a + 1 < r.length) (hx : x + 1 < r.length) : tog pr (tog pr r a) x = tog pr (tog pr r x) a := by
  unfold far at hf
  rw [Bool.or_eq_true, decide_eq_true_eq, decide_eq_true_eq] at hf
  rcases hf with h | h
  · exact (tog_comm h hx).symm
  · exact tog_comm h ha
theorem drp_led {r : List Nat} {x : Nat} (hx : x + 1 < r.length) : ∀ (st st' : List Nat), (∀ y ∈ st, y + 1 < r.length) → drp x st = some st' → tog pr (led pr r st.reverse) x = led pr r st'.reverse
  | [], st', _, h => by cases h
  | a :: l, st', hv, h => by
    have hl := led_len (pr := pr) l.reverse r fun y hy => hv y (.tail _ (List.mem_reverse.mp hy))
    unfold drp at h
    rw [led_rev_cons]
    by_cases e : a = x
    · rw [if_pos e] at h
      cases h
      rw [e, tog_tog (by rw [hl]; exact hx)]
    · rw [if_neg e] at h
      by_cases f : far a x = true
      · rw [if_pos f] at h
        obtain ⟨l', h1, rfl⟩ := Option.map_eq_some_iff.mp h
        rw [far_comm f (by rw [hl]; exact hv a (.head _)) (by rw [hl]; exact hx), drp_led hx l l' (fun y hy => hv y (.tail _ hy)) h1, led_rev_cons]
      · rw [if_neg f] at h; cases h
theorem drp_mem {x : Nat} : ∀ (st st' : List Nat), drp x st = some st' → ∀ y ∈ st', y ∈ st
  | [], st', h => by cases h
  | a :: l, st', h => by
    unfold drp at h
    by_cases e : a = x
    · rw [if_pos e] at h; cases h; exact fun y hy => .tail _ hy
    · rw [if_neg e] at h
      by_cases f : far a x = true
      · rw [if_pos f] at h
        obtain ⟨l', h1, rfl⟩ := Option.map_eq_some_iff.mp h
        intro y hy
        rcases List.mem_cons.mp hy with rfl | hy
        · exact .head _
        · exact .tail _ (drp_mem l l' h1 y hy)
      · rw [if_neg f] at h; cases h
theorem psh_led {r st : List Nat} {x : Nat} (hx : x + 1 < r.length) (hv : ∀ y ∈ st, y + 1 < r.length) : tog pr (led pr r st.reverse) x = led pr r (psh st x).reverse ∧ ∀ y ∈ psh st x, y + 1 < r.length := by
  unfold psh
  cases e : drp x st with
  | none => exact ⟨led_rev_cons.symm, fun y hy => (List.mem_cons.mp hy).elim (fun q => q ▸ hx) (hv y)⟩
  | some st' => exact ⟨drp_led hx st st' hv e, fun y hy => hv y (drp_mem st st' e y hy)⟩
theorem red_led {r : List Nat} : ∀ (w st : List Nat), (∀ x ∈ w, x + 1 < r.length) → (∀ y ∈ st, y + 1 < r.length) → led pr (led pr r st.reverse) w = led pr r (w.foldl psh st).reverse
  | [], st, _, _ => rfl
  | x :: w, st, hw, hs => by
    obtain ⟨h1, h2⟩ := psh_led (pr := pr) (hw x (.head _)) hs
    show led pr (tog pr (led pr r st.reverse) x) w = _
    rw [h1, red_led w _ (fun y hy => hw y (.tail _ hy)) h2]; rfl
theorem led_nil {r w : List Nat} (hw : ∀ x ∈ w, x + 1 < r.length) (h : red w = []) : led pr r w = r := by
  have := red_led (pr := pr) w [] hw (fun _ h => nomatch h)
  unfold red at h
  rw [h] at this
  exact this
theorem led_same {r w v : List Nat} (hw : ∀ x ∈ w, x + 1 < r.length) (hv : ∀ x ∈ v, x + 1 < r.length) (h : red (w ++ v.reverse) = []) : led pr r w = led pr r v := by
  have h1 : led pr (led pr r w) v.reverse = r := by
    rw [← led_app]
    exact led_nil (fun x hx => (List.mem_append.mp hx).elim (hw x) fun q => hv x (List.mem_reverse.mp q)) h
  have hl := led_len (pr := pr) w r hw
  have h2 : ∀ (v t : List Nat), (∀ x ∈ v, x + 1 < t.length) → led pr (led pr t v.reverse) v = t := by
    intro v
    induction v with
    | nil => intro t _; rfl
    | cons x v ih =>
      intro t ht
      have hl := led_len (pr := pr) v.reverse t fun y hy => ht y (.tail _ (List.mem_reverse.mp hy))
      rw [led_rev_cons]
      show led pr (tog pr (tog pr _ x) x) v = t
      rw [tog_tog (by rw [hl]; exact ht x (.head _))]
      exact ih t fun y hy => ht y (.tail _ hy)
  have h3 := h2 v (led pr r w) fun x hx => by rw [hl]; exact hv x hx
  rw [h1] at h3
  exact h3.symm
noncomputable def Beh (pr : Nat → List Nat) (r : List Nat) : Prop := r.Pairwise fun a b => b ∉ pr a
theorem Beh.tog {r : List Nat} {k : Nat} (hb : Beh pr r) (h : k + 1 < r.length) : Beh pr (tog pr r k) := by
  obtain ⟨u, a, b, v, rfl, hk⟩ := cut2 h
  rw [tog_eq hk]
  unfold swp
  split
  · exact hb
  · rename_i c
    unfold Beh at hb ⊢
    rw [List.pairwise_append, List.pairwise_cons, List.pairwise_cons] at hb ⊢
    obtain ⟨h1, ⟨h2, h3, h4⟩, h5⟩ := hb
    refine ⟨h1, ⟨fun x hx => ?_, fun x hx => h2 x (.tail _ hx), h4⟩, fun x hx y hy => ?_⟩
    · rcases List.mem_cons.mp hx with rfl | hx
      · exact fun q => c (.inl q)
      · exact h3 x hx
    · rcases List.mem_cons.mp hy with rfl | hy
      · exact h5 x hx y (.tail _ (.head _))
      · rcases List.mem_cons.mp hy with rfl | hy
        · exact h5 x hx y (.head _)
        · exact h5 x hx y (.tail _ (.tail _ hy))
theorem Beh.led : ∀ (w : List Nat) {r : List Nat}, Beh pr r → (∀ x ∈ w, x + 1 < r.length) → Beh pr (led pr r w)
  | [], _, h, _ => h
  | x :: w, r, h, hw => by
    have hx := hw x (.head _)
    exact Beh.led w (h.tog hx) fun y hy => by rw [tog_len hx]; exact hw y (.tail _ hy)
noncomputable def slideR (pr : Nat → List Nat) : Nat → List Nat → List Nat
  | m, [] => [m]
  | m, w :: r => if m ∈ pr w then m :: slideR pr w r else w :: slideR pr m r
noncomputable def slide (pr : Nat → List Nat) : List Nat → List Nat
  | [] => []
  | m :: r => slideR pr m r
theorem slideR_len : ∀ (r : List Nat) (m : Nat), (slideR pr m r).length = r.length + 1
  | [], m => rfl
  | w :: r, m => by
    unfold slideR
    split
    · rw [List.length_cons, slideR_len r]; rfl
    · rw [List.length_cons, slideR_len r]; rfl
theorem slide_len {r : List Nat} : (slide pr r).length = r.length := by
  cases r with
  | nil => rfl
  | cons m r => exact slideR_len r m
theorem slideR_led : ∀ (r u v : List Nat) (m : Nat), Beh pr (m :: r) → led pr (u ++ (m :: r) ++ v) ((List.range r.length).map (u.length + ·)) = u ++ slideR pr m r ++ v
  | [], u, v, m, _ => rfl
  | w :: r, u, v, m, h => by
    rw [List.length_cons, List.range_succ_eq_map, List.map_cons, List.map_map]
    show led pr (tog pr _ (u.length + 0)) _ = _
    unfold Beh at h
    rw [List.pairwise_cons, List.pairwise_cons] at h
    obtain ⟨h1, h2, h3⟩ := h
    have hm : ∀ x ∈ r, x ∉ pr m := fun x hx => h1 x (.tail _ hx)
    have hf : ∀ y : Nat, ((fun x => (u ++ [y]).length + x) : Nat → Nat) = (fun x => u.length + x) ∘ Nat.succ := fun y => by
      funext x; simp; lia
    rw [show u ++ (m :: w :: r) ++ v = u ++ m :: w :: (r ++ v) by simp, tog_eq (k := u.length + 0) rfl]
    unfold swp slideR
    by_cases c : m ∈ pr w
    · rw [if_pos (.inl c), if_pos c, ← hf m]
      have := slideR_led r (u ++ [m]) v w (List.pairwise_cons.mpr ⟨h2, h3⟩)
      rw [show u ++ m :: w :: (r ++ v) = (u ++ [m]) ++ (w :: r) ++ v by simp, this]
      simp
    · rw [if_neg (fun q => q.elim c (h1 w (.head _))), if_neg c, ← hf w]
      have := slideR_led r (u ++ [w]) v m (List.pairwise_cons.mpr ⟨hm, h3⟩)
      rw [show u ++ w :: m :: (r ++ v) = (u ++ [w]) ++ (m :: r) ++ v by simp, this]
      simp
theorem slide_led {r : List Nat} {k : Nat} (hk : k < r.length) (h : Beh pr r) : slide pr (r.take (k + 1)) ++ r.drop (k + 1) = led pr r (List.range k) := by
  cases r with
  | nil => cases hk
  | cons m r =>
    have hk' : k ≤ r.length := Nat.le_of_lt_succ hk
    have hs : Beh pr (m :: r.take k) := by
      have : (m :: r.take k).Sublist (m :: r) := List.Sublist.cons₂ _ (List.take_sublist ..)
      exact h.sublist this
    have := slideR_led (pr := pr) (r.take k) [] (r.drop k) m hs
    rw [List.length_take, Nat.min_eq_left hk', show ((fun x => ([] : List Nat).length + x) : Nat → Nat) = id by funext x; simp, List.map_id] at this
    rw [List.take_succ_cons, List.drop_succ_cons]
    rw [show m :: r = [] ++ (m :: r.take k) ++ r.drop k by simp [List.take_append_drop], this]
    rfl
end

theorem lin_fold {α : Type} {f : Nat → α → α} {ok : α → Prop} {preds : Nat → List Nat} (hf : ∀ p a, ok a → ok (f p a)) (hlt : ∀ k, ∀ p ∈ preds k, p < k) : ∀ (n : Nat), (∀ p q a, p < q → q < n → p ∉ preds q → ok a → f p (f q a) = f q (f p a)) → ∀ (D : List Nat) (a : α), Lin preds n D → ok a → D.foldl (fun a p => f p a) a = (List.range n).foldl (fun a p => f p a) a
  | 0, _, D, a, hD, _ => by
    have : D = [] := List.eq_nil_iff_forall_not_mem.mpr fun v hv => absurd ((hD.mem v).mp hv) (Nat.not_lt_zero _)
    rw [this]; rfl
  | n + 1, hc, D, a, hD, ha => by
    obtain ⟨pre, post, rfl⟩ := List.append_of_mem ((hD.mem n).mpr (Nat.lt_succ_self n))
    have hnd := List.nodup_append.mp hD.nd
    have hnp := List.nodup_cons.mp hnd.2.1
    have okf : ∀ (l : List Nat) (a : α), ok a → ok (l.foldl (fun a p => f p a) a) := by
      intro l
      induction l with
      | nil => intro a h; exact h
      | cons p l ih => intro a h; exact ih _ (hf p a h)
    have move : ∀ (l : List Nat) (a : α), ok a → (∀ q ∈ l, q < n ∧ q ∉ preds n) → l.foldl (fun a p => f p a) (f n a) = f n (l.foldl (fun a p => f p a) a) := by
      intro l
      induction l with
      | nil => intro a _ _; rfl
      | cons q l ih =>
        intro a h hq
        obtain ⟨h1, h2⟩ := hq q (.head _)
        rw [List.foldl_cons, List.foldl_cons, hc q n a h1 (Nat.lt_succ_self n) h2 h]
        exact ih _ (hf q a h) fun q' h' => hq q' (.tail _ h')
    have hpost : ∀ q ∈ post, q < n ∧ q ∉ preds n := fun q hq => by
      have h1 := (hD.mem q).mp (by simp [hq])
      have h2 : q ≠ n := fun c => hnp.1 (c ▸ hq)
      exact ⟨by lia, fun c => hnd.2.2 q (hD.ord pre n post rfl q c) q (.tail _ hq) rfl⟩
    have hL : Lin preds n (pre ++ post) := by
      refine ⟨?_, fun v => ?_, fun pr v po e p hp => ?_⟩
      · exact List.nodup_append.mpr ⟨hnd.1, hnp.2, fun x hx y hy => hnd.2.2 x hx y (.tail _ hy)⟩
      · have := hD.mem v
        constructor
        · intro h
          have h1 : v ∈ pre ++ n :: post := by
            rcases List.mem_append.mp h with c | c
            · exact List.mem_append_left _ c
            · exact List.mem_append_right _ (.tail _ c)
          have h2 : v ≠ n := fun c => by
            subst c
            rcases List.mem_append.mp h with c | c
            · exact hnd.2.2 v c v (.head _) rfl
            · exact hnp.1 c
          have := this.mp h1
          lia
        · intro h
          have h1 := this.mpr (by lia)
          rcases List.mem_append.mp h1 with c | c
          · exact List.mem_append_left _ c
          · rcases List.mem_cons.mp c with c | c
            · lia
            · exact List.mem_append_right _ c
      · rcases List.append_eq_append_iff.mp e with ⟨l, h1, h2⟩ | ⟨l, h1, h2⟩
        · have := hD.ord (pre ++ n :: l) v po (by rw [h2, List.append_assoc, List.cons_append]) p hp
          rw [h1]
          have hv : v < n + 1 := (hD.mem v).mp (by rw [h2]; simp)
          have hpv := hlt v p hp
          rcases List.mem_append.mp this with c | c
          · exact List.mem_append_left _ c
          · rcases List.mem_cons.mp c with c | c
            · lia
            · exact List.mem_append_right _ c
        · cases l with
          | nil =>
            rw [List.nil_append] at h2
            rw [List.append_nil] at h1
            have := hD.ord (pre ++ [n]) v po (by rw [← h2, List.append_assoc]; rfl) p hp
            have hv : v < n + 1 := (hD.mem v).mp (by rw [← h2]; simp)
            have hpv := hlt v p hp
            rcases List.mem_append.mp this with c | c
            · exact h1 ▸ c
            · rcases List.mem_singleton.mp c with rfl; lia
          | cons x l =>
            rw [List.cons_append] at h2
            injection h2 with h3 h4
            subst h3
            exact hD.ord pr v (l ++ n :: post) (by rw [h1, List.append_assoc, List.cons_append]) p hp
    rw [List.foldl_append, List.foldl_cons, move post _ (okf pre a ha) hpost, ← List.foldl_append, lin_fold hf hlt n (fun p q a h1 h2 => hc p q a h1 (by lia)) _ a hL ha, List.range_succ, List.foldl_append]
    rfl

section
variable {pr : Nat → List Nat}
noncomputable def stair (n : Nat) : List Nat := (List.range (n - 1)).flatMap fun i => List.range (n - 1 - i)
noncomputable def turns (n : Nat) : List Nat := (List.range n).flatMap fun _ => List.range (n - 1)
noncomputable def evacF (pr : Nat → List Nat) (r : List Nat) : List Nat := (List.range (r.length - 1)).foldl (fun t i => slide pr (t.take (r.length - i)) ++ t.drop (r.length - i)) r
noncomputable def slidesF (pr : Nat → List Nat) (r : List Nat) : List Nat := (List.range r.length).foldl (fun t _ => slide pr t) r
theorem range_ok {k n : Nat} (h : k < n) : ∀ x ∈ List.range k, x + 1 < n := fun x hx => Nat.lt_of_le_of_lt (List.mem_range.mp hx) h
theorem evac_led {r : List Nat} (h : Beh pr r) : evacF pr r = led pr r (stair r.length) := by
  have key : ∀ (l : List Nat), (∀ i ∈ l, i + 1 < r.length) → ∀ t : List Nat, t.length = r.length → Beh pr t →
      l.foldl (fun t i => slide pr (t.take (r.length - i)) ++ t.drop (r.length - i)) t = led pr t (l.flatMap fun i => List.range (r.length - 1 - i)) := by
    intro l
    induction l with
    | nil => intro _ t _ _; rfl
    | cons i l ih =>
      intro hl t ht hb
      have hi := hl i (.head _)
      have e := slide_led (pr := pr) (r := t) (k := r.length - 1 - i) (by rw [ht]; exact sub_lt1 hi) hb
      rw [sub_top hi] at e
      rw [List.foldl_cons, List.flatMap_cons, led_app, e]
      have hw := range_ok (n := t.length) (show r.length - 1 - i < t.length by rw [ht]; exact sub_lt1 hi)
      exact ih (fun j hj => hl j (.tail _ hj)) _ ((led_len _ _ hw).trans ht) (hb.led _ hw)
  exact key _ (fun i hi => Nat.lt_sub_iff_add_lt.mp (List.mem_range.mp hi)) r rfl h
theorem slide_led1 {r : List Nat} (h : Beh pr r) (hr : 0 < r.length) : slide pr r = led pr r (List.range (r.length - 1)) := by
  have e := slide_led (pr := pr) (r := r) (k := r.length - 1) (Nat.sub_lt hr (by decide)) h
  rw [show r.length - 1 + 1 = r.length from Nat.sub_add_cancel hr, List.take_length, List.drop_length, List.append_nil] at e
  exact e
theorem slides_led {r : List Nat} (h : Beh pr r) (hr : 0 < r.length) : slidesF pr r = led pr r (turns r.length) := by
  have key : ∀ (l : List Nat), ∀ t : List Nat, t.length = r.length → Beh pr t → l.foldl (fun t _ => slide pr t) t = led pr t (l.flatMap fun _ => List.range (r.length - 1)) := by
    intro l
    induction l with
    | nil => intro t _ _; rfl
    | cons i l ih =>
      intro t ht hb
      have e := slide_led1 hb (by rw [ht]; exact hr)
      rw [ht] at e
      have hw := range_ok (n := t.length) (show r.length - 1 < t.length by rw [ht]; exact Nat.sub_lt hr (by decide))
      rw [List.foldl_cons, List.flatMap_cons, led_app, e]
      exact ih _ ((led_len _ _ hw).trans ht) (hb.led _ hw)
  exact key _ r rfl h
theorem stair_ok {n : Nat} : ∀ x ∈ stair n, x + 1 < n := fun x hx => by
  obtain ⟨i, hi, hx⟩ := List.mem_flatMap.mp hx
  exact Nat.lt_sub_iff_add_lt.mp (Nat.lt_of_lt_of_le (List.mem_range.mp hx) (Nat.sub_le ..))
theorem turns_ok {n : Nat} : ∀ x ∈ turns n, x + 1 < n := fun x hx => by
  obtain ⟨i, hi, hx⟩ := List.mem_flatMap.mp hx
  exact Nat.lt_sub_iff_add_lt.mp (List.mem_range.mp hx)
theorem rev_sub {k c : Nat} : k + 1 + 1 + c - 2 - k = c := by rw [Nat.sub_sub, Nat.add_comm 2 k]; exact Nat.add_sub_cancel_left ..
theorem rev_lt {m k : Nat} (h : k + 1 < m) : m - 2 - k + 1 < m := by
  obtain ⟨c, rfl⟩ := Nat.exists_eq_add_of_le h
  show k + 1 + 1 + c - 2 - k + 1 < k + 1 + 1 + c
  rw [rev_sub, Nat.add_comm _ c]
  exact Nat.add_lt_add_left (Nat.succ_lt_succ (Nat.succ_pos k)) c
theorem rev_len {m k u v : Nat} (h : k + 1 < m) (hu : u = m - 2 - k) (hl : m = u + (v + 2)) : v = k := by
  obtain ⟨c, rfl⟩ := Nat.exists_eq_add_of_le h
  have hc : u = c := hu.trans rev_sub
  rw [hc, Nat.add_comm c] at hl
  exact (Nat.add_right_cancel (m := 2) (Nat.add_right_cancel hl)).symm
theorem tog_rev {r : List Nat} {k : Nat} (h : k + 1 < r.length) : tog pr r.reverse k = (tog pr r (r.length - 2 - k)).reverse := by
  obtain ⟨u, a, b, v, e, hu⟩ := cut2 (r := r) (k := r.length - 2 - k) (rev_lt h)
  have hl : r.length = u.length + (v.length + 2) := by rw [e]; simp
  have e1 : tog pr r u.length = swp pr a b u v := by rw [e]; exact tog_eq rfl
  rw [hu] at e1
  rw [e1]
  rw [e, show (u ++ a :: b :: v).reverse = v.reverse ++ b :: a :: u.reverse by simp, tog_eq (by rw [List.length_reverse]; exact rev_len h hu hl)]
  unfold swp
  by_cases c : a ∈ pr b ∨ b ∈ pr a
  · rw [if_pos c, if_pos c.symm]; simp
  · rw [if_neg c, if_neg fun q => c q.symm]; simp
theorem led_rev : ∀ (w : List Nat) (r : List Nat), (∀ x ∈ w, x + 1 < r.length) → led pr r.reverse w = (led pr r (w.map fun x => r.length - 2 - x)).reverse
  | [], r, _ => rfl
  | x :: w, r, h => by
    have hx := h x (.head _)
    have hl : (tog pr r (r.length - 2 - x)).length = r.length := tog_len (rev_lt hx)
    show led pr (tog pr r.reverse x) w = _
    rw [tog_rev hx, led_rev w _ (fun y hy => by rw [hl]; exact h y (.tail _ hy)), hl]; rfl
theorem words_ok : ∀ n ∈ [3, 4, 5, 6], red (stair n ++ stair n) = [] ∧ red (List.range (n - 1) ++ stair n ++ List.range (n - 1) ++ (stair n).reverse) = [] ∧ red (stair n ++ ((stair n).map fun x => n - 2 - x) ++ (turns n).reverse) = [] := by decide +kernel
theorem size_in {n : Nat} (h : 3 ≤ n ∧ n ≤ 6) : n ∈ [3, 4, 5, 6] := by
  have : n = 3 ∨ n = 4 ∨ n = 5 ∨ n = 6 := by lia
  rcases this with rfl | rfl | rfl | rfl <;> decide
section
variable {r : List Nat} (hn : 3 ≤ r.length ∧ r.length ≤ 6) (hb : Beh pr r)
include hn hb
theorem evac_evac : led pr (led pr r (stair r.length)) (stair r.length) = r := by
  rw [← led_app]
  exact led_nil (fun x hx => (List.mem_append.mp hx).elim (stair_ok x) (stair_ok x)) (words_ok _ (size_in hn)).1
theorem slide_evac_slide : slide pr (led pr (slide pr r) (stair r.length)) = led pr r (stair r.length) := by
  have hr : ∀ x ∈ List.range (r.length - 1), x + 1 < r.length := range_ok (by lia)
  have hl1 := led_len (pr := pr) _ r hr
  have b1 := hb.led _ hr
  rw [slide_led1 hb (by lia)]
  have hs : ∀ x ∈ stair r.length, x + 1 < (led pr r (List.range (r.length - 1))).length := fun x hx => by rw [hl1]; exact stair_ok x hx
  have hl2 := led_len (pr := pr) _ _ hs
  rw [slide_led1 (b1.led _ hs) (by lia), hl2, hl1, ← led_app, ← led_app, ← List.append_assoc]
  refine led_same (fun x hx => ?_) stair_ok (words_ok _ (size_in hn)).2.1
  rcases List.mem_append.mp hx with hx | hx
  · exact (List.mem_append.mp hx).elim (hr x) (stair_ok x)
  · exact hr x hx
theorem slides_turned : (led pr (led pr r (stair r.length)).reverse (stair r.length)).reverse = slidesF pr r := by
  have hl := led_len (pr := pr) _ r stair_ok
  have hs : ∀ x ∈ stair r.length, x + 1 < (led pr r (stair r.length)).length := fun x hx => by rw [hl]; exact stair_ok x hx
  rw [led_rev _ _ hs, List.reverse_reverse, hl, ← led_app, slides_led hb (by lia)]
  refine led_same (fun x hx => ?_) turns_ok (words_ok _ (size_in hn)).2.2
  rcases List.mem_append.mp hx with hx | hx
  · exact stair_ok x hx
  · obtain ⟨y, hy, rfl⟩ := List.mem_map.mp hx
    exact rev_lt (stair_ok y hy)
end
noncomputable def lastI (L : List Nat) (q : Nat) (v : Int) : List Nat := ((List.range q).filter fun e => ((L[e]?.getD 0 : Nat) : Int) == v).drop (((List.range q).filter fun e => ((L[e]?.getD 0 : Nat) : Int) == v).length - 1)
noncomputable def preds3 (L : List Nat) (q : Nat) : List Nat := lastI L q (((L[q]?.getD 0 : Nat) : Int) - 1) ++ lastI L q (((L[q]?.getD 0 : Nat) : Int) + 1)
theorem lastI_mem {L : List Nat} {q e : Nat} {v : Int} (h : e ∈ lastI L q v) : e < q ∧ ((L[e]?.getD 0 : Nat) : Int) = v := by
  have := List.mem_filter.mp (List.mem_of_mem_drop h)
  exact ⟨List.mem_range.mp this.1, by simpa using this.2⟩
theorem lastI_len {L : List Nat} {q : Nat} {v : Int} : (lastI L q v).length ≤ 1 := by
  unfold lastI
  rw [List.length_drop]
  exact Nat.sub_le_iff_le_add'.mpr (Nat.sub_le_iff_le_add.mp (Nat.le_refl _))
theorem lastI_nd {L : List Nat} {q : Nat} {v : Int} : (lastI L q v).Nodup := (List.Pairwise.filter _ List.nodup_range).drop
theorem preds3_acy {L : List Nat} : Acy (preds3 L) where
  lt := fun k p hp => (List.mem_append.mp hp).elim (fun h => (lastI_mem h).1) fun h => (lastI_mem h).1
  nd := fun k => List.nodup_append.mpr ⟨lastI_nd, lastI_nd, fun x hx y hy q => by
    have h1 := (lastI_mem hx).2
    have h2 := (lastI_mem hy).2
    rw [q] at h1
    lia⟩
theorem preds3_len {L : List Nat} {k : Nat} : (preds3 L k).length < 100 := by
  unfold preds3
  rw [List.length_append]
  have h1 := lastI_len (L := L) (q := k) (v := ((L[k]?.getD 0 : Nat) : Int) - 1)
  have h2 := lastI_len (L := L) (q := k) (v := ((L[k]?.getD 0 : Nat) : Int) + 1)
  exact Nat.lt_of_le_of_lt (Nat.add_le_add h1 h2) (by decide)
noncomputable def ancB (pr : Nat → List Nat) : Nat → Nat → Nat → Bool
  | 0, _, _ => false
  | k + 1, p, q => (pr q).any fun m => m == p || (decide (p < m) && ancB pr k p m)
theorem anc_lin {n : Nat} {D : List Nat} (h : Lin pr n D) : ∀ (k p v : Nat) (pre post : List Nat), D = pre ++ v :: post → ancB pr k p v = true → p ∈ pre
  | 0, _, _, _, _, _, e => by cases e
  | k + 1, p, v, pre, post, hd, e => by
    unfold ancB at e
    obtain ⟨m, hm, e⟩ := List.any_eq_true.mp e
    have h1 := h.ord pre v post hd m hm
    rcases (Bool.or_eq_true _ _).mp e with e | e
    · rw [beq_iff_eq.mp e] at h1; exact h1
    · obtain ⟨p1, p2, rfl⟩ := List.append_of_mem h1
      exact List.mem_append_left _ (anc_lin h k p m p1 (p2 ++ v :: post) (by rw [hd]; simp) ((Bool.and_eq_true _ _).mp e).2)
noncomputable def ancL (pr : Nat → List Nat) (q : Nat) : List Nat := (List.range q).filter fun p => ancB pr 15 p q
theorem Lin.anc {n : Nat} {D : List Nat} (h : Lin pr n D) : Lin (ancL pr) n D := ⟨h.nd, h.mem, fun pre v post hd p hp => anc_lin h 15 p v pre post hd (List.mem_filter.mp hp).2⟩
theorem meet_far : ∀ n ∈ [3, 4, 5, 6], ∀ q ∈ List.range (stair n).length, ∀ p ∈ List.range q, ancB (preds3 (stair n)) 15 p q = true ∨ far ((stair n)[p]?.getD 0) ((stair n)[q]?.getD 0) = true := by decide +kernel
theorem stair_len : ∀ n ∈ [3, 4, 5, 6], (stair n).length < 16 := by decide +kernel
theorem led_order {n : Nat} {r D : List Nat} (hn : 3 ≤ n ∧ n ≤ 6) (hr : r.length = n) (hD : Lin (preds3 (stair n)) (stair n).length D) : led pr r (D.map fun p => (stair n)[p]?.getD 0) = led pr r (stair n) := by
  have hv : ∀ p, p < (stair n).length → (stair n)[p]?.getD 0 + 1 < n := fun p hp => by
    rw [List.getElem?_eq_getElem hp]
    exact stair_ok _ (List.getElem_mem _)
  have h0 : ∀ p, (stair n)[p]?.getD 0 + 1 < n := fun p => by
    rcases Nat.lt_or_ge p (stair n).length with h | h
    · exact hv p h
    · rw [List.getElem?_eq_none h]; show 0 + 1 < n; lia
  have h1 := lin_fold (α := List Nat) (f := fun p r => tog pr r ((stair n)[p]?.getD 0)) (ok := fun r => r.length = n) (preds := ancL (preds3 (stair n))) (fun p a ha => (tog_len (by rw [ha]; exact h0 p)).trans ha)
    (fun k p hp => List.mem_range.mp (List.mem_filter.mp hp).1) (stair n).length (fun p q a hpq hq hp ha => by
      have hm := meet_far n (size_in hn) q (List.mem_range.mpr hq) p (List.mem_range.mpr hpq)
      have hf : far ((stair n)[p]?.getD 0) ((stair n)[q]?.getD 0) = true := hm.resolve_left fun c => hp (List.mem_filter.mpr ⟨List.mem_range.mpr hpq, c⟩)
      exact (far_comm hf (by rw [ha]; exact h0 p) (by rw [ha]; exact h0 q)).symm) D r hD.anc hr
  have h2 : (List.range (stair n).length).map (fun p => (stair n)[p]?.getD 0) = stair n := by
    refine List.ext_getElem (by simp) fun i h1 h2 => ?_
    rw [List.getElem_map, List.getElem_range, List.getElem?_eq_getElem h2]; rfl
  unfold led
  rw [List.foldl_map, h1, ← List.foldl_map (f := fun p => (stair n)[p]?.getD 0) (g := tog pr), h2]
end

theorem pv_itemJ {P : Prog} {n : Nat} {sc : Scope} {bs : Bs} {σ : Store} {i k : Nat} {j : Int} {vs : List AV} {v : AV} (h : σ[i]? = some (.list vs)) (hj : j = (k : Int) ∧ k < 1000) (e : vs[k]? = some v) : Pv (getItemV (.ref i) (.int j) : Mm P n sc AV) bs σ v := by
  rw [hj.1]
  exact pv_itemN h (by lia) e
section
variable {bs : Bs} {σ : Store} {n : Nat} {sc : Scope}
theorem bsF_lit (f : Nat → UInt8) {w l : Nat} (h : (w = 2 ∧ l = 2) ∨ (w = 3 ∧ (l = 3 ∨ l = 6)) ∨ (w = 4 ∧ (l = 4 ∨ l = 8)) ∨ (w = 5 ∧ (l = 5 ∨ l = 10)) ∨ (w = 6 ∧ (l = 6 ∨ l = 12))) : bsF (w : Nat) ((List.range l).map f) = (((List.range l).map f).take w).reverse ++ (((List.range l).map f).drop w).reverse := by
  rcases h with ⟨rfl, rfl⟩ | ⟨rfl, rfl | rfl⟩ | ⟨rfl, rfl | rfl⟩ | ⟨rfl, rfl | rfl⟩ | ⟨rfl, rfl | rfl⟩ <;> kernel_rfl
theorem w_cases : ∀ {w : Nat}, 2 ≤ w ∧ w ≤ 6 → w = 2 ∨ w = 3 ∨ w = 4 ∨ w = 5 ∨ w = 6
  | 0, h => absurd h.1 (by decide)
  | 1, h => absurd h.1 (by decide)
  | 2, _ => .inl rfl
  | 3, _ => .inr (.inl rfl)
  | 4, _ => .inr (.inr (.inl rfl))
  | 5, _ => .inr (.inr (.inr (.inl rfl)))
  | 6, _ => .inr (.inr (.inr (.inr rfl)))
  | _ + 7, h => absurd (Nat.le_trans (Nat.le_add_left 7 _) h.2) (by decide)
theorem bsF_two {b : List UInt8} {w : Nat} (hw : 2 ≤ w ∧ w ≤ 6) (hb : b.length = w ∨ (3 ≤ w ∧ b.length = 2 * w)) : bsF w b = (b.take w).reverse ++ (b.drop w).reverse := by
  have e : (List.range b.length).map (fun i => b[i]?.getD 0) = b := by
    refine List.ext_getElem (by rw [List.length_map, List.length_range]) fun i h1 h2 => ?_
    rw [List.getElem_map, List.getElem_range, List.getElem?_eq_getElem h2]; rfl
  have h := bsF_lit (fun i => b[i]?.getD 0) (w := w) (l := b.length) (by
    rcases w_cases hw with rfl | rfl | rfl | rfl | rfl
    · exact .inl ⟨rfl, hb.resolve_right fun q => absurd q.1 (by decide)⟩
    · exact .inr (.inl ⟨rfl, hb.imp_right And.right⟩)
    · exact .inr (.inr (.inl ⟨rfl, hb.imp_right And.right⟩))
    · exact .inr (.inr (.inr (.inl ⟨rfl, hb.imp_right And.right⟩)))
    · exact .inr (.inr (.inr (.inr ⟨rfl, hb.imp_right And.right⟩))))
  rw [e] at h
  exact h
theorem swap_ok2 : ∀ w ∈ [2, 3, 4, 5, 6], ∀ l ∈ [w, 2 * w], ∀ i ∈ rangeInts 0 (l : Nat) (w : Nat), ∀ j ∈ rangeInts 0 (w : Nat) 1, 0 ≤ i + (w : Int) - 1 - j ∧ i + (w : Int) - 1 - j < (l : Nat) ∧ 0 ≤ i + j ∧ i + j < (l : Nat) := by decide +kernel
theorem asOctets_nats : ∀ {l : List Nat}, (∀ x ∈ l, x < 256) → asOctets (natsV l) = some (l.map UInt8.ofNat)
  | [], _ => rfl
  | x :: l, h => by
    have hx := h x (.head _)
    show asOctets (.int x :: natsV l) = _
    unfold asOctets
    rw [if_pos (by lia), asOctets_nats fun y hy => h y (.tail _ hy)]
    rfl
theorem back_nats {l : List Nat} (h : ∀ x ∈ l, x < 256) : (l.map UInt8.ofNat).map (fun u => AV.int u.toNat) = natsV l := by
  unfold natsV
  rw [List.map_map]
  refine List.map_congr_left fun x hx => ?_
  have := h x hx
  show AV.int ((UInt8.ofNat x).toNat : Int) = AV.int (x : Int)
  rw [UInt8.toNat_ofNat_of_lt' (by exact this)]
theorem turned_run {ra w : Nat} {l : List Nat} {Q : AV → Bs → Store → Prop} (hr : σ[ra]? = some (.list (natsV l))) (h256 : ∀ x ∈ l, x < 256) (hw : 2 ≤ w ∧ w ≤ 6) (hl : l.length = w ∨ (3 ≤ w ∧ l.length = 2 * w))
    (hq : ∀ t σ', Ext σ σ' → σ'[t]? = some (.list (natsV ((l.take w).reverse ++ (l.drop w).reverse))) → Q (.ref t) bs σ') : Hx (callA PP (n + 40) aTurned [.ref ra, .int w] : Mm PP (n + 40) sc AV) bs σ Q := by
  refine hx_up ?_
  refine hx_callE (bs₀ := [("row", .ref ra), ("width", .int w)]) (rest := []) rfl (by with_unfolding_all rfl) (by kernel_rfl) (by kernel_rfl) ?_
  refine hx_cons ?_
  have ho := asOctets_nats h256
  have hl12 : l.length ≤ 12 := hl.elim (fun h => h ▸ Nat.le_trans hw.2 (by decide)) fun h => h.2 ▸ Nat.mul_le_mul_left 2 hw.2
  have hlen : (l.map UInt8.ofNat).length < 1000 := by rw [List.length_map]; exact Nat.lt_of_le_of_lt hl12 (by decide)
  have hlen2 : (l.map UInt8.ofNat).length ≤ 1000000 := Nat.le_trans (Nat.le_of_lt hlen) (by decide)
  refine hs_assign (by kernel_rfl) (by kernel_rfl) ?_
  refine hx_call rfl ?_
  refine hx_pv (pv_glob (by kernel_rfl) (by with_unfolding_all rfl)) ?_
  refine hx_args1 rfl ?_
  refine hx_call rfl ?_
  refine hx_pv (pv_glob (by kernel_rfl) (by with_unfolding_all rfl)) ?_
  refine hx_args1 rfl ?_
  refine hx_pv (pv_name (by kernel_rfl) (by with_unfolding_all rfl)) ?_
  refine hx_args0 (hx_callT ?_)
  refine hx_pv (pv_bytesL hr ho hlen2) ?_
  refine hx_args1 rfl ?_
  refine hx_pv (pv_name (by kernel_rfl) (by with_unfolding_all rfl)) ?_
  refine hx_args0 (hx_callF rfl ?_)
  refine byteswap_run hlen ⟨Int.natCast_pos.mpr (Nat.lt_of_lt_of_le (by decide) hw.1), Int.ofNat_lt.mpr (Nat.lt_of_le_of_lt hw.2 (by decide))⟩ ?_ fun σ₁ e₁ => ?_
  · rw [List.length_map]
    refine swap_ok2 w ?_ l.length ?_
    · rcases w_cases hw with rfl | rfl | rfl | rfl | rfl <;> decide
    · rcases hl with h | h
      · rw [h]; exact .head _
      · rw [h.2]; exact .tail _ (.head _)
  rw [bsF_two hw (by rw [List.length_map]; exact hl)]
  have hb : ((l.map UInt8.ofNat).take w).reverse ++ ((l.map UInt8.ofNat).drop w).reverse = ((l.take w).reverse ++ (l.drop w).reverse).map UInt8.ofNat := by
    rw [List.map_append, List.map_reverse, List.map_reverse, List.map_take, List.map_drop]
  rw [hb]
  have h2 : ∀ x ∈ (l.take w).reverse ++ (l.drop w).reverse, x < 256 := fun x hx => by
    rcases List.mem_append.mp hx with h | h
    · exact h256 x (List.mem_of_mem_take (List.mem_reverse.mp h))
    · exact h256 x (List.mem_of_mem_drop (List.mem_reverse.mp h))
  have hll : ((l.take w).reverse ++ (l.drop w).reverse).length ≤ 1000000 := by
    rw [List.length_append, List.length_reverse, List.length_reverse, ← List.length_append, List.take_append_drop]; exact Nat.le_trans hl12 (by decide)
  generalize (l.take w).reverse ++ (l.drop w).reverse = m at h2 hll hq ⊢
  refine seq_next (hx_cons ?_)
  with_reducible apply hs_ifH
  (with_reducible apply hx_tVal); · rfl
  refine hx_call rfl ?_
  refine hx_pv (pv_glob (by kernel_rfl) (by with_unfolding_all rfl)) ?_
  refine hx_args1 rfl ?_
  refine hx_pv (pv_name (by kernel_rfl) (by with_unfolding_all rfl)) ?_
  refine hx_args1 rfl ?_
  refine hx_pv (pv_glob (by kernel_rfl) (by with_unfolding_all rfl)) ?_
  refine hx_args0 ?_
  with_reducible apply hx_callB
  refine hx_pv pv_isB ⟨true, rfl, fun _ => ?_, fun q => (by cases q)⟩
  refine hx_cons ?_
  with_reducible apply hs_ret
  refine hx_call rfl ?_
  refine hx_pv (pv_glob (by kernel_rfl) (by with_unfolding_all rfl)) ?_
  refine hx_args1 rfl ?_
  refine hx_pv (pv_name (by kernel_rfl) (by with_unfolding_all rfl)) ?_
  refine hx_args0 (hx_callT ?_)
  refine hx_listB (by rw [back_nats h2, natsV_len]; exact hll) ?_
  rw [back_nats h2]
  exact hq _ _ e₁.app st_new
end

section
variable {bs : Bs} {σ : Store} {n : Nat} {sc : Scope}
noncomputable def preds1 (cl : List Int) (late : Nat) : List Nat := (List.range (min late 20)).filter fun (e : Nat) => (cl[late - 1]?.getD 0) / 2 ^ ((e : Nat) : Int).toNat % 2 == 1
theorem preds1_acy {cl : List Int} : Acy (preds1 cl) :=
  ⟨fun k p hp => by have := List.mem_range.mp (List.mem_filter.mp hp).1; lia, fun k => List.Pairwise.filter _ List.nodup_range⟩
theorem preds1_len {cl : List Int} {k : Nat} : (preds1 cl k).length < 100 := by
  have := List.length_filter_le (fun (e : Nat) => (cl[k - 1]?.getD 0) / 2 ^ ((e : Nat) : Int).toNat % 2 == 1) (List.range (min k 20))
  rw [List.length_range] at this
  unfold preds1
  lia
theorem range1_items {s : Nat} (h : 3 ≤ s ∧ s ≤ 6) : (rangeInts 1 s 1).map (fun k => Item.one (.int k)) = (List.range (s - 1)).map fun (i : Nat) => Item.one (.int ((i + 1 : Nat) : Int)) := by
  have : s = 3 ∨ s = 4 ∨ s = 5 ∨ s = 6 := by lia
  rcases this with rfl | rfl | rfl | rfl <;> kernel_rfl
theorem pow_ok {e : Nat} (h : e < 62) : (0 : Int) < 2 ^ ((e : Nat) : Int).toNat ∧ (2 : Int) ^ ((e : Nat) : Int).toNat < 2 ^ 62 := by
  rw [Int.toNat_natCast]
  refine ⟨Int.pow_pos (by decide), ?_⟩
  have h1 : (2 : Nat) ^ e < 2 ^ 62 := Nat.pow_lt_pow_right (by decide) h
  exact_mod_cast h1
theorem needs1_run {ca s : Nat} {cl : List Int} {Q : AV → Bs → Store → Prop} (hc : σ[ca]? = some (.list (cl.map AV.int))) (hl : cl.length = 7) (hs : 3 ≤ s ∧ s ≤ 6)
    (hq : ∀ di pl σ', Ext σ σ' → Needs di s pl (preds1 cl) σ' → Q (.ref di) bs σ') : Hx (callA PP (n + 50) aNeeds [.ref ca, .int s] : Mm PP (n + 50) sc AV) bs σ Q := by
  refine hx_up ?_
  refine hx_callE (bs₀ := [("cells", .ref ca), ("size", .int s)]) (rest := []) rfl (by with_unfolding_all rfl) (by kernel_rfl) (by kernel_rfl) ?_
  refine hx_cons ?_
  refine hs_assign (by kernel_rfl) (by kernel_rfl) (hx_dict1 ?_)
  have h1 : (σ ++ [AO.list []] ++ [AO.dict [(0, .ref σ.length)]])[σ.length]? = some (.list []) := st_old st_new
  have h2 : (σ ++ [AO.list []] ++ [AO.dict [(0, .ref σ.length)]])[σ.length + 1]? = some (.dict (esOf 1 fun _ => σ.length)) := by
    have : (σ ++ [AO.list []] ++ [AO.dict [(0, .ref σ.length)]])[(σ ++ [AO.list []]).length]? = some (.dict [(0, .ref σ.length)]) := st_new
    rw [List.length_append] at this
    exact this
  have e0 : Ext σ (σ ++ [AO.list []] ++ [AO.dict [(0, .ref σ.length)]]) := Ext.refl.app.app
  have hlo : σ.length ≤ σ.length + 1 := Nat.le_succ _
  generalize (σ ++ [AO.list []] ++ [AO.dict [(0, .ref σ.length)]]) = σ₀ at h1 h2 e0 ⊢
  generalize σ.length + 1 = di at h2 hlo ⊢
  have hsm : small (s : Int) = true := sm (Nat.lt_of_le_of_lt hs.2 (by decide))
  have hsm2 : (small 1 && small (s : Int) && small 1 && (1 : Int) != 0) = true := by rw [hsm]; decide
  have hsm3 : (small 1 && small (s : Int)) = true := by rw [hsm]; decide
  refine seq_next (hx_cons ?_)
  (with_reducible apply hs_for); · kernel_rfl
  refine hx_call rfl ?_
  refine hx_pv (pv_glob (by kernel_rfl) (by with_unfolding_all rfl)) ?_
  refine hx_args1 rfl ?_
  refine hx_pv pv_int ?_
  refine hx_args1 rfl ?_
  refine hx_pv (pv_name (by kernel_rfl) (by with_unfolding_all rfl)) ?_
  refine hx_args0 (hx_callT ?_)
  (with_reducible apply hx_range2); · assumption
  (with_reducible apply runFor_range); (· with_reducible exact st_new); · assumption
  rw [range1_items hs]
  refine hx_forPre (B := fun _ => [("needs", .ref di), ("cells", .ref ca)]) (S := fun pre σ' => Ext σ σ' ∧ σ'[σ₀.length]? = some (.range 1 s 1) ∧ ∃ pl, σ'[di]? = some (.dict (esOf (pre.length + 1) pl)) ∧ ∀ i, i < pre.length + 1 → σ'[pl i]? = some (.list (natsV (preds1 cl i))))
    (fun pre σ' h => h.2.1) (fun pre x post σ' hpre h => ?_) ⟨e0.app, st_new, fun _ => σ.length, st_old h2, fun i h => ?_⟩ (by (refine Sub.cons (by with_unfolding_all rfl) ?_; refine Sub.cons (by with_unfolding_all rfl) ?_; with_reducible exact Sub.nil)) (fun σ' bs' h hb => ?_)
  · obtain ⟨he, hr, pl, hd, hpl⟩ := h
    obtain ⟨rfl, hlt⟩ := range_split hpre
    have hcc := he.get hc
    have hp6 : pre.length + 1 ≤ s := Nat.succ_le_of_lt (Nat.lt_of_lt_of_le hlt (Nat.sub_le ..))
    have hp7 : pre.length + 1 < 1000 := Nat.lt_of_le_of_lt (Nat.le_trans hp6 hs.2) (by decide)
    have hpc : pre.length < cl.length := by rw [hl]; exact Nat.lt_of_lt_of_le hp6 (Nat.le_trans hs.2 (by decide))
    have hsm3 : small ((pre.length + 1 : Nat) : Int) = true := sm hp7
    have hsm4 : (small 0 && small ((pre.length + 1 : Nat) : Int) && small 1 && (1 : Int) != 0) = true := by rw [hsm3]; decide
    have hg : cl[pre.length]? = some (cl[pre.length]'hpc) := List.getElem?_eq_getElem _
    have hpr : preds1 cl (pre.length + 1) = (List.range (pre.length + 1)).filter fun (e : Nat) => (cl[pre.length]'hpc) / 2 ^ ((e : Nat) : Int).toNat % 2 == 1 := by
      unfold preds1
      rw [Nat.min_eq_left (Nat.le_trans hp6 (Nat.le_trans hs.2 (by decide))), Nat.add_sub_cancel, hg]; rfl
    have hJ : ((pre.length + 1 : Nat) : Int) - 1 = (pre.length : Nat) ∧ pre.length < 1000 := ⟨Int.add_sub_cancel (pre.length : Int) 1, Nat.lt_of_succ_lt hp7⟩
    have hv : (cl.map AV.int)[pre.length]? = some (.int (cl[pre.length]'hpc)) := by rw [List.getElem?_map, hg]; rfl
    generalize cl[pre.length]'hpc = c at hpr hv
    (with_reducible apply hx_bindN); · kernel_rfl
    refine hx_cons ?_
    with_reducible apply hs_item
    (with_reducible apply hx_comp); · kernel_rfl
    refine hx_call rfl ?_
    refine hx_pv (pv_glob (by kernel_rfl) (by with_unfolding_all rfl)) ?_
    refine hx_args1 rfl ?_
    refine hx_pv (pv_name (by kernel_rfl) (by with_unfolding_all rfl)) ?_
    refine hx_args0 (hx_callT ?_)
    (with_reducible apply hx_range1); · assumption
    (with_reducible apply runComp_range); (· with_reducible exact st_new); · assumption
    rw [range_items]
    refine hx_compN (ι := Nat) (fun i => .int i) (fun e => c / 2 ^ ((e : Nat) : Int).toNat % 2 == 1) (fun i => .int i) (by kernel_rfl) (by with_unfolding_all rfl) st_new (fun e hi => ?_) (fun e hi _ => ?_) fun bs' => ?_
    · have hi := List.mem_range.mp hi
      have hp2 := pow_ok (e := e) (by lia)
      have h60 : (0 : Int) ≤ (e : Int) ∧ (e : Int) < 60 := by lia
      refine pv_tests1 ?_
      (with_reducible apply pv_tCmp); (· kernel_rfl); (· (with_reducible apply pv_bin); (· (with_reducible apply pv_bin); (· (with_reducible apply pv_item); (· kernel_rfl); (· exact pv_name (by kernel_rfl) (by with_unfolding_all rfl)); (· (with_reducible apply pv_bin); (· exact pv_name (by kernel_rfl) (by with_unfolding_all rfl)); (· with_reducible exact pv_int); · with_reducible exact pv_sub); · (with_reducible apply pv_itemJ); (· (with_reducible apply st_old); with_reducible assumption); (· assumption); · assumption); (· (with_reducible apply pv_bin); (· with_reducible exact pv_int); (· exact pv_name (by kernel_rfl) (by with_unfolding_all rfl)); · (with_reducible apply pv_pow); assumption); · (with_reducible apply pv_div); assumption); (· with_reducible exact pv_int); · (with_reducible apply pv_mod); lia); (· with_reducible exact pv_int); · with_reducible exact pv_eqI
    · exact pv_name (by kernel_rfl) (by with_unfolding_all rfl)
    rw [← hpr]
    show NewC (natsV (preds1 cl (pre.length + 1))) _ _ _
    have hpl2 := preds1_len (cl := cl) (k := pre.length + 1)
    have hel : (esOf (pre.length + 1) pl).length < 1000 := by rw [esOf_len]; exact hp7
    have hrn := ne_of hd hr (fun h => by cases h)
    (with_reducible apply hx_newC); · simp only [List.length_append, List.length_map, List.length_cons, List.length_nil, List.length_replicate, List.length_range, natsV_len]; lia
    refine hx_pv (pv_name (by kernel_rfl) (by with_unfolding_all rfl)) ?_
    refine hx_pv (pv_name (by kernel_rfl) (by with_unfolding_all rfl)) ?_
    (with_reducible apply hx_setitemD); (· (with_reducible apply st_old); (with_reducible apply st_old); with_reducible assumption); · assumption
    refine seq_next ?_
    with_reducible apply hx_nil
    rw [esOf_succ]
    refine ⟨.inl rfl, by (refine Sub.cons (by with_unfolding_all rfl) ?_; refine Sub.cons (by with_unfolding_all rfl) ?_; with_reducible exact Sub.nil), by ((with_reducible apply Ext.set); (· (with_reducible apply Ext.app); (with_reducible apply Ext.app); assumption); · lia), by ((with_reducible apply st_set_ne); (· assumption); · (with_reducible apply st_old); (with_reducible apply st_old); with_reducible assumption), fup pl (pre.length + 1) (σ' ++ [AO.range 0 ((pre.length + 1 : Nat) : Int) 1]).length, ?_, fun i hi => ?_⟩
    · rw [show (pre ++ [pre.length]).length = pre.length + 1 by simp]
      exact st_set (st_old (st_old hd))
    · rw [List.length_append, List.length_singleton] at hi
      by_cases e : i = pre.length + 1
      · subst e
        rw [fup_self]
        exact st_set_ne (by have := lt_of hd; rw [List.length_append]; lia) st_new
      · rw [fup_ne e]
        have h1 := hpl i (by lia)
        exact st_set_ne (ne_of hd h1 fun h => by cases h) (st_old (st_old h1))
  · obtain rfl : i = 0 := by simpa using h
    exact st_old h1
  · obtain ⟨he, hr, pl, hd, hpl⟩ := h
    refine Hx.sub ?_ hb
    refine hx_cons ?_
    with_reducible apply hs_ret
    refine hx_pv (pv_name (by kernel_rfl) (by with_unfolding_all rfl)) ?_
    with_reducible apply seq_ret
    rw [List.length_range, show s - 1 + 1 = s by lia] at hd hpl
    exact hq di pl σ' he ⟨hd, hpl, preds1_acy.lt, fun k => preds1_len⟩
end

section
variable {bs : Bs} {σ : Store} {n : Nat} {sc : Scope}
theorem esOf_put {n i : Nat} {a : Nat → Nat} {v : Nat} (h : i < n) : dput (esOf n a) i (.ref v) = esOf n (fup a i v) := by
  have key : ∀ (l : List Nat), l.Nodup → i ∈ l → dput (l.map fun (i : Nat) => ((i : Int), AV.ref (a i))) i (.ref v) = l.map fun (j : Nat) => ((j : Int), AV.ref (fup a i v j)) := by
    intro l
    induction l with
    | nil => intro _ h; cases h
    | cons j l ih =>
      intro hn hi
      rw [List.nodup_cons] at hn
      rw [List.map_cons, List.map_cons]
      unfold dput
      by_cases e : j = i
      · subst e
        rw [if_pos rfl, fup_self]
        congr 1
        exact List.map_congr_left fun k hk => by rw [fup_ne (fun (q : k = j) => hn.1 (q ▸ hk))]
      · rw [if_neg (by lia), fup_ne e, ih hn.2 ((List.mem_cons.mp hi).resolve_left fun q => e q.symm)]
  exact key _ List.nodup_range (List.mem_range.mpr h)
theorem clamp_last {m : Nat} : clamp (-1) m = m - 1 := by
  unfold clamp
  rw [if_neg (by decide)]
  cases m with
  | zero => rfl
  | succ k =>
    show (-1 + ((k : Int) + 1)).toNat = k
    rw [Int.add_comm, Int.add_neg_cancel_right]; rfl
theorem meet_run {la : Nat} {L : List Nat} {Q : AV → Bs → Store → Prop} (hL : σ[la]? = some (.list (natsV L))) (hl : L.length < 16)
    (hq : ∀ di pl σ', Ext σ σ' → Needs di L.length pl (preds3 L) σ' → Q (.ref di) bs σ') : Hx (callA PP (n + 50) aMeet [.ref la] : Mm PP (n + 50) sc AV) bs σ Q := by
  refine hx_up ?_
  refine hx_callE (bs₀ := [("letters", .ref la)]) (rest := []) rfl (by with_unfolding_all rfl) (by kernel_rfl) (by kernel_rfl) ?_
  refine hx_cons ?_
  refine hs_assign (by kernel_rfl) (by kernel_rfl) ?_
  with_reducible apply hx_dict0
  refine seq_next (hx_cons ?_)
  (with_reducible apply hs_for); · kernel_rfl
  refine hx_call rfl ?_
  refine hx_pv (pv_glob (by kernel_rfl) (by with_unfolding_all rfl)) ?_
  refine hx_args1 rfl ?_
  (with_reducible apply hx_pv); · (with_reducible apply pv_call1); (· rfl); (· rfl); (· exact pv_glob (by kernel_rfl) (by with_unfolding_all rfl)); (· exact pv_name (by kernel_rfl) (by with_unfolding_all rfl)); · (with_reducible apply pv_lenL); (with_reducible apply st_old); with_reducible assumption
  refine hx_args0 (hx_callT ?_)
  rw [natsV_len]
  have hsm : small (L.length : Int) = true := by unfold small; rw [decide_eq_true_eq]; lia
  have hsm2 : (small 0 && small (L.length : Int) && small 1 && (1 : Int) != 0) = true := by rw [hsm]; decide
  (with_reducible apply hx_range1); · assumption
  (with_reducible apply runFor_range); (· with_reducible exact st_new); · assumption
  rw [range_items]
  refine hx_forPre (B := fun _ => [("needs", .ref σ.length), ("letters", .ref la)]) (S := fun pre σ' => Ext σ σ' ∧ σ'[σ.length + 1]? = some (.range 0 L.length 1) ∧ ∃ pl, σ'[σ.length]? = some (.dict (esOf pre.length pl)) ∧ ∀ i, i < pre.length → σ'[pl i]? = some (.list (natsV (preds3 L i))))
    (fun pre σ' h => ?_) (fun pre x post σ' hpre h => ?_) ⟨Ext.refl.app.app, ?_, fun _ => 0, st_old st_new, fun i h => absurd h (Nat.not_lt_zero i)⟩ (by (with_reducible exact Sub.refl)) (fun σ' bs' h hb => ?_)
  · rw [List.length_append]; exact h.2.1
  · obtain ⟨he, hr, pl, hd, hpl⟩ := h
    obtain ⟨rfl, hlt⟩ := range_split hpre
    have hLL := he.get hL
    have hsm3 : small (pre.length : Int) = true := by unfold small; rw [decide_eq_true_eq]; lia
    have hsm4 : (small 0 && small (pre.length : Int) && small 1 && (1 : Int) != 0) = true := by rw [hsm3]; decide
    have hel : (esOf pre.length pl).length < 1000 := by rw [esOf_len]; lia
    have hg : L[pre.length]? = some L[pre.length] := List.getElem?_eq_getElem hlt
    have hB : (natsV L)[pre.length]? = some (.int (L[pre.length] : Nat)) := by unfold natsV; rw [List.getElem?_map, hg]; rfl
    have hp3 : preds3 L pre.length = lastI L pre.length (((L[pre.length] : Nat) : Int) - 1) ++ lastI L pre.length (((L[pre.length] : Nat) : Int) + 1) := by
      unfold preds3; rw [hg]; rfl
    generalize L[pre.length] = x at hB hp3
    (with_reducible apply hx_bindN); · kernel_rfl
    refine hx_cons ?_
    with_reducible apply hs_item
    with_reducible apply hx_list
    with_reducible apply hx_evs0
    (with_reducible apply hx_newL); · decide
    refine hx_pv (pv_name (by kernel_rfl) (by with_unfolding_all rfl)) ?_
    refine hx_pv (pv_name (by kernel_rfl) (by with_unfolding_all rfl)) ?_
    (with_reducible apply hx_setitemD); (· (with_reducible apply st_old); with_reducible assumption); · assumption
    refine seq_next (hx_cons ?_)
    (with_reducible apply hs_for); · kernel_rfl
    rw [esOf_succ]
    have he₁ : Ext σ ((σ' ++ [AO.list []]).set σ.length (.dict (esOf (pre.length + 1) (fup pl pre.length σ'.length)))) := he.app.set (Nat.le_refl _)
    have hd₁ : ((σ' ++ [AO.list []]).set σ.length (.dict (esOf (pre.length + 1) (fup pl pre.length σ'.length))))[σ.length]? = some (.dict (esOf (pre.length + 1) (fup pl pre.length σ'.length))) := st_set (st_old hd)
    have hr₁ := st_set_ne (o' := .dict (esOf (pre.length + 1) (fup pl pre.length σ'.length))) (ne_of hd hr (fun h => by cases h)) (st_old (t := [AO.list []]) hr)
    have ha₁ : ((σ' ++ [AO.list []]).set σ.length (.dict (esOf (pre.length + 1) (fup pl pre.length σ'.length))))[fup pl pre.length σ'.length pre.length]? = some (.list (natsV (([] : List Int).flatMap (lastI L pre.length)))) := by
      rw [fup_self]
      exact st_set_ne (by have := lt_of hd; lia) st_new
    have hp₁ : ∀ i, i < pre.length → ((σ' ++ [AO.list []]).set σ.length (.dict (esOf (pre.length + 1) (fup pl pre.length σ'.length))))[fup pl pre.length σ'.length i]? = some (.list (natsV (preds3 L i))) := fun i hi => by
      rw [fup_ne (Nat.ne_of_lt hi)]
      exact st_set_ne (ne_of hd (hpl i hi) fun h => by cases h) (st_old (hpl i hi))
    generalize fup pl pre.length σ'.length = pl₁ at hd₁ ha₁ hp₁ he₁ hr₁ ⊢
    generalize (σ' ++ [AO.list []]).set σ.length (.dict (esOf (pre.length + 1) pl₁)) = σ₁ at hd₁ ha₁ hp₁ he₁ hr₁ ⊢
    have hLL := he₁.get hL
    refine hx_tup ?_
    (with_reducible apply hx_evs1); · rfl
    (with_reducible apply hx_pv); · (with_reducible apply pv_bin); (· (with_reducible apply pv_item); (· kernel_rfl); (· exact pv_name (by kernel_rfl) (by with_unfolding_all rfl)); (· exact pv_name (by kernel_rfl) (by with_unfolding_all rfl)); · (with_reducible apply pv_itemN); (· with_reducible assumption); (· lia); · assumption); (· with_reducible exact pv_int); · with_reducible exact pv_sub
    (with_reducible apply hx_evs1); · rfl
    (with_reducible apply hx_pv); · (with_reducible apply pv_bin); (· (with_reducible apply pv_item); (· kernel_rfl); (· exact pv_name (by kernel_rfl) (by with_unfolding_all rfl)); (· exact pv_name (by kernel_rfl) (by with_unfolding_all rfl)); · (with_reducible apply pv_itemN); (· with_reducible assumption); (· lia); · assumption); (· with_reducible exact pv_int); · with_reducible exact pv_add
    with_reducible apply hx_evs0
    refine hx_newT (Nat.le_of_ble_eq_true rfl) ?_
    (with_reducible apply runFor_tuple); · with_reducible exact st_new
    show Hx (forItems _ _ _ _ _ _ _ (([(x : Int) - 1, (x : Int) + 1] : List Int).map fun v => Item.one (.int v))) _ _ _
    have hdk : dget (esOf (pre.length + 1) pl₁) pre.length = some (.ref (pl₁ pre.length)) := dget_esOf (Nat.lt_succ_self _)
    refine hx_forPre (B := fun _ => [("late", .int pre.length), ("needs", .ref σ.length), ("letters", .ref la)]) (S := fun pre2 σ'' => Ext σ σ'' ∧ σ''[σ.length + 1]? = some (.range 0 L.length 1) ∧ σ''[σ₁.length]? = some (.tuple [.int ((x : Int) - 1), .int ((x : Int) + 1)]) ∧
        ∃ pl2, σ''[σ.length]? = some (.dict (esOf (pre.length + 1) pl2)) ∧ (∀ i, i < pre.length → σ''[pl2 i]? = some (.list (natsV (preds3 L i)))) ∧ σ''[pl2 pre.length]? = some (.list (natsV (pre2.flatMap (lastI L pre.length)))))
      (fun pre2 σ'' h => h.2.2.1) (fun pre2 v post2 σ'' hpre2 h => ?_) ⟨he₁.app, st_old hr₁, st_new, pl₁, st_old hd₁, fun i hi => st_old (hp₁ i hi), st_old ha₁⟩ (by (with_reducible exact Sub.refl)) (fun σ'' bs' h hb => ?_)
    · obtain ⟨he₂, hr₂, ht₂, pl2, hd₂, hp₂, ha₂⟩ := h
      have hLL := he₂.get hL
      have hdk : dget (esOf (pre.length + 1) pl2) pre.length = some (.ref (pl2 pre.length)) := dget_esOf (Nat.lt_succ_self _)
      (with_reducible apply hx_bindN); · kernel_rfl
      refine hx_cons ?_
      with_reducible apply hs_item
      with_reducible apply hx_bin
      (with_reducible apply hx_pv); · (with_reducible apply pv_item); (· kernel_rfl); (· exact pv_name (by kernel_rfl) (by with_unfolding_all rfl)); (· exact pv_name (by kernel_rfl) (by with_unfolding_all rfl)); · (with_reducible apply pv_itemD); (· with_reducible assumption); · assumption
      refine hx_slice ?_
      (with_reducible apply hx_comp); · kernel_rfl
      refine hx_call rfl ?_
      refine hx_pv (pv_glob (by kernel_rfl) (by with_unfolding_all rfl)) ?_
      refine hx_args1 rfl ?_
      refine hx_pv (pv_name (by kernel_rfl) (by with_unfolding_all rfl)) ?_
      refine hx_args0 (hx_callT ?_)
      (with_reducible apply hx_range1); · assumption
      (with_reducible apply runComp_range); (· with_reducible exact st_new); · assumption
      rw [range_items]
      refine hx_compN (ι := Nat) (fun i => .int i) (fun e => ((L[e]?.getD 0 : Nat) : Int) == v) (fun i => .int i) (by kernel_rfl) (by with_unfolding_all rfl) st_new (fun e hi => ?_) (fun e hi _ => ?_) fun bs' => ?_
      · have hi := List.mem_range.mp hi
        have hA : (natsV L)[e]? = some (.int ((L[e]?.getD 0 : Nat) : Int)) := by
          unfold natsV
          rw [List.getElem?_map, List.getElem?_eq_getElem (show e < L.length by lia)]; rfl
        refine pv_tests1 ?_
        (with_reducible apply pv_tCmp); (· kernel_rfl); (· (with_reducible apply pv_item); (· kernel_rfl); (· exact pv_name (by kernel_rfl) (by with_unfolding_all rfl)); (· exact pv_name (by kernel_rfl) (by with_unfolding_all rfl)); · (with_reducible apply pv_itemN); (· (with_reducible apply st_old); with_reducible assumption); (· lia); · assumption); (· exact pv_name (by kernel_rfl) (by with_unfolding_all rfl)); · with_reducible exact pv_eqI
      · exact pv_name (by kernel_rfl) (by with_unfolding_all rfl)
      have hfl := List.length_filter_le (fun e => ((L[e]?.getD 0 : Nat) : Int) == v) (List.range pre.length)
      rw [List.length_range] at hfl
      have hla : ∀ F : List Nat, (natsV F).drop (clamp (-1) (natsV F).length) = natsV (F.drop (F.length - 1)) := fun F => by
        rw [clamp_last, natsV_len]
        unfold natsV
        rw [List.map_drop]
      show NewC (natsV ((List.range pre.length).filter fun e => ((L[e]?.getD 0 : Nat) : Int) == v)) _ _ _
      (with_reducible apply hx_newC); · simp only [List.length_append, List.length_map, List.length_cons, List.length_nil, List.length_replicate, List.length_range, natsV_len]; lia
      refine hx_pv (pv_opt (by ((with_reducible apply pv_neg); with_reducible exact pv_int))) (hx_pv pv_opt0 (hx_pv pv_opt0 (hx_sliceL st_new (hx_from (by decide) (by rw [natsV_len]; lia) ?_))))
      rw [hla]
      show Hx (binV .Add (.ref (pl2 pre.length)) (.ref (σ'' ++ [AO.range 0 (pre.length : Int) 1] ++ [_]).length)) _ (σ'' ++ [AO.range 0 (pre.length : Int) 1] ++ [_] ++ [AO.list (natsV (lastI L pre.length v))]) _
      generalize natsV ((List.range pre.length).filter fun e => ((L[e]?.getD 0 : Nat) : Int) == v) = F
      have hl1 : (natsV (pre2.flatMap (lastI L pre.length))).length + (natsV (lastI L pre.length v)).length ≤ 100 := by
        have h2 := lastI_len (L := L) (q := pre.length) (v := v)
        have h3 : ∀ l : List Int, (l.flatMap (lastI L pre.length)).length ≤ l.length := fun l => by
          induction l with
          | nil => exact Nat.le_refl _
          | cons a l ih =>
            rw [List.flatMap_cons, List.length_append, List.length_cons]
            have := lastI_len (L := L) (q := pre.length) (v := a)
            lia
        have h4 := h3 pre2
        have h5 := congrArg List.length hpre2
        simp at h5
        rw [natsV_len, natsV_len]
        lia
      have hl2 : (natsV (pre2.flatMap (lastI L pre.length)) ++ natsV (lastI L pre.length v)).length ≤ 1000000 := by rw [List.length_append]; lia
      have hel2 : (esOf (pre.length + 1) pl2).length < 1000 := by rw [esOf_len]; lia
      (with_reducible apply hx_cat); (· (with_reducible apply st_old); (with_reducible apply st_old); (with_reducible apply st_old); with_reducible assumption); (· with_reducible exact st_new); · assumption
      refine hx_pv (pv_name (by kernel_rfl) (by with_unfolding_all rfl)) ?_
      refine hx_pv (pv_name (by kernel_rfl) (by with_unfolding_all rfl)) ?_
      (with_reducible apply hx_setitemD); (· (with_reducible apply st_old); (with_reducible apply st_old); (with_reducible apply st_old); (with_reducible apply st_old); with_reducible assumption); · assumption
      refine seq_next ?_
      with_reducible apply hx_nil
      rw [esOf_put (Nat.lt_succ_self _), ← natsV_app]
      have hfm : (pre2 ++ [v]).flatMap (lastI L pre.length) = pre2.flatMap (lastI L pre.length) ++ lastI L pre.length v := by simp
      rw [hfm]
      refine ⟨.inl rfl, by (refine Sub.cons (by with_unfolding_all rfl) ?_; refine Sub.cons (by with_unfolding_all rfl) ?_; refine Sub.cons (by with_unfolding_all rfl) ?_; with_reducible exact Sub.nil), by ((with_reducible apply Ext.set); (· (with_reducible apply Ext.app); (with_reducible apply Ext.app); (with_reducible apply Ext.app); (with_reducible apply Ext.app); assumption); · lia), ?_, ?_, fup pl2 pre.length (σ'' ++ [AO.range 0 (pre.length : Int) 1] ++ [AO.list F] ++ [AO.list (natsV (lastI L pre.length v))]).length, ?_, fun i hi => ?_, ?_⟩
      · exact st_set_ne (ne_of hd₂ hr₂ (fun h => by cases h)) (st_old (st_old (st_old (st_old hr₂))))
      · exact st_set_ne (ne_of hd₂ ht₂ (fun h => by cases h)) (st_old (st_old (st_old (st_old ht₂))))
      · exact st_set (st_old (st_old (st_old (st_old hd₂))))
      · rw [fup_ne (Nat.ne_of_lt hi)]
        exact st_set_ne (ne_of hd₂ (hp₂ i hi) (fun h => by cases h)) (st_old (st_old (st_old (st_old (hp₂ i hi)))))
      · rw [fup_self]
        exact st_set_ne (by have := lt_of hd₂; rw [List.length_append, List.length_append, List.length_append]; lia) st_new
    · obtain ⟨he₂, hr₂, ht₂, pl2, hd₂, hp₂, ha₂⟩ := h
      refine Hx.sub ?_ hb
      with_reducible apply hx_nil
      refine ⟨.inl rfl, by (refine Sub.cons (by with_unfolding_all rfl) ?_; refine Sub.cons (by with_unfolding_all rfl) ?_; with_reducible exact Sub.nil), he₂, hr₂, pl2, by rw [List.length_append, List.length_singleton]; exact hd₂, fun i hi => ?_⟩
      rw [List.length_append, List.length_singleton] at hi
      by_cases e : i = pre.length
      · subst e
        rw [hp3]
        have : ([(x : Int) - 1, (x : Int) + 1] : List Int).flatMap (lastI L pre.length) = lastI L pre.length ((x : Int) - 1) ++ lastI L pre.length ((x : Int) + 1) := by simp
        rw [← this]
        exact ha₂
      · exact hp₂ i (by lia)
  · have := @st_new (σ ++ [AO.dict []]) (.range 0 L.length 1)
    rw [List.length_append] at this
    exact this
  · obtain ⟨he, hr, pl, hd, hpl⟩ := h
    refine Hx.sub ?_ hb
    refine hx_cons ?_
    with_reducible apply hs_ret
    refine hx_pv (pv_name (by kernel_rfl) (by with_unfolding_all rfl)) ?_
    with_reducible apply seq_ret
    rw [List.length_range] at hd hpl
    exact hq σ.length pl σ' he ⟨hd, hpl, preds3_acy.lt, fun k => preds3_len⟩
end

section
variable {bs : Bs} {σ : Store} {n : Nat} {sc : Scope}
noncomputable abbrev fStep : Fn := fnOf (inner 17 0)
theorem exch_txt : MkrTxt (fnOf (top 17)) fStep "needs" "_law_step" (argsOf (inner 17 0)) ⟨185, 4, 189, 69⟩ ⟨190, 11, 190, 20⟩ ⟨190, 4, 190, 20⟩ where
  params := by kernel_rfl
  va := by kernel_rfl
  body := by kernel_rfl
  cells := fun L => by kernel_rfl
  nmL := by kernel_rfl
  ycell := by kernel_rfl
  plain := by kernel_rfl
  dflt := fun env => by kernel_rfl
  ann := fun env => by kernel_rfl
  free := fun p hp hf => by
    have h : ((fStep.scope.names.all fun p => p.2 != .free || p.1 == ("needs" : Str)) : Bool) = true := by kernel_rfl
    have := List.all_eq_true.mp h p hp
    rw [hf] at this
    simpa using this
  clos := fun env a h => by
    have : closOf env fStep.scope.names [] = [(("needs" : Str), (env.cells.lookup ("needs" : Str)).getD 0)] := by kernel_rfl
    rw [this, h]; rfl
  ps := by kernel_rfl
  pos0 := by kernel_rfl
  kw0 := by kernel_rfl
  kw1 := by kernel_rfl
  va1 := by kernel_rfl
  co := by kernel_rfl
  gen := by kernel_rfl
theorem exch_run {v : AV} {Q : AV → Bs → Store → Prop} (ht : σ[1]? = some (.tab 1 181)) (hq : ∀ q, Q (.ref (σ.length + 2)) bs (σ.set 1 .grown ++ [.cell v] ++ [.code q] ++ [.clos fStep "needs" q σ.length (σ.length + 1)])) :
    Hx (callA PP (n + 1) aExch [v] : Mm PP (n + 1) sc AV) bs σ Q :=
  hx_maker (p := 181) rfl rfl rfl exch_txt ht hq
structure StepAt (ci di : Nat) (σ : Store) : Prop where
  at' : ∃ q c d, σ[ci]? = some (.clos fStep "needs" q c d) ∧ σ[c]? = some (.cell (.ref di)) ∧ σ[d]? = some (.code q)
theorem StepAt.ext {ci di : Nat} {σ' : Store} (h : StepAt ci di σ) (e : Ext σ σ') : StepAt ci di σ' := by
  obtain ⟨q, c, d, h1, h2, h3⟩ := h.at'
  exact ⟨⟨q, c, d, e.get h1, e.get h2, e.get h3⟩⟩
theorem clamp_nat {k m : Nat} : clamp (k : Int) m = min k m := by
  unfold clamp
  rw [if_pos (by lia), Int.toNat_natCast]
theorem natsV_take {l : List Nat} {k : Nat} : (natsV l).take k = natsV (l.take k) := by unfold natsV; rw [List.map_take]
theorem natsV_drop {l : List Nat} {k : Nat} : (natsV l).drop k = natsV (l.drop k) := by unfold natsV; rw [List.map_drop]
theorem natsV_get {l : List Nat} {k : Nat} (h : k < l.length) : (natsV l)[k]? = some (.int (l[k] : Nat)) := by
  unfold natsV
  rw [List.getElem?_map, List.getElem?_eq_getElem h]; rfl
theorem Needs.ext {di s : Nat} {pl : Nat → Nat} {pr : Nat → List Nat} {σ' : Store} (h : Needs di s pl pr σ) (e : Ext σ σ') : Needs di s pl pr σ' := ⟨e.get h.d, fun i hi => e.get (h.l i hi), h.lt, h.len⟩
theorem step_run {ci di ra s at' : Nat} {pl : Nat → Nat} {pr : Nat → List Nat} {r : List Nat} {Q : AV → Bs → Store → Prop} (hS : StepAt ci di σ) (hN : Needs di s pl pr σ) (hr : σ[ra]? = some (.list (natsV r))) (hs : s < 64) (hx : ∀ x ∈ r, x < s) (ha : at' + 1 < r.length) (hl : r.length < 64)
    (hq : ∀ t σ', Ext σ σ' → σ'[t]? = some (.list (natsV (tog pr r at'))) → Q (.ref t) bs σ') : Hx (callV PP (n + 50) (.ref ci) [.ref ra, .int at'] : Mm PP (n + 50) sc AV) bs σ Q := by
  refine hx_upV ?_
  obtain ⟨q, c, d, h1, h2, h3⟩ := hS.at'
  refine hx_callClos h1 h2 h3 (by kernel_rfl) (by kernel_rfl) ?_
  show Hx (execs PP 49 _ _) [("row", .ref ra), ("at", .int at'), ("needs", .ref di)] _ _
  refine hx_cons ?_
  have g1 : (natsV r)[at']? = some (.int (r[at'] : Nat)) := natsV_get (Nat.lt_of_succ_lt ha)
  have g2 : (natsV r)[at' + 1]? = some (.int (r[at' + 1] : Nat)) := natsV_get ha
  have x1 := hx _ (List.getElem_mem (Nat.lt_of_succ_lt ha))
  have x2 := hx _ (List.getElem_mem ha)
  have hJ : (at' : Int) + 1 = ((at' + 1 : Nat) : Int) ∧ at' + 1 < 1000 := ⟨rfl, Nat.lt_trans ha (Nat.lt_trans hl (by decide))⟩
  have hI : at' < 2 ^ 62 := Nat.lt_trans (Nat.lt_of_succ_lt hJ.2) (by decide)
  have htog : tog pr r at' = swp pr r[at'] r[at' + 1] (r.take at') (r.drop (at' + 2)) := by
    unfold tog
    rw [List.getElem?_eq_getElem (Nat.lt_of_succ_lt ha), List.getElem?_eq_getElem ha]; rfl
  have hre : r = r.take at' ++ r[at'] :: r[at' + 1] :: r.drop (at' + 2) := by
    rw [← List.drop_eq_getElem_cons ha, ← List.drop_eq_getElem_cons (Nat.lt_of_succ_lt ha), List.take_append_drop]
  generalize r[at'] = a at g1 x1 htog hre
  generalize r[at' + 1] = b at g2 x2 htog hre
  refine hs_pair (by kernel_rfl) ?_
  have hd := hN.d
  have l1 := hN.l a x1
  have l2 := hN.l b x2
  have d1 := dget_esOf (a := pl) x1
  have d2 := dget_esOf (a := pl) x2
  have i1 := asInts_nats (l := pr a)
  have i2 := asInts_nats (l := pr b)
  (with_reducible apply hx_pv); · (with_reducible apply pv_item); (· kernel_rfl); (· exact pv_name (by kernel_rfl) (by with_unfolding_all rfl)); (· exact pv_name (by kernel_rfl) (by with_unfolding_all rfl)); · (with_reducible apply pv_itemN); (· with_reducible assumption); (· assumption); · assumption
  (with_reducible apply hx_pv); · (with_reducible apply pv_item); (· kernel_rfl); (· exact pv_name (by kernel_rfl) (by with_unfolding_all rfl)); (· (with_reducible apply pv_bin); (· exact pv_name (by kernel_rfl) (by with_unfolding_all rfl)); (· with_reducible exact pv_int); · with_reducible exact pv_add); · (with_reducible apply pv_itemJ); (· with_reducible assumption); (· assumption); · assumption
  refine seq_next (hx_cons ?_)
  with_reducible apply hs_ifH
  with_reducible apply hx_tBool
  with_reducible apply hx_or
  (with_reducible apply hx_pv); · (with_reducible apply pv_tCmp); (· kernel_rfl); (· exact pv_name (by kernel_rfl) (by with_unfolding_all rfl)); (· (with_reducible apply pv_item); (· kernel_rfl); (· exact pv_name (by kernel_rfl) (by with_unfolding_all rfl)); (· exact pv_name (by kernel_rfl) (by with_unfolding_all rfl)); · (with_reducible apply pv_itemD); (· with_reducible assumption); · assumption); · (with_reducible apply pv_inA); (· with_reducible assumption); · assumption
  rw [contains_nat]
  refine ⟨fun hc => ⟨fun _ => ?_, fun q => (by cases q)⟩, fun hc => ?_⟩
  · have hc := of_decide_eq_true hc
    have hsame : tog pr r at' = r := by
      rw [htog]
      unfold swp
      rw [if_pos (.inl hc)]
      exact hre.symm
    refine hx_cons ?_
    with_reducible apply hs_ret
    refine hx_pv (pv_name (by kernel_rfl) (by with_unfolding_all rfl)) ?_
    with_reducible apply seq_ret
    with_reducible apply seq_ret
    exact hq ra σ Ext.refl (by rw [hsame]; exact hr)
  have hc := of_decide_eq_false hc
  with_reducible apply hx_or
  (with_reducible apply hx_pv); · (with_reducible apply pv_tCmp); (· kernel_rfl); (· exact pv_name (by kernel_rfl) (by with_unfolding_all rfl)); (· (with_reducible apply pv_item); (· kernel_rfl); (· exact pv_name (by kernel_rfl) (by with_unfolding_all rfl)); (· exact pv_name (by kernel_rfl) (by with_unfolding_all rfl)); · (with_reducible apply pv_itemD); (· with_reducible assumption); · assumption); · (with_reducible apply pv_inA); (· with_reducible assumption); · assumption
  rw [contains_nat]
  refine ⟨fun hc2 => ⟨fun _ => ?_, fun q => (by cases q)⟩, fun hc2 => ?_⟩
  · have hc2 := of_decide_eq_true hc2
    have hsame : tog pr r at' = r := by
      rw [htog]
      unfold swp
      rw [if_pos (.inr hc2)]
      exact hre.symm
    refine hx_cons ?_
    with_reducible apply hs_ret
    refine hx_pv (pv_name (by kernel_rfl) (by with_unfolding_all rfl)) ?_
    with_reducible apply seq_ret
    with_reducible apply seq_ret
    exact hq ra σ Ext.refl (by rw [hsame]; exact hr)
  have hc2 := of_decide_eq_false hc2
  have hto : tog pr r at' = r.take at' ++ [b, a] ++ r.drop (at' + 2) := by
    rw [htog]
    unfold swp
    rw [if_neg (fun q => q.elim hc hc2)]
    simp
  with_reducible apply hx_allOr
  with_reducible apply br_false
  with_reducible apply hx_nil
  refine seq_next (hx_cons ?_)
  with_reducible apply hs_ret
  with_reducible apply hx_bin
  with_reducible apply hx_bin
  refine hx_slice ?_
  refine hx_pv (pv_name (by kernel_rfl) (by with_unfolding_all rfl)) ?_
  refine hx_pv pv_opt0 (hx_pv (pv_opt (by (exact pv_name (by kernel_rfl) (by with_unfolding_all rfl)))) (hx_pv pv_opt0 (hx_sliceL hr (hx_upto (by lia) (by rw [natsV_len]; lia) ?_))))
  rw [clamp_nat, natsV_len, Nat.min_eq_left (by lia), natsV_take]
  refine hx_call rfl ?_
  refine hx_pv (pv_glob (by kernel_rfl) (by with_unfolding_all rfl)) ?_
  refine hx_args1 rfl ?_
  with_reducible apply hx_list
  (with_reducible apply hx_evs1); · rfl
  refine hx_pv (pv_name (by kernel_rfl) (by with_unfolding_all rfl)) ?_
  (with_reducible apply hx_evs1); · rfl
  refine hx_pv (pv_name (by kernel_rfl) (by with_unfolding_all rfl)) ?_
  with_reducible apply hx_evs0
  (with_reducible apply hx_newL); · simp only [List.length_append, List.length_map, List.length_cons, List.length_nil, List.length_replicate, List.length_range, natsV_len]; lia
  refine hx_args1 rfl ?_
  refine hx_pv pv_int ?_
  refine hx_args0 (hx_callF rfl ?_)
  have hab : (σ ++ [AO.list (natsV (r.take at'))] ++ [AO.list [.int a, .int b]])[(σ ++ [AO.list (natsV (r.take at'))]).length]? = some (.list (natsV [a, b])) := st_new
  have hu : (σ ++ [AO.list (natsV (r.take at'))] ++ [AO.list [.int a, .int b]])[σ.length]? = some (.list (natsV (r.take at'))) := st_old st_new
  have hrr := st_old (t := [AO.list [.int a, .int b]]) (st_old (t := [AO.list (natsV (r.take at'))]) hr)
  have e1 : Ext σ (σ ++ [AO.list (natsV (r.take at'))] ++ [AO.list [.int a, .int b]]) := Ext.refl.app.app
  refine turned_run (w := 2) hab (fun x hx => ?_) (by decide) (.inl rfl) fun t σ₁ e2 ht => ?_
  · rcases List.mem_cons.mp hx with rfl | hx
    · lia
    · rcases List.mem_cons.mp hx with rfl | hx
      · lia
      · cases hx
  have ht : σ₁[t]? = some (.list (natsV [b, a])) := ht
  have hu := e2.get hu
  have hrr := e2.get hrr
  have e3 := e1.trans e2
  clear hab e2
  have hl2 : (natsV (r.take at') ++ natsV [b, a]).length ≤ 1000000 := by rw [List.length_append, natsV_len, natsV_len, List.length_take]; exact Nat.le_trans (Nat.add_le_add_right (Nat.min_le_right ..) 2) (Nat.le_trans (Nat.add_le_add_right (Nat.le_of_lt hl) 2) (by decide))
  (with_reducible apply hx_cat); (· with_reducible assumption); (· with_reducible assumption); · assumption
  rw [← natsV_app]
  have hu3 := st_new (σ := σ₁) (o := AO.list (natsV (r.take at' ++ [b, a])))
  have hrr := st_old (t := [AO.list (natsV (r.take at' ++ [b, a]))]) hrr
  have e3 := e3.app (t := [AO.list (natsV (r.take at' ++ [b, a]))])
  clear hu ht
  generalize σ₁ ++ [AO.list (natsV (r.take at' ++ [b, a]))] = σ₂ at hu3 hrr e3 ⊢
  generalize σ₁.length = u3 at hu3 ⊢
  refine hx_slice ?_
  refine hx_pv (pv_name (by kernel_rfl) (by with_unfolding_all rfl)) ?_
  refine hx_pv (pv_opt (by ((with_reducible apply pv_bin); (· exact pv_name (by kernel_rfl) (by with_unfolding_all rfl)); (· with_reducible exact pv_int); · with_reducible exact pv_add))) (hx_pv pv_opt0 (hx_pv pv_opt0 (hx_sliceL hrr (hx_from (by rw [show (at' : Int) + 2 = ((at' + 2 : Nat) : Int) from rfl]; exact nabs (Nat.lt_trans (Nat.succ_lt_succ hJ.2) (by decide))) (by rw [natsV_len]; lia) ?_))))
  rw [show (at' : Int) + 2 = ((at' + 2 : Nat) : Int) from rfl, clamp_nat, natsV_len, Nat.min_eq_left (by lia), natsV_drop]
  have hl3 : (natsV (r.take at' ++ [b, a]) ++ natsV (r.drop (at' + 2))).length ≤ 1000000 := by
    rw [List.length_append, natsV_len, natsV_len, List.length_append, List.length_take, List.length_drop]; exact Nat.le_trans (Nat.add_le_add (Nat.add_le_add_right (Nat.min_le_right ..) 2) (Nat.sub_le ..)) (Nat.le_trans (Nat.add_le_add (Nat.add_le_add_right (Nat.le_of_lt hl) 2) (Nat.le_of_lt hl)) (by decide))
  (with_reducible apply hx_cat); (· (with_reducible apply st_old); with_reducible assumption); (· with_reducible exact st_new); · assumption
  with_reducible apply seq_ret
  refine hq _ _ e3.app.app ?_
  rw [hto, show natsV (r.take at' ++ [b, a] ++ r.drop (at' + 2)) = natsV (r.take at' ++ [b, a]) ++ natsV (r.drop (at' + 2)) from natsV_app]
  exact st_new
end

section
variable {bs : Bs} {σ : Store} {n : Nat} {sc : Scope}
noncomputable def slS (pr : Nat → List Nat) (p : List Nat × Nat) (w : Nat) : List Nat × Nat := if p.2 ∈ pr w then (p.1 ++ [p.2], w) else (p.1 ++ [w], p.2)
theorem slS_end {pr : Nat → List Nat} : ∀ (l : List Nat) (p : List Nat × Nat), (l.foldl (slS pr) p).1 ++ [(l.foldl (slS pr) p).2] = p.1 ++ slideR pr p.2 l
  | [], p => rfl
  | w :: l, p => by
    rw [List.foldl_cons, slS_end l]
    rw [slideR]
    unfold slS
    by_cases c : p.2 ∈ pr w
    · rw [if_pos c, if_pos c]; simp
    · rw [if_neg c, if_neg c]; simp
theorem slS_len {pr : Nat → List Nat} {m : Nat} {l : List Nat} : (l.foldl (slS pr) ([], m)).1.length = l.length := by
  have := congrArg List.length (slS_end (pr := pr) l ([], m))
  simp [slideR_len] at this
  exact this
theorem slS_lt {pr : Nat → List Nat} {s : Nat} : ∀ (l : List Nat) (p : List Nat × Nat), p.2 < s → (∀ x ∈ l, x < s) → (l.foldl (slS pr) p).2 < s
  | [], p, h, _ => h
  | w :: l, p, h, hl => by
    rw [List.foldl_cons]
    refine slS_lt l _ ?_ fun x hx => hl x (.tail _ hx)
    unfold slS
    split
    · exact hl w (.head _)
    · exact h
theorem slide_run {di ra s : Nat} {pl : Nat → Nat} {pr : Nat → List Nat} {r : List Nat} {Q : AV → Bs → Store → Prop} (hN : Needs di s pl pr σ) (hr : σ[ra]? = some (.list (natsV r))) (hs : s < 64) (hx : ∀ x ∈ r, x < s) (h0 : 0 < r.length) (hl : r.length < 64)
    (hq : ∀ t σ', Ext σ σ' → σ'[t]? = some (.list (natsV (slide pr r))) → Q (.ref t) bs σ') : Hx (callA PP (n + 40) aSlide [.ref di, .ref ra] : Mm PP (n + 40) sc AV) bs σ Q := by
  refine hx_up ?_
  refine hx_callE (bs₀ := [("needs", .ref di), ("row", .ref ra)]) (rest := []) rfl (by with_unfolding_all rfl) (by kernel_rfl) (by kernel_rfl) ?_
  refine hx_cons ?_
  obtain ⟨m, l, rfl⟩ : ∃ m l, r = m :: l := by
    cases r with
    | nil => cases h0
    | cons m l => exact ⟨m, l, rfl⟩
  have hm : (natsV (m :: l))[(0 : Int).toNat]? = some (.int (m : Nat)) := rfl
  refine hs_assign (by kernel_rfl) (by kernel_rfl) ?_
  with_reducible apply hx_list
  with_reducible apply hx_evs0
  (with_reducible apply hx_newL); · decide
  refine seq_next (hx_cons ?_)
  refine hs_assign (by kernel_rfl) (by kernel_rfl) ?_
  (with_reducible apply hx_pv); · (with_reducible apply pv_item); (· kernel_rfl); (· exact pv_name (by kernel_rfl) (by with_unfolding_all rfl)); (· with_reducible exact pv_int); · (with_reducible apply pv_itemC); (· (with_reducible apply st_old); with_reducible assumption); (· decide); · assumption
  refine seq_next (hx_cons ?_)
  (with_reducible apply hs_for); · kernel_rfl
  refine hx_slice ?_
  have hr₁ := st_old (t := [AO.list []]) hr
  refine hx_pv (pv_name (by kernel_rfl) (by with_unfolding_all rfl)) ?_
  refine hx_pv (pv_opt (by (with_reducible exact pv_int))) (hx_pv pv_opt0 (hx_pv pv_opt0 (hx_sliceL hr₁ (hx_from (by decide) (by rw [natsV_len]; lia) ?_))))
  rw [show (1 : Int) = ((1 : Nat) : Int) from rfl, clamp_nat, natsV_len, Nat.min_eq_left (by rw [List.length_cons]; lia), natsV_drop]
  show Hx _ _ (σ ++ [AO.list []] ++ [AO.list (natsV l)]) _
  have hlt : (σ ++ [AO.list []]).length ≠ σ.length := by rw [List.length_append, List.length_singleton]; lia
  (with_reducible apply runFor_list); · with_reducible exact st_new
  rw [items_nats]
  refine hx_forPre (B := fun pre => [("mover", .int ((pre.foldl (slS pr) ([], m)).2 : Nat)), ("passed", .ref σ.length), ("needs", .ref di)]) (S := fun pre σ' => Ext σ σ' ∧ σ'[(σ ++ [AO.list []]).length]? = some (.list (natsV l)) ∧ σ'[σ.length]? = some (.list (natsV (pre.foldl (slS pr) ([], m)).1)))
    (fun pre σ' h => h.2.1) (fun pre w post σ' hpre h => ?_) ⟨Ext.refl.app.app, st_new, st_old st_new⟩ (by (refine Sub.cons (by with_unfolding_all rfl) ?_; refine Sub.cons (by with_unfolding_all rfl) ?_; refine Sub.cons (by with_unfolding_all rfl) ?_; with_reducible exact Sub.nil)) (fun σ' bs' h hb => ?_)
  · obtain ⟨he, hll, hp⟩ := h
    rw [List.foldl_append]
    have hmv := slS_lt (pr := pr) pre ([], m) (hx m (.head _)) fun x hx' => hx x (.tail _ (by rw [hpre]; exact List.mem_append_left _ hx'))
    have hwl : w ∈ l := by rw [hpre]; exact List.mem_append_right _ (.head _)
    have hw : w < s := hx w (.tail _ hwl)
    have hpl := slS_len (pr := pr) (m := m) (l := pre)
    have hll2 := congrArg List.length hpre
    rw [List.length_append, List.length_cons] at hll2
    rw [List.length_cons] at hl
    generalize pre.foldl (slS pr) ([], m) = p at hmv hp hpl ⊢
    obtain ⟨ps, mv⟩ := p
    dsimp only at hmv hp hpl ⊢
    have hN := hN.ext he
    have hd := hN.d
    have hlw := hN.l w hw
    have hdw := dget_esOf (a := pl) hw
    have hiw := asInts_nats (l := pr w)
    have hA : ∀ v : Nat, (natsV ps ++ [AV.int (v : Int)]).length ≤ 1000000 := fun v => by rw [List.length_append, natsV_len, hpl]; show pre.length + 1 ≤ _; lia
    have hAm := hA mv
    have hAw := hA w
    (with_reducible apply hx_bindN); · kernel_rfl
    refine hx_cons ?_
    ((with_reducible apply hs_if); · (with_reducible apply pv_tCmp); (· kernel_rfl); (· exact pv_name (by kernel_rfl) (by with_unfolding_all rfl)); (· (with_reducible apply pv_item); (· kernel_rfl); (· exact pv_name (by kernel_rfl) (by with_unfolding_all rfl)); (· exact pv_name (by kernel_rfl) (by with_unfolding_all rfl)); · (with_reducible apply pv_itemD); (· with_reducible assumption); · assumption); · (with_reducible apply pv_inA); (· with_reducible assumption); · assumption) <;> first | (intro h; exact absurd h (by decide)) | refine imp_of (by decide) ?_ | skip
    · intro hc
      rw [contains_nat] at hc
      have hc := of_decide_eq_true hc
      have hs : [w].foldl (slS pr) (ps, mv) = (ps ++ [mv], w) := if_pos hc
      rw [hs]
      refine hx_cons ?_
      (with_reducible apply hs_expr); · kernel_rfl
      (with_reducible apply hx_meth); (· exact ⟨by decide, by decide, rfl⟩); · rfl
      refine hx_pv (pv_name (by kernel_rfl) (by with_unfolding_all rfl)) ?_
      (with_reducible apply hx_findL); (· with_reducible assumption); · exact .inl ⟨rfl, rfl⟩
      refine hx_args1 rfl ?_
      refine hx_pv (pv_name (by kernel_rfl) (by with_unfolding_all rfl)) ?_
      refine hx_args0 ?_
      (with_reducible apply hx_mcallB); · kernel_rfl
      (with_reducible apply hx_mAppend); (· with_reducible assumption); · assumption
      with_reducible apply none_and
      refine seq_next (hx_cons ?_)
      refine hs_assign (by kernel_rfl) (by kernel_rfl) ?_
      refine hx_pv (pv_name (by kernel_rfl) (by with_unfolding_all rfl)) ?_
      refine seq_next ?_
      with_reducible apply hx_nil
      refine seq_next ?_
      with_reducible apply hx_nil
      rw [natsV_snoc]
      refine ⟨.inl rfl, by (refine Sub.cons (by with_unfolding_all rfl) ?_; refine Sub.cons (by with_unfolding_all rfl) ?_; refine Sub.cons (by with_unfolding_all rfl) ?_; with_reducible exact Sub.nil), by ((with_reducible apply Ext.set); (· assumption); · lia), st_set_ne (Ne.symm hlt) hll, st_set hp⟩
    · intro hc
      rw [contains_nat] at hc
      have hc := of_decide_eq_false hc
      have hs : [w].foldl (slS pr) (ps, mv) = (ps ++ [w], mv) := if_neg hc
      rw [hs]
      refine hx_cons ?_
      (with_reducible apply hs_expr); · kernel_rfl
      (with_reducible apply hx_meth); (· exact ⟨by decide, by decide, rfl⟩); · rfl
      refine hx_pv (pv_name (by kernel_rfl) (by with_unfolding_all rfl)) ?_
      (with_reducible apply hx_findL); (· with_reducible assumption); · exact .inl ⟨rfl, rfl⟩
      refine hx_args1 rfl ?_
      refine hx_pv (pv_name (by kernel_rfl) (by with_unfolding_all rfl)) ?_
      refine hx_args0 ?_
      (with_reducible apply hx_mcallB); · kernel_rfl
      (with_reducible apply hx_mAppend); (· with_reducible assumption); · assumption
      with_reducible apply none_and
      refine seq_next ?_
      with_reducible apply hx_nil
      refine seq_next ?_
      with_reducible apply hx_nil
      rw [natsV_snoc]
      refine ⟨.inl rfl, by (refine Sub.cons (by with_unfolding_all rfl) ?_; refine Sub.cons (by with_unfolding_all rfl) ?_; refine Sub.cons (by with_unfolding_all rfl) ?_; with_reducible exact Sub.nil), by ((with_reducible apply Ext.set); (· assumption); · lia), st_set_ne (Ne.symm hlt) hll, st_set hp⟩
  · obtain ⟨he, hll, hp⟩ := h
    refine Hx.sub ?_ hb
    have hpl := slS_len (pr := pr) (m := m) (l := l)
    have he2 := slS_end (pr := pr) l ([], m)
    rw [List.length_cons] at hl
    generalize l.foldl (slS pr) ([], m) = p at hp hpl he2 ⊢
    have hA : (natsV p.1 ++ [AV.int (p.2 : Nat)]).length ≤ 1000000 := by rw [List.length_append, natsV_len, hpl]; show l.length + 1 ≤ _; lia
    refine hx_cons ?_
    with_reducible apply hs_ret
    with_reducible apply hx_bin
    refine hx_pv (pv_name (by kernel_rfl) (by with_unfolding_all rfl)) ?_
    with_reducible apply hx_list
    (with_reducible apply hx_evs1); · rfl
    refine hx_pv (pv_name (by kernel_rfl) (by with_unfolding_all rfl)) ?_
    with_reducible apply hx_evs0
    (with_reducible apply hx_newL); · simp only [List.length_append, List.length_map, List.length_cons, List.length_nil, List.length_replicate, List.length_range, natsV_len]; lia
    (with_reducible apply hx_cat); (· (with_reducible apply st_old); with_reducible assumption); (· with_reducible exact st_new); · assumption
    with_reducible apply seq_ret
    rw [natsV_snoc, he2]
    refine hq _ _ he.app.app ?_
    exact st_new
end

section
variable {bs : Bs} {σ : Store} {n : Nat} {sc : Scope} {pr : Nat → List Nat}
theorem slideR_mem {x : Nat} : ∀ (l : List Nat) (m : Nat), x ∈ slideR pr m l → x = m ∨ x ∈ l
  | [], m, h => .inl (List.mem_singleton.mp h)
  | w :: l, m, h => by
    rw [slideR] at h
    split at h
    · rcases List.mem_cons.mp h with h | h
      · exact .inl h
      · rcases slideR_mem l w h with h | h
        · exact .inr (h ▸ .head _)
        · exact .inr (.tail _ h)
    · rcases List.mem_cons.mp h with h | h
      · exact .inr (h ▸ .head _)
      · rcases slideR_mem l m h with h | h
        · exact .inl h
        · exact .inr (.tail _ h)
theorem slide_mem {x : Nat} {r : List Nat} (h : x ∈ slide pr r) : x ∈ r := by
  cases r with
  | nil => cases h
  | cons m l => exact (slideR_mem l m h).elim (fun q => q ▸ .head _) fun q => .tail _ q
noncomputable def evS (pr : Nat → List Nat) (s : Nat) (t : List Nat) (i : Nat) : List Nat := slide pr (t.take (s - i)) ++ t.drop (s - i)
structure RowOk (s : Nat) (t : List Nat) : Prop where
  len : t.length = s
  lt : ∀ x ∈ t, x < s
theorem RowOk.slide {s : Nat} {t : List Nat} (h : RowOk s t) : RowOk s (slide pr t) := ⟨slide_len.trans h.len, fun x hx => h.lt x (slide_mem hx)⟩
theorem RowOk.ev {s i : Nat} {t : List Nat} (h : RowOk s t) : RowOk s (evS pr s t i) := by
  unfold evS
  refine ⟨?_, fun x hx => ?_⟩
  · rw [List.length_append, slide_len, ← List.length_append, List.take_append_drop]; exact h.len
  · rcases List.mem_append.mp hx with hx | hx
    · exact h.lt x (List.mem_of_mem_take (slide_mem hx))
    · exact h.lt x (List.mem_of_mem_drop hx)
theorem RowOk.evs {s : Nat} : ∀ (l : List Nat) {t : List Nat}, RowOk s t → RowOk s (l.foldl (evS pr s) t)
  | [], _, h => h
  | i :: l, _, h => RowOk.evs l h.ev
theorem RowOk.slides {s : Nat} : ∀ (l : List Nat) {t : List Nat}, RowOk s t → RowOk s (l.foldl (fun t _ => Mine.H.slide pr t) t)
  | [], _, h => h
  | i :: l, _, h => RowOk.slides l h.slide
theorem down_items {s : Nat} (h : 3 ≤ s ∧ s ≤ 6) : (rangeInts s 1 (-1)).map (fun k => Item.one (.int k)) = (List.range (s - 1)).map fun (i : Nat) => Item.one (.int ((s - i : Nat) : Int)) := by
  have : s = 3 ∨ s = 4 ∨ s = 5 ∨ s = 6 := by lia
  rcases this with rfl | rfl | rfl | rfl <;> kernel_rfl
theorem evac_run {di ra s : Nat} {pl : Nat → Nat} {r : List Nat} {Q : AV → Bs → Store → Prop} (hN : Needs di s pl pr σ) (hr : σ[ra]? = some (.list (natsV r))) (hs : 3 ≤ s ∧ s ≤ 6) (ok : RowOk s r)
    (hq : ∀ t σ', Ext σ σ' → σ'[t]? = some (.list (natsV (evacF pr r))) → Q (.ref t) bs σ') : Hx (callA PP (n + 60) aEvac [.ref di, .ref ra] : Mm PP (n + 60) sc AV) bs σ Q := by
  refine hx_up ?_
  refine hx_callE (bs₀ := [("needs", .ref di), ("row", .ref ra)]) (rest := []) rfl (by with_unfolding_all rfl) (by kernel_rfl) (by kernel_rfl) ?_
  refine hx_cons ?_
  have hev : evacF pr r = (List.range (s - 1)).foldl (evS pr s) r := by
    unfold evacF evS
    rw [ok.len]
  have hsm : small (s : Int) = true := sm (Nat.lt_of_le_of_lt hs.2 (by decide))
  have hsm2 : (small (s : Int) && small 1 && small (-1) && (-1 : Int) != 0) = true := by rw [hsm]; decide
  have hlen : (natsV r).length = s := by rw [natsV_len, ok.len]
  (with_reducible apply hs_for); · kernel_rfl
  refine hx_call rfl ?_
  refine hx_pv (pv_glob (by kernel_rfl) (by with_unfolding_all rfl)) ?_
  refine hx_args1 rfl ?_
  (with_reducible apply hx_pv); · (with_reducible apply pv_call1); (· rfl); (· rfl); (· exact pv_glob (by kernel_rfl) (by with_unfolding_all rfl)); (· exact pv_name (by kernel_rfl) (by with_unfolding_all rfl)); · (with_reducible apply pv_lenL); with_reducible assumption
  refine hx_args1 rfl ?_
  refine hx_pv pv_int ?_
  refine hx_args1 rfl ?_
  (with_reducible apply hx_pv); · (with_reducible apply pv_neg); with_reducible exact pv_int
  refine hx_args0 (hx_callT ?_)
  (with_reducible apply hx_range3); · exact sm_range (hlen.symm ▸ hsm) (by decide) (by decide) (by decide)
  (with_reducible apply runFor_range); (· with_reducible exact st_new); · exact sm_range (hlen.symm ▸ hsm) (by decide) (by decide) (by decide)
  rw [hlen]
  rw [down_items hs]
  refine hx_forG (ι := Nat) (mk := fun i => Item.one (.int ((s - i : Nat) : Int))) (xs := List.range (s - 1)) (γ := Nat) (fun ra => [("row", .ref ra), ("needs", .ref di)]) (fun ra pre σ' => Ext σ σ' ∧ σ'[σ.length]? = some (.range s 1 (-1)) ∧ σ'[ra]? = some (.list (natsV (pre.foldl (evS pr s) r)))) ra
    (fun c pre σ' h => h.2.1) (fun ra pre i post σ' hpre h => ?_) ⟨Ext.refl.app, st_new, st_old hr⟩ (by (refine Sub.cons (by with_unfolding_all rfl) ?_; refine Sub.cons (by with_unfolding_all rfl) ?_; with_reducible exact Sub.nil)) (fun ra σ' bs' h hb' => ?_)
  · obtain ⟨he, hrg, hra⟩ := h
    obtain ⟨rfl, hlt⟩ := range_split hpre
    rw [List.foldl_append]
    have okp := RowOk.evs (pr := pr) pre ok
    generalize pre.foldl (evS pr s) r = t at hra okp ⊢
    have hN := hN.ext he
    (with_reducible apply hx_bindN); · kernel_rfl
    refine hx_cons ?_
    refine hs_assign (by kernel_rfl) (by kernel_rfl) ?_
    with_reducible apply hx_bin
    refine hx_call rfl ?_
    refine hx_pv (pv_glob (by kernel_rfl) (by with_unfolding_all rfl)) ?_
    refine hx_args1 rfl ?_
    refine hx_pv (pv_name (by kernel_rfl) (by with_unfolding_all rfl)) ?_
    refine hx_args1 rfl ?_
    refine hx_slice ?_
    refine hx_pv (pv_name (by kernel_rfl) (by with_unfolding_all rfl)) ?_
    refine hx_pv pv_opt0 (hx_pv (pv_opt (by (exact pv_name (by kernel_rfl) (by with_unfolding_all rfl)))) (hx_pv pv_opt0 (hx_sliceL hra (hx_upto (nabs (Nat.lt_of_le_of_lt (Nat.le_trans (Nat.sub_le ..) hs.2) (by decide))) (by rw [natsV_len, okp.len]; lia) ?_))))
    rw [clamp_nat, natsV_len, okp.len, Nat.min_eq_left (Nat.sub_le ..), natsV_take]
    refine hx_args0 (hx_callF rfl ?_)
    have hlt2 : (t.take (s - pre.length)).length = s - pre.length := by rw [List.length_take, okp.len]; exact Nat.min_eq_left (Nat.sub_le ..)
    refine slide_run (hN.ext Ext.refl.app) st_new (by lia) (fun x hx => okp.lt x (List.mem_of_mem_take hx)) (by rw [hlt2]; lia) (by rw [hlt2]; lia) fun u σ₁ e1 hu => ?_
    have hra1 := e1.get (st_old (t := [AO.list (natsV (t.take (s - pre.length)))]) hra)
    have e2 : Ext σ' σ₁ := Ext.refl.app.trans e1
    refine hx_slice ?_
    refine hx_pv (pv_name (by kernel_rfl) (by with_unfolding_all rfl)) ?_
    refine hx_pv (pv_opt (by (exact pv_name (by kernel_rfl) (by with_unfolding_all rfl)))) (hx_pv pv_opt0 (hx_pv pv_opt0 (hx_sliceL hra1 (hx_from (nabs (Nat.lt_of_le_of_lt (Nat.le_trans (Nat.sub_le ..) hs.2) (by decide))) (by rw [natsV_len, okp.len]; lia) ?_))))
    rw [clamp_nat, natsV_len, okp.len, Nat.min_eq_left (Nat.sub_le ..), natsV_drop]
    have hl2 : (natsV (slide pr (t.take (s - pre.length))) ++ natsV (t.drop (s - pre.length))).length ≤ 1000000 := by
      rw [List.length_append, natsV_len, natsV_len, slide_len, hlt2, List.length_drop, okp.len, Nat.add_sub_cancel' (Nat.sub_le ..)]; exact Nat.le_trans hs.2 (by decide)
    (with_reducible apply hx_cat); (· (with_reducible apply st_old); with_reducible assumption); (· with_reducible exact st_new); · assumption
    refine seq_next ?_
    with_reducible apply hx_nil
    rw [← natsV_app]
    exact ⟨.inl rfl, _, by (refine Sub.cons (by with_unfolding_all rfl) ?_; refine Sub.cons (by with_unfolding_all rfl) ?_; with_reducible exact Sub.nil), (he.trans e2).app.app, st_old (st_old (e2.get hrg)), st_new⟩
  · obtain ⟨he, hrg, hra⟩ := h
    refine Hx.sub ?_ hb'
    refine hx_cons ?_
    with_reducible apply hs_ret
    refine hx_pv (pv_name (by kernel_rfl) (by with_unfolding_all rfl)) ?_
    with_reducible apply seq_ret
    exact hq ra σ' he (by rw [hev]; exact hra)
theorem slides_run {di ra s : Nat} {pl : Nat → Nat} {r : List Nat} {Q : AV → Bs → Store → Prop} (hN : Needs di s pl pr σ) (hr : σ[ra]? = some (.list (natsV r))) (hs : 3 ≤ s ∧ s ≤ 6) (ok : RowOk s r)
    (hq : ∀ t σ', Ext σ σ' → σ'[t]? = some (.list (natsV (slidesF pr r))) → Q (.ref t) bs σ') : Hx (callA PP (n + 60) aSlides [.ref di, .ref ra] : Mm PP (n + 60) sc AV) bs σ Q := by
  refine hx_up ?_
  refine hx_callE (bs₀ := [("needs", .ref di), ("row", .ref ra)]) (rest := []) rfl (by with_unfolding_all rfl) (by kernel_rfl) (by kernel_rfl) ?_
  refine hx_cons ?_
  have hev : slidesF pr r = (List.range s).foldl (fun t _ => slide pr t) r := by
    unfold slidesF
    rw [ok.len]
  have hsm : small (s : Int) = true := sm (Nat.lt_of_le_of_lt hs.2 (by decide))
  have hsm2 : (small 0 && small (s : Int) && small 1 && (1 : Int) != 0) = true := by rw [hsm]; decide
  have hlen : (natsV r).length = s := by rw [natsV_len, ok.len]
  (with_reducible apply hs_for); · kernel_rfl
  refine hx_call rfl ?_
  refine hx_pv (pv_glob (by kernel_rfl) (by with_unfolding_all rfl)) ?_
  refine hx_args1 rfl ?_
  (with_reducible apply hx_pv); · (with_reducible apply pv_call1); (· rfl); (· rfl); (· exact pv_glob (by kernel_rfl) (by with_unfolding_all rfl)); (· exact pv_name (by kernel_rfl) (by with_unfolding_all rfl)); · (with_reducible apply pv_lenL); with_reducible assumption
  refine hx_args0 (hx_callT ?_)
  (with_reducible apply hx_range1); · simp only [small, Bool.and_eq_true, decide_eq_true_eq, bne_iff_ne, ne_eq]; lia
  (with_reducible apply runFor_range); (· with_reducible exact st_new); · simp only [small, Bool.and_eq_true, decide_eq_true_eq, bne_iff_ne, ne_eq]; lia
  rw [hlen]
  rw [range_items]
  refine hx_forG (ι := Nat) (mk := fun (i : Nat) => Item.one (.int i)) (xs := List.range s) (γ := Nat) (fun ra => [("row", .ref ra), ("needs", .ref di)]) (fun ra pre σ' => Ext σ σ' ∧ σ'[σ.length]? = some (.range 0 s 1) ∧ σ'[ra]? = some (.list (natsV (pre.foldl (fun t _ => slide pr t) r)))) ra
    (fun c pre σ' h => h.2.1) (fun ra pre i post σ' hpre h => ?_) ⟨Ext.refl.app, st_new, st_old hr⟩ (by (refine Sub.cons (by with_unfolding_all rfl) ?_; refine Sub.cons (by with_unfolding_all rfl) ?_; with_reducible exact Sub.nil)) (fun ra σ' bs' h hb' => ?_)
  · obtain ⟨he, hrg, hra⟩ := h
    rw [List.foldl_append]
    have okp := RowOk.slides (pr := pr) pre ok
    generalize pre.foldl (fun t _ => slide pr t) r = t at hra okp ⊢
    have hN := hN.ext he
    (with_reducible apply hx_bindN); · kernel_rfl
    refine hx_cons ?_
    refine hs_assign (by kernel_rfl) (by kernel_rfl) ?_
    refine hx_call rfl ?_
    refine hx_pv (pv_glob (by kernel_rfl) (by with_unfolding_all rfl)) ?_
    refine hx_args1 rfl ?_
    refine hx_pv (pv_name (by kernel_rfl) (by with_unfolding_all rfl)) ?_
    refine hx_args1 rfl ?_
    refine hx_pv (pv_name (by kernel_rfl) (by with_unfolding_all rfl)) ?_
    refine hx_args0 (hx_callF rfl ?_)
    refine slide_run hN hra (by lia) okp.lt (by rw [okp.len]; lia) (by rw [okp.len]; lia) fun u σ₁ e1 hu => ?_
    refine seq_next ?_
    with_reducible apply hx_nil
    exact ⟨.inl rfl, _, by (refine Sub.cons (by with_unfolding_all rfl) ?_; refine Sub.cons (by with_unfolding_all rfl) ?_; with_reducible exact Sub.nil), he.trans e1, e1.get hrg, hu⟩
  · obtain ⟨he, hrg, hra⟩ := h
    refine Hx.sub ?_ hb'
    refine hx_cons ?_
    with_reducible apply hs_ret
    refine hx_pv (pv_name (by kernel_rfl) (by with_unfolding_all rfl)) ?_
    with_reducible apply seq_ret
    exact hq ra σ' he (by rw [hev]; exact hra)
end

theorem intsAre_of : ∀ (ns : List Int), IntsAre (ns.map fun n => Value.int n 0) ns
  | [] => .nil
  | n :: ns => .cons n 0 (intsAre_of ns)
theorem nums_len {ns : List Int} {lo hi st : Option Int} : (pickNums ns lo hi st).length ≤ ns.length := length_pickNums_le (intsAre_of ns) lo hi st
section
variable {bs : Bs} {σ : Store} {n : Nat} {sc : Scope} {P : Prog}
theorem hx_sliceN {i : Nat} {ns : List Int} {a c : Int} {Q : AV → Bs → Store → Prop} (h : σ[i]? = some (.flist ns)) (hc : 0 ≤ a ∧ a < 100 ∧ 0 < c ∧ c < 100) (hl : ns.length < 1000) (hq : Q (.ref σ.length) bs (σ ++ [.list ((pickNums ns (some a) none (some c)).map AV.int)])) : Hx (sliceV (.ref i) (.int a) .none (.int c) : Mm P n sc AV) bs σ Q :=
  hx_sliceF h (hx_nums hc (by have := nums_len (ns := ns) (lo := some a) (hi := none) (st := some c); lia) hq)
theorem filt_true {α : Type} (l : List α) : l.filter (fun _ => true) = l := List.filter_eq_self.mpr fun _ _ => rfl
theorem flatMap_one {α β : Type} {f : α → β} (l : List α) : l.flatMap (fun x => [f x]) = l.map f := (List.map_eq_flatMap).symm
end
section
variable {bs : Bs} {σ : Store} {n : Nat} {sc : Scope} {pr : Nat → List Nat}
theorem swp_mem {a b x : Nat} {u v : List Nat} (h : x ∈ swp pr a b u v) : x ∈ u ++ a :: b :: v := by
  unfold swp at h
  split at h
  · exact h
  · simp only [List.mem_append, List.mem_cons] at h ⊢
    rcases h with h | h | h | h
    · exact .inl h
    · exact .inr (.inr (.inl h))
    · exact .inr (.inl h)
    · exact .inr (.inr (.inr h))
theorem RowOk.tog {s k : Nat} {t : List Nat} (h : RowOk s t) (hk : k + 1 < s) : RowOk s (tog pr t k) := by
  refine ⟨(tog_len (by rw [h.len]; exact hk)).trans h.len, fun x hx => h.lt x ?_⟩
  obtain ⟨u, a, b, v, rfl, hu⟩ := cut2 (show k + 1 < t.length by rw [h.len]; exact hk)
  rw [tog_eq hu] at hx
  exact swp_mem hx
theorem RowOk.led {s : Nat} : ∀ (w : List Nat) {t : List Nat}, RowOk s t → (∀ x ∈ w, x + 1 < s) → RowOk s (led pr t w)
  | [], _, h, _ => h
  | x :: w, _, h, hw => RowOk.led w (h.tog (hw x (.head _))) fun y hy => hw y (.tail _ hy)
theorem led_take {r w : List Nat} {k x : Nat} (h : w[k]? = some x) : led pr r (w.take (k + 1)) = tog pr (led pr r (w.take k)) x := by
  rw [List.take_succ, h, Option.toList_some, led_app]; rfl
theorem natsV_some {w : List Nat} {k : Nat} {x : AV} (h : (natsV w)[k]? = some x) : ∃ y, w[k]? = some y ∧ x = .int (y : Nat) := by
  unfold natsV at h
  rw [List.getElem?_map] at h
  obtain ⟨y, h1, h2⟩ := Option.map_eq_some_iff.mp h
  exact ⟨y, h1, h2.symm⟩
theorem isV_list {i : Nat} {vs : List AV} {m : Addr} (h : σ[i]? = some (.list vs)) : isV m σ (.ref i) (.ext (.ref m)) = some false := by
  show (if m = m then isMissV m σ (.ref i) else Option.none) = _
  rw [if_pos rfl]
  show (lsOf σ[i]?).map (fun _ => false) = _
  rw [h]; rfl
section
variable {ci di ra l s : Nat} {pl : Nat → Nat} {r w : List Nat} {Q : AV → Bs → Store → Prop} (hS : StepAt ci di σ) (hN : Needs di s pl pr σ) (hr : σ[ra]? = some (.list (natsV r))) (ok : RowOk s r) (hw : ∀ x ∈ w, x + 1 < s) (hn : w.length < 90) (hs : s < 64)
include hS hN hr ok hw hn hs
theorem reduce_led (hl : σ[l]? = some (.list (natsV w))) (hq : ∀ t σ', Ext σ σ' → σ'[t]? = some (.list (natsV (led pr r w))) → Q (.ref t) bs σ') : Hx (callA PP (n + 70) aReduce [.ref ci, .ref l, .ref ra] : Mm PP (n + 70) sc AV) bs σ Q := by
  refine hx_up ?_
  refine reduce_run (iv := some (.ref ra)) (vs := natsV w) (fun k v σ' => ∃ t, v = .ref t ∧ σ'[t]? = some (.list (natsV (led pr r (w.take k))))) hl (by rw [natsV_len]; lia) ⟨⟨ra, rfl, hr⟩, fun σ' e => isV_list (e.get hr)⟩
    (fun k v σ' i o a b ⟨t, h1, h2⟩ hi => ⟨t, h1, st_set_ne (ne_of hi h2 fun h => by cases h) h2⟩) (fun k v σ' t ⟨u, h1, h2⟩ => ⟨u, h1, st_old h2⟩) (fun sc m k v x σ' bs Q e hJ hx hQ => ?_) fun v σ' e hJ => ?_
  · obtain ⟨t, rfl, ht⟩ := hJ
    obtain ⟨y, hy, rfl⟩ := natsV_some hx
    have okt := RowOk.led (pr := pr) (w.take k) ok fun x hx => hw x (List.mem_of_mem_take hx)
    have hy1 := hw y (List.mem_of_getElem? hy)
    refine step_run (hS.ext e) (hN.ext e) ht hs okt.lt (by rw [okt.len]; exact hy1) (by rw [okt.len]; exact hs) fun u σ'' e2 hu => hQ _ _ e2 ⟨u, rfl, ?_⟩
    rw [led_take hy]; exact hu
  · obtain ⟨t, rfl, ht⟩ := hJ
    rw [natsV_len, List.take_length] at ht
    exact hq t σ' e ht
theorem reduce_led0 (hl : σ[l]? = some (.list ([.ref ra] ++ natsV w))) (hq : ∀ t σ', Ext σ σ' → σ'[t]? = some (.list (natsV (led pr r w))) → Q (.ref t) bs σ') : Hx (callA PP (n + 70) aReduce [.ref ci, .ref l] : Mm PP (n + 70) sc AV) bs σ Q := by
  refine hx_up ?_
  refine reduce_run (iv := none) (vs := [.ref ra] ++ natsV w) (fun k v σ' => ∃ j t, k = j + 1 ∧ v = .ref t ∧ σ'[t]? = some (.list (natsV (led pr r (w.take j))))) hl (by rw [List.length_append, natsV_len]; show 1 + w.length < 100; lia) ⟨.ref ra, rfl, 0, ra, rfl, rfl, hr⟩
    (fun k v σ' i o a b ⟨j, t, h0, h1, h2⟩ hi => ⟨j, t, h0, h1, st_set_ne (ne_of hi h2 fun h => by cases h) h2⟩) (fun k v σ' t ⟨j, u, h0, h1, h2⟩ => ⟨j, u, h0, h1, st_old h2⟩) (fun sc m k v x σ' bs Q e hJ hx hQ => ?_) fun v σ' e hJ => ?_
  · obtain ⟨j, t, rfl, rfl, ht⟩ := hJ
    have hx : (natsV w)[j]? = some x := hx
    obtain ⟨y, hy, rfl⟩ := natsV_some hx
    have okt := RowOk.led (pr := pr) (w.take j) ok fun x hx => hw x (List.mem_of_mem_take hx)
    have hy1 := hw y (List.mem_of_getElem? hy)
    refine step_run (hS.ext e) (hN.ext e) ht hs okt.lt (by rw [okt.len]; exact hy1) (by rw [okt.len]; exact hs) fun u σ'' e2 hu => hQ _ _ e2 ⟨j + 1, u, rfl, rfl, ?_⟩
    rw [led_take hy]; exact hu
  · obtain ⟨j, t, h0, rfl, ht⟩ := hJ
    rw [List.length_append, natsV_len] at h0
    have h0 : 1 + w.length = j + 1 := h0
    obtain rfl : j = w.length := by lia
    rw [List.take_length] at ht
    exact hq t σ' e ht
end
end

theorem let_ok {s p : Nat} (hs : 3 ≤ s ∧ s ≤ 6) : (stair s)[p]?.getD 0 + 1 < s := by
  rcases Nat.lt_or_ge p (stair s).length with h | h
  · rw [List.getElem?_eq_getElem h]
    exact stair_ok _ (List.getElem_mem _)
  · rw [List.getElem?_eq_none h]; show 0 + 1 < s; lia
theorem pv_neN {P : Prog} {n : Nat} {sc : Scope} {bs : Bs} {σ : Store} {m : Addr} {i j : Nat} {l l' : List Nat} (h1 : σ[i]? = some (.list (natsV l))) (h2 : σ[j]? = some (.list (natsV l'))) (e : l = l') : Pv (cmpV m .NotEq (.ref i) (.ref j) : Mm P n sc AV) bs σ (.bool false) := by
  subst e
  rw [natsV_eq] at h1 h2
  exact pv_neL h1 h2 (decide_eq_true rfl)
theorem pv_eqN {P : Prog} {n : Nat} {sc : Scope} {bs : Bs} {σ : Store} {m : Addr} {i j : Nat} {l l' : List Nat} (h1 : σ[i]? = some (.list (natsV l))) (h2 : σ[j]? = some (.list (natsV l'))) (e : l = l') : Pv (cmpV m .Eq (.ref i) (.ref j) : Mm P n sc AV) bs σ (.bool true) := by
  subst e
  rw [natsV_eq] at h1 h2
  exact pv_eqL h1 h2 (decide_eq_true rfl)
theorem RowOk.rev {s : Nat} {t : List Nat} (h : RowOk s t) : RowOk s t.reverse := ⟨List.length_reverse.trans h.len, fun x hx => h.lt x (List.mem_reverse.mp hx)⟩
structure WordOk (s : Nat) (pr : Nat → List Nat) (w : List Nat) : Prop where
  lt : ∀ x ∈ w, x + 1 < s
  len : w.length < 16
  led : ∀ r : List Nat, r.length = s → led pr r w = led pr r (stair s)
theorem word_ok {s : Nat} {pr : Nat → List Nat} {D : List Nat} (hs : 3 ≤ s ∧ s ≤ 6) (h : Lin (preds3 (stair s)) (stair s).length D) : WordOk s pr (D.map fun p => (stair s)[p]?.getD 0) where
  lt := fun x hx => by
    obtain ⟨p, _, rfl⟩ := List.mem_map.mp hx
    exact let_ok hs
  len := by
    have := ((List.perm_ext_iff_of_nodup h.nd List.nodup_range).mpr fun v => (h.mem v).trans List.mem_range.symm).length_eq
    rw [List.length_range] at this
    rw [List.length_map, this]
    exact stair_len s (size_in hs)
  led := fun r hr => led_order hs hr h
theorem natsV_map {D : List Nat} {f : Nat → Nat} : D.map (fun p => AV.int (f p : Nat)) = natsV (D.map f) := by unfold natsV; rw [List.map_map]; rfl
set_option maxHeartbeats 0 in
theorem law_third {σ : Store} {s la di ci ra r1 r2 : Nat} {pl : Nat → Nat} {pr : Nat → List Nat} {r D1 D2 : List Nat} (hs : 3 ≤ s ∧ s ≤ 6) (hL : σ[la]? = some (.list (natsV (stair s)))) (N : Needs di s pl pr σ) (S : StepAt ci di σ) (hr : σ[ra]? = some (.list (natsV r))) (ok : RowOk s r) (hb : Beh pr r)
    (hD1 : σ[r1]? = some (.list (natsV D1))) (hD2 : σ[r2]? = some (.list (natsV D2))) (linA : Lin (preds3 (stair s)) (stair s).length D1) (linB : Lin (preds3 (stair s)) (stair s).length D2) (hT : σ[1]? = some .grown) :
    Hx (execs PP 198 (fnOf (top 21)).scope ((fnOf (top 21)).body.drop 11)) [("step", .ref ci), ("singly", .ref r2), ("together", .ref r1), ("row", .ref ra), ("letters", .ref la), ("needs", .ref di), ("size", .int s)] σ (fun fl _ σ' => fl = .ret (.bool true) ∧ σ'[1]? = some .grown) := by
  have hst16 := stair_len s (size_in hs)
  have hget : ∀ p, p < (stair s).length → (natsV (stair s))[p]? = some (.int ((stair s)[p]?.getD 0 : Nat)) := fun p hp => by
    unfold natsV; rw [List.getElem?_map, List.getElem?_eq_getElem hp]; rfl
  refine hx_cons ?_
  (with_reducible apply assign_comp); (· kernel_rfl); · kernel_rfl
  refine hx_pv (pv_name (by kernel_rfl) (by with_unfolding_all rfl)) ?_
  (with_reducible apply runComp_list); · with_reducible assumption
  rw [items_nats]
  refine Hx.sub (bs' := [("letters", .ref la)]) ?_ (by (refine Sub.cons (by with_unfolding_all rfl) ?_; with_reducible exact Sub.nil))
  refine hx_compN (ι := Nat) (fun p => .int p) (fun _ => true) (fun p => .int ((stair s)[p]?.getD 0 : Nat)) (by kernel_rfl) (by with_unfolding_all rfl) hD1 (fun p hp => pv_tests0) (fun p hp _ => ?_) fun bs' => ?_
  · have hp' := (linA.mem p).mp hp
    have hw := hget p hp'
    have hp2 : p < 2 ^ 62 := by lia
    (with_reducible apply pv_item); (· kernel_rfl); (· exact pv_name (by kernel_rfl) (by with_unfolding_all rfl)); (· exact pv_name (by kernel_rfl) (by with_unfolding_all rfl)); · (with_reducible apply pv_itemN); (· with_reducible assumption); (· assumption); · assumption
  have W1 := word_ok (pr := pr) hs linA
  have W2 := word_ok (pr := pr) hs linB
  rw [filt_true, natsV_map]
  generalize (D1.map fun p => (stair s)[p]?.getD 0) = w1 at W1 ⊢
  refine hx_newC (by rw [natsV_len]; have := W1.len; lia) ?_
  have e1 : Ext σ (σ ++ [AO.list (natsV w1)]) := Ext.refl.app
  have hw1 := st_new (σ := σ) (o := AO.list (natsV w1))
  have hL := e1.get hL
  have hD2 := e1.get hD2
  have hr := e1.get hr
  have hT := e1.get hT
  have N := N.ext e1
  have S := S.ext e1
  clear hD1 e1 linA
  generalize σ ++ [AO.list (natsV w1)] = σ₁ at hw1 hL hD2 hr hT N S ⊢
  generalize σ.length = wa at hw1 ⊢
  refine seq_next (hx_cons ?_)
  (with_reducible apply assign_comp); (· kernel_rfl); · kernel_rfl
  refine hx_pv (pv_name (by kernel_rfl) (by with_unfolding_all rfl)) ?_
  (with_reducible apply runComp_list); · with_reducible assumption
  rw [items_nats]
  refine Hx.sub (bs' := [("letters", .ref la)]) ?_ (by (refine Sub.cons (by with_unfolding_all rfl) ?_; with_reducible exact Sub.nil))
  refine hx_compN (ι := Nat) (fun p => .int p) (fun _ => true) (fun p => .int ((stair s)[p]?.getD 0 : Nat)) (by kernel_rfl) (by with_unfolding_all rfl) hD2 (fun p hp => pv_tests0) (fun p hp _ => ?_) fun bs' => ?_
  · have hp' := (linB.mem p).mp hp
    have hw := hget p hp'
    have hp2 : p < 2 ^ 62 := by lia
    (with_reducible apply pv_item); (· kernel_rfl); (· exact pv_name (by kernel_rfl) (by with_unfolding_all rfl)); (· exact pv_name (by kernel_rfl) (by with_unfolding_all rfl)); · (with_reducible apply pv_itemN); (· with_reducible assumption); (· assumption); · assumption
  rw [filt_true, natsV_map]
  generalize (D2.map fun p => (stair s)[p]?.getD 0) = w2 at W2 ⊢
  refine hx_newC (by rw [natsV_len]; have := W2.len; lia) ?_
  have e2 : Ext σ₁ (σ₁ ++ [AO.list (natsV w2)]) := Ext.refl.app
  have hw2 := st_new (σ := σ₁) (o := AO.list (natsV w2))
  have hw1 := e2.get hw1
  have hr := e2.get hr
  have hT := e2.get hT
  have N := N.ext e2
  have S := S.ext e2
  clear hD2 e2 linB hL hget
  generalize σ₁ ++ [AO.list (natsV w2)] = σ₂ at hw1 hw2 hr hT N S ⊢
  generalize σ₁.length = wb at hw2 ⊢
  refine seq_next (hx_cons ?_)
  refine hs_assign (by kernel_rfl) (by kernel_rfl) ?_
  refine hx_call rfl ?_
  refine hx_pv (pv_glob (by kernel_rfl) (by with_unfolding_all rfl)) ?_
  refine hx_args1 rfl ?_
  refine hx_pv (pv_name (by kernel_rfl) (by with_unfolding_all rfl)) ?_
  refine hx_args1 rfl ?_
  refine hx_pv (pv_name (by kernel_rfl) (by with_unfolding_all rfl)) ?_
  refine hx_args1 rfl ?_
  refine hx_pv (pv_name (by kernel_rfl) (by with_unfolding_all rfl)) ?_
  refine hx_args0 (hx_callF rfl ?_)
  have l1 := W1.len
  have l2 := W2.len
  refine reduce_led S N hr ok W1.lt (by lia) (by lia) hw1 fun ta σ₃ e3 ht => ?_
  rw [W1.led r ok.len] at ht
  have okT := RowOk.led (pr := pr) (stair s) ok stair_ok
  have hw1 := e3.get hw1
  have hw2 := e3.get hw2
  have hr := e3.get hr
  have hT := e3.get hT
  have N := N.ext e3
  have S := S.ext e3
  clear e3
  refine seq_next (hx_cons ?_)
  refine hs_assign (by kernel_rfl) (by kernel_rfl) ?_
  refine hx_call rfl ?_
  refine hx_pv (pv_glob (by kernel_rfl) (by with_unfolding_all rfl)) ?_
  refine hx_args1 rfl ?_
  refine hx_pv (pv_name (by kernel_rfl) (by with_unfolding_all rfl)) ?_
  refine hx_args1 rfl ?_
  with_reducible apply hx_bin
  with_reducible apply hx_list
  (with_reducible apply hx_evs1); · rfl
  refine hx_pv (pv_name (by kernel_rfl) (by with_unfolding_all rfl)) ?_
  with_reducible apply hx_evs0
  (with_reducible apply hx_newL); · simp only [List.length_append, List.length_map, List.length_cons, List.length_nil, List.length_replicate, List.length_range, natsV_len]; lia
  refine hx_pv (pv_name (by kernel_rfl) (by with_unfolding_all rfl)) ?_
  (with_reducible apply hx_cat); (· with_reducible exact st_new); (· (with_reducible apply st_old); with_reducible assumption); · simp only [List.length_append, List.length_map, List.length_cons, List.length_nil, List.length_replicate, List.length_range, natsV_len]; lia
  refine hx_args0 (hx_callF rfl ?_)
  have hn : 3 ≤ r.length ∧ r.length ≤ 6 := by rw [ok.len]; exact hs
  have E1 := evac_evac hn hb
  have E2 := slide_evac_slide hn hb
  have E3 := slides_turned hn hb
  have E4 := evac_led hb
  rw [ok.len] at E1 E2 E3 E4
  have x4 : Ext σ₃ (σ₃ ++ [AO.list [AV.ref ta]] ++ [AO.list ([AV.ref ta] ++ natsV w2)]) := Ext.refl.app.app
  refine reduce_led0 (S.ext x4) (N.ext x4) (x4.get ht) okT W2.lt (by lia) (by lia) st_new fun t2 σ₄ e4 hag => ?_
  rw [W2.led _ okT.len, E1] at hag
  have e4 := x4.trans e4
  have ht := e4.get ht
  have hw1 := e4.get hw1
  have hw2 := e4.get hw2
  have hr := e4.get hr
  have hT := e4.get hT
  have N := N.ext e4
  have S := S.ext e4
  clear e4 x4 E1
  refine seq_next (hx_cons ?_)
  refine hs_assign (by kernel_rfl) (by kernel_rfl) ?_
  refine hx_call rfl ?_
  refine hx_pv (pv_glob (by kernel_rfl) (by with_unfolding_all rfl)) ?_
  refine hx_args1 rfl ?_
  refine hx_pv (pv_name (by kernel_rfl) (by with_unfolding_all rfl)) ?_
  refine hx_args1 rfl ?_
  refine hx_pv (pv_name (by kernel_rfl) (by with_unfolding_all rfl)) ?_
  refine hx_args1 rfl ?_
  refine hx_call rfl ?_
  refine hx_pv (pv_glob (by kernel_rfl) (by with_unfolding_all rfl)) ?_
  refine hx_args1 rfl ?_
  refine hx_pv (pv_name (by kernel_rfl) (by with_unfolding_all rfl)) ?_
  refine hx_args1 rfl ?_
  refine hx_pv (pv_name (by kernel_rfl) (by with_unfolding_all rfl)) ?_
  refine hx_args0 (hx_callF rfl ?_)
  refine slide_run N hr (by lia) ok.lt (by lia) (by lia) fun t3 σ₅ e5 hsl => ?_
  have ht := e5.get ht
  have hw1 := e5.get hw1
  have hw2 := e5.get hw2
  have hr := e5.get hr
  have hT := e5.get hT
  have hag := e5.get hag
  have N := N.ext e5
  have S := S.ext e5
  clear e5
  have okS := ok.slide (pr := pr)
  refine hx_args0 (hx_callF rfl ?_)
  refine reduce_led S N hsl okS W1.lt (by lia) (by lia) hw1 fun t4 σ₆ e6 haf => ?_
  rw [W1.led _ okS.len] at haf
  have okA := RowOk.led (pr := pr) (stair s) okS stair_ok
  have ht := e6.get ht
  have hw2 := e6.get hw2
  have hr := e6.get hr
  have hT := e6.get hT
  have hag := e6.get hag
  have N := N.ext e6
  have S := S.ext e6
  clear e6 hsl hw1 okS
  generalize hTr : led pr r (stair s) = T at ht okT E2 E3 E4
  generalize led pr (slide pr r) (stair s) = Af at haf okA E2
  have hll : (natsV T ++ natsV r).length ≤ 1000000 := by rw [List.length_append, natsV_len, natsV_len, okT.len, ok.len]; lia
  refine seq_next (hx_cons ?_)
  refine hs_assign (by kernel_rfl) (by kernel_rfl) ?_
  refine hx_call rfl ?_
  refine hx_pv (pv_glob (by kernel_rfl) (by with_unfolding_all rfl)) ?_
  refine hx_args1 rfl ?_
  with_reducible apply hx_bin
  refine hx_pv (pv_name (by kernel_rfl) (by with_unfolding_all rfl)) ?_
  refine hx_pv (pv_name (by kernel_rfl) (by with_unfolding_all rfl)) ?_
  (with_reducible apply hx_cat); (· with_reducible assumption); (· with_reducible assumption); · assumption
  refine hx_args1 rfl ?_
  refine hx_pv (pv_name (by kernel_rfl) (by with_unfolding_all rfl)) ?_
  refine hx_args0 (hx_callF rfl ?_)
  rw [← natsV_app]
  have x6 : Ext σ₆ (σ₆ ++ [AO.list (natsV (T ++ r))]) := Ext.refl.app
  refine turned_run (w := s) st_new (fun x hx => ?_) (by lia) (.inr ⟨hs.1, by rw [List.length_append, okT.len, ok.len]; lia⟩) fun t5 σ₇ e7 htu => ?_
  · rcases List.mem_append.mp hx with hx | hx
    · have := okT.lt x hx; lia
    · have := ok.lt x hx; lia
  rw [List.take_left' okT.len, List.drop_left' okT.len] at htu
  have e7 := x6.trans e7
  have ht := e7.get ht
  have hw2 := e7.get hw2
  have hr := e7.get hr
  have hT := e7.get hT
  have hag := e7.get hag
  have haf := e7.get haf
  have N := N.ext e7
  have S := S.ext e7
  clear e7 x6
  refine seq_next (hx_cons ?_)
  refine hs_assign (by kernel_rfl) (by kernel_rfl) ?_
  refine hx_call rfl ?_
  refine hx_pv (pv_glob (by kernel_rfl) (by with_unfolding_all rfl)) ?_
  refine hx_args1 rfl ?_
  refine hx_pv (pv_name (by kernel_rfl) (by with_unfolding_all rfl)) ?_
  refine hx_args1 rfl ?_
  refine hx_pv (pv_name (by kernel_rfl) (by with_unfolding_all rfl)) ?_
  refine hx_args1 rfl ?_
  have htl : (natsV (T.reverse ++ r.reverse)).length = 2 * s := by rw [natsV_len, List.length_append, List.length_reverse, List.length_reverse, okT.len, ok.len]; lia
  refine hx_slice ?_
  refine hx_pv (pv_name (by kernel_rfl) (by with_unfolding_all rfl)) ?_
  refine hx_pv pv_opt0 (hx_pv (pv_opt (by (exact pv_name (by kernel_rfl) (by with_unfolding_all rfl)))) (hx_pv pv_opt0 (hx_sliceL htu (hx_upto (by lia) (by rw [htl]; lia) ?_))))
  rw [clamp_nat, htl, Nat.min_eq_left (by lia), natsV_take, List.take_left' okT.rev.len]
  have x7 : Ext σ₇ (σ₇ ++ [AO.list (natsV T.reverse)]) := Ext.refl.app
  refine hx_args0 (hx_callF rfl ?_)
  refine reduce_led (S.ext x7) (N.ext x7) st_new okT.rev W2.lt (by lia) (by lia) (x7.get hw2) fun t6 σ₈ e8 hbe => ?_
  rw [W2.led _ okT.rev.len] at hbe
  have okB := RowOk.led (pr := pr) (stair s) okT.rev stair_ok
  generalize led pr T.reverse (stair s) = Be at hbe okB E3
  have e8 := x7.trans e8
  have ht := e8.get ht
  have hr := e8.get hr
  have hT := e8.get hT
  have hag := e8.get hag
  have haf := e8.get haf
  have htu := e8.get htu
  have N := N.ext e8
  clear e8 x7 hw2 S W1 W2 l1 l2
  refine seq_next (hx_cons ?_)
  with_reducible apply hs_ifH
  with_reducible apply hx_tBool
  with_reducible apply hx_or
  (with_reducible apply hx_tCmp); · kernel_rfl
  refine hx_pv (pv_name (by kernel_rfl) (by with_unfolding_all rfl)) ?_
  refine hx_call rfl ?_
  refine hx_pv (pv_glob (by kernel_rfl) (by with_unfolding_all rfl)) ?_
  refine hx_args1 rfl ?_
  refine hx_pv (pv_name (by kernel_rfl) (by with_unfolding_all rfl)) ?_
  refine hx_args1 rfl ?_
  refine hx_pv (pv_name (by kernel_rfl) (by with_unfolding_all rfl)) ?_
  refine hx_args0 (hx_callF rfl ?_)
  refine evac_run N hr hs ok fun t7 σ₉ e9 hev => ?_
  rw [E4] at hev
  have ht := e9.get ht
  have hr := e9.get hr
  have hT := e9.get hT
  have hag := e9.get hag
  have haf := e9.get haf
  have htu := e9.get htu
  have hbe := e9.get hbe
  have N := N.ext e9
  clear e9
  refine hx_pv (pv_neN ht hev rfl) ⟨_, rfl, fun q => (by cases q), fun _ => ?_⟩
  with_reducible apply hx_or
  (with_reducible apply hx_tCmp); · kernel_rfl
  refine hx_pv (pv_name (by kernel_rfl) (by with_unfolding_all rfl)) ?_
  refine hx_pv (pv_name (by kernel_rfl) (by with_unfolding_all rfl)) ?_
  refine hx_pv (pv_neN hag hr rfl) ⟨_, rfl, fun q => (by cases q), fun _ => ?_⟩
  with_reducible apply hx_or
  (with_reducible apply hx_tCmp); · kernel_rfl
  refine hx_call rfl ?_
  refine hx_pv (pv_glob (by kernel_rfl) (by with_unfolding_all rfl)) ?_
  refine hx_args1 rfl ?_
  refine hx_pv (pv_name (by kernel_rfl) (by with_unfolding_all rfl)) ?_
  refine hx_args1 rfl ?_
  refine hx_pv (pv_name (by kernel_rfl) (by with_unfolding_all rfl)) ?_
  refine hx_args0 (hx_callF rfl ?_)
  refine slide_run N haf (by lia) okA.lt (by rw [okA.len]; lia) (by rw [okA.len]; lia) fun t8 σ₁₀ e10 hs8 => ?_
  rw [E2] at hs8
  have ht := e10.get ht
  have hr := e10.get hr
  have hT := e10.get hT
  have htu := e10.get htu
  have hbe := e10.get hbe
  have N := N.ext e10
  clear e10 hag haf hev
  refine hx_pv (pv_name (by kernel_rfl) (by with_unfolding_all rfl)) ?_
  refine hx_pv (pv_neN hs8 ht rfl) ⟨_, rfl, fun q => (by cases q), fun _ => ?_⟩
  with_reducible apply hx_allOr
  with_reducible apply br_false
  with_reducible apply hx_nil
  refine seq_next (hx_cons ?_)
  with_reducible apply hs_ret
  refine hx_bool (hx_boolAnd ?_)
  (with_reducible apply hx_cmp); · kernel_rfl
  refine hx_slice ?_
  refine hx_pv (pv_name (by kernel_rfl) (by with_unfolding_all rfl)) ?_
  refine hx_pv (pv_opt (by (exact pv_name (by kernel_rfl) (by with_unfolding_all rfl)))) (hx_pv pv_opt0 (hx_pv pv_opt0 (hx_sliceL htu (hx_from (by lia) (by rw [htl]; lia) ?_))))
  rw [clamp_nat, htl, Nat.min_eq_left (by lia), natsV_drop, List.drop_left' okT.rev.len]
  have hx1 := st_new (σ := σ₁₀) (o := AO.list (natsV r.reverse))
  have x1 : Ext σ₁₀ (σ₁₀ ++ [AO.list (natsV r.reverse)]) := Ext.refl.app
  have hr := x1.get hr
  have hT := x1.get hT
  have hbe := x1.get hbe
  have N := N.ext x1
  clear x1 htu ht hs8
  generalize σ₁₀ ++ [AO.list (natsV r.reverse)] = σ₁₁ at hx1 hr hT hbe N ⊢
  generalize σ₁₀.length = y1 at hx1 ⊢
  refine hx_slice ?_
  refine hx_pv (pv_name (by kernel_rfl) (by with_unfolding_all rfl)) ?_
  refine hx_pv pv_opt0 (hx_pv pv_opt0 (hx_pv (pv_opt (by ((with_reducible apply pv_neg); with_reducible exact pv_int))) (hx_sliceL hr (hx_rev (by rw [natsV_len, ok.len]; lia) ?_))))
  rw [show (natsV r).reverse = natsV r.reverse by unfold natsV; rw [List.map_reverse]]
  refine hx_pv (pv_eqN (st_old hx1) st_new rfl) ⟨true, rfl, fun q => (by cases q), fun _ => hx_bool1 ?_⟩
  have x2 : Ext σ₁₁ (σ₁₁ ++ [AO.list (natsV r.reverse)]) := Ext.refl.app
  have hr := x2.get hr
  have hT := x2.get hT
  have hbe := x2.get hbe
  have N := N.ext x2
  clear x2 hx1
  generalize σ₁₁ ++ [AO.list (natsV r.reverse)] = σ₁₂ at hr hT hbe N ⊢
  (with_reducible apply hx_cmp); · kernel_rfl
  refine hx_call rfl ?_
  refine hx_pv (pv_glob (by kernel_rfl) (by with_unfolding_all rfl)) ?_
  refine hx_args1 rfl ?_
  refine hx_pv (pv_name (by kernel_rfl) (by with_unfolding_all rfl)) ?_
  refine hx_args1 rfl ?_
  refine hx_pv (pv_name (by kernel_rfl) (by with_unfolding_all rfl)) ?_
  refine hx_args0 (hx_callF rfl ?_)
  refine turned_run (w := s) hbe (fun x hx => by have := okB.lt x hx; lia) (by lia) (.inl okB.len) fun t9 σ₁₃ e13 h9 => ?_
  rw [show Be.take s = Be by rw [← okB.len, List.take_length], show Be.drop s = [] by rw [← okB.len, List.drop_length], List.reverse_nil, List.append_nil, E3] at h9
  have hr := e13.get hr
  have hT := e13.get hT
  have N := N.ext e13
  clear e13 hbe
  refine hx_call rfl ?_
  refine hx_pv (pv_glob (by kernel_rfl) (by with_unfolding_all rfl)) ?_
  refine hx_args1 rfl ?_
  refine hx_pv (pv_name (by kernel_rfl) (by with_unfolding_all rfl)) ?_
  refine hx_args1 rfl ?_
  refine hx_pv (pv_name (by kernel_rfl) (by with_unfolding_all rfl)) ?_
  refine hx_args0 (hx_callF rfl ?_)
  refine slides_run N hr hs ok fun t10 σ₁₄ e14 h10 => ?_
  refine hx_pv (pv_eqN (e14.get h9) h10 rfl) ?_
  with_reducible apply seq_ret
  exact ⟨rfl, e14.get hT⟩

theorem exch_keep {σ : Store} {x : Nat} {o a b c : AO} (ht : σ[1]? = some (.tab 1 181)) (h : σ[x]? = some o) (hne : AO.tab 1 181 ≠ o) : (σ.set 1 .grown ++ [a] ++ [b] ++ [c])[x]? = some o := st_old (st_old (st_old (st_set_ne (ne_of ht h hne) h)))
theorem beh_lin {pr : Nat → List Nat} {n : Nat} {D : List Nat} (h : Lin pr n D) : Beh pr D := by
  unfold Beh
  refine List.pairwise_iff_forall_sublist.mpr fun {a b} hs q => ?_
  obtain ⟨p1, p2, rfl⟩ := List.append_of_mem (hs.subset (.head _))
  have h1 := h.ord p1 a p2 rfl b q
  have hn := h.nd
  obtain ⟨n1, n2, n3⟩ := List.nodup_append.mp hn
  have hc := List.nodup_cons.mp n2
  have h2 : ([a, b] : List Nat).Sublist (p1 ++ a :: p2) := hs
  have hb : b ∈ p2 := by
    have := (List.sublist_append_iff.mp h2)
    obtain ⟨l1, l2, e, s1, s2⟩ := this
    have ha1 : a ∉ p1 := fun c => n3 a c a (.head _) rfl
    cases l1 with
    | nil =>
      rw [List.nil_append] at e
      subst e
      cases s2 with
      | cons _ s2 => exact absurd (s2.subset (.head _)) hc.1
      | cons_cons _ s2 => exact s2.subset (.head _)
    | cons x l1 =>
      injection e with e1 e2
      exact absurd (s1.subset (e1 ▸ .head _)) ha1
  exact n3 b h1 b (.tail _ hb) rfl
theorem lin_row {pr : Nat → List Nat} {n : Nat} {D : List Nat} (h : Lin pr n D) : RowOk n D := by
  refine ⟨?_, fun x hx => (h.mem x).mp hx⟩
  have := ((List.perm_ext_iff_of_nodup h.nd List.nodup_range).mpr fun v => (h.mem v).trans List.mem_range.symm).length_eq
  rwa [List.length_range] at this
set_option maxHeartbeats 0 in
theorem law_half {σ : Store} {s ca la di mi : Nat} {pl pm : Nat → Nat} {cl : List Int} {X : Int} (hs : 3 ≤ s ∧ s ≤ 6) (hc : σ[ca]? = some (.list (cl.map AV.int))) (hc6 : (cl.map AV.int)[(6 : Int).toNat]? = some (.int X)) (hL : σ[la]? = some (.list (natsV (stair s))))
    (N : Needs di s pl (preds1 cl) σ) (M : Needs mi (stair s).length pm (preds3 (stair s)) σ) (hT : σ[1]? = some (.tab 1 181)) :
    Hx (execs PP 198 (fnOf (top 21)).scope ((fnOf (top 21)).body.drop 6)) [("meetings", .ref mi), ("letters", .ref la), ("needs", .ref di), ("size", .int s), ("cells", .ref ca)] σ (fun fl _ σ' => fl = .ret (.bool true) ∧ σ'[1]? = some .grown) := by
  refine hx_cons ?_
  have hst16 := stair_len s (size_in hs)
  refine hs_assign (by kernel_rfl) (by kernel_rfl) ?_
  refine hx_call rfl ?_
  refine hx_pv (pv_glob (by kernel_rfl) (by with_unfolding_all rfl)) ?_
  refine hx_args1 rfl ?_
  refine hx_pv (pv_name (by kernel_rfl) (by with_unfolding_all rfl)) ?_
  refine hx_args1 rfl ?_
  (with_reducible apply hx_pv); · (with_reducible apply pv_item); (· kernel_rfl); (· exact pv_name (by kernel_rfl) (by with_unfolding_all rfl)); (· with_reducible exact pv_int); · (with_reducible apply pv_itemC); (· with_reducible assumption); (· decide); · assumption
  refine hx_args0 (hx_callF rfl ?_)
  refine order_run N preds1_acy (by lia) (.inr ⟨X, rfl⟩) fun ra r σ₈ e8 hr lin1 => ?_
  have hT := e8.get hT
  have hc := e8.get hc
  have hL := e8.get hL
  have N := N.ext e8
  have M := M.ext e8
  clear e8
  refine seq_next (hx_cons ?_)
  refine hs_assign (by kernel_rfl) (by kernel_rfl) ?_
  refine hx_call rfl ?_
  refine hx_pv (pv_glob (by kernel_rfl) (by with_unfolding_all rfl)) ?_
  refine hx_args1 rfl ?_
  refine hx_pv (pv_name (by kernel_rfl) (by with_unfolding_all rfl)) ?_
  refine hx_args1 rfl ?_
  (with_reducible apply hx_pv); · with_reducible exact pv_none
  refine hx_args0 (hx_callF rfl ?_)
  refine order_run M preds3_acy hst16 (.inl rfl) fun r1 D1 σ₉ e9 hD1 linA => ?_
  have hT := e9.get hT
  have hc := e9.get hc
  have hL := e9.get hL
  have hr := e9.get hr
  have N := N.ext e9
  have M := M.ext e9
  clear e9
  have h64 : (0 : Int) < 64 ∧ (64 : Int) < 2 ^ 62 := by decide
  refine seq_next (hx_cons ?_)
  refine hs_assign (by kernel_rfl) (by kernel_rfl) ?_
  refine hx_call rfl ?_
  refine hx_pv (pv_glob (by kernel_rfl) (by with_unfolding_all rfl)) ?_
  refine hx_args1 rfl ?_
  refine hx_pv (pv_name (by kernel_rfl) (by with_unfolding_all rfl)) ?_
  refine hx_args1 rfl ?_
  (with_reducible apply hx_pv); · (with_reducible apply pv_bin); (· (with_reducible apply pv_item); (· kernel_rfl); (· exact pv_name (by kernel_rfl) (by with_unfolding_all rfl)); (· with_reducible exact pv_int); · (with_reducible apply pv_itemC); (· with_reducible assumption); (· decide); · assumption); (· with_reducible exact pv_int); · (with_reducible apply pv_div); assumption
  refine hx_args0 (hx_callF rfl ?_)
  refine order_run M preds3_acy hst16 (.inr ⟨X / 64, rfl⟩) fun r2 D2 σ₁₀ e10 hD2 linB => ?_
  have hT := e10.get hT
  have hL := e10.get hL
  have hr := e10.get hr
  have hD1 := e10.get hD1
  have N := N.ext e10
  clear M hc e10 hc6 h64
  refine seq_next (hx_cons ?_)
  with_reducible apply hs_ifH
  with_reducible apply hx_tBool
  with_reducible apply hx_or
  (with_reducible apply hx_pv); · (with_reducible apply pv_tCmp); (· kernel_rfl); (· exact pv_name (by kernel_rfl) (by with_unfolding_all rfl)); (· with_reducible exact pv_none); · (with_reducible apply pv_is); rfl
  with_reducible apply br_false
  with_reducible apply hx_or
  (with_reducible apply hx_pv); · (with_reducible apply pv_tCmp); (· kernel_rfl); (· exact pv_name (by kernel_rfl) (by with_unfolding_all rfl)); (· with_reducible exact pv_none); · (with_reducible apply pv_is); rfl
  with_reducible apply br_false
  with_reducible apply hx_or
  (with_reducible apply hx_pv); · (with_reducible apply pv_tCmp); (· kernel_rfl); (· exact pv_name (by kernel_rfl) (by with_unfolding_all rfl)); (· with_reducible exact pv_none); · (with_reducible apply pv_is); rfl
  with_reducible apply br_false
  with_reducible apply hx_allOr
  with_reducible apply br_false
  with_reducible apply hx_nil
  refine seq_next (hx_cons ?_)
  refine hs_assign (by kernel_rfl) (by kernel_rfl) ?_
  refine hx_call rfl ?_
  refine hx_pv (pv_glob (by kernel_rfl) (by with_unfolding_all rfl)) ?_
  refine hx_args1 rfl ?_
  refine hx_pv (pv_name (by kernel_rfl) (by with_unfolding_all rfl)) ?_
  refine hx_args0 (hx_callF rfl ?_)
  refine exch_run hT fun q => ?_
  have k : ∀ {x : Nat} {o : AO}, σ₁₀[x]? = some o → AO.tab 1 181 ≠ o → (σ₁₀.set 1 .grown ++ [AO.cell (.ref di)] ++ [AO.code q] ++ [AO.clos fStep "needs" q σ₁₀.length (σ₁₀.length + 1)])[x]? = some o := fun h hne => exch_keep hT h hne
  have hL := k hL (fun h => by cases h)
  have hr := k hr (fun h => by cases h)
  have hD1 := k hD1 (fun h => by cases h)
  have hD2 := k hD2 (fun h => by cases h)
  have N : Needs di s pl (preds1 cl) (σ₁₀.set 1 .grown ++ [AO.cell (.ref di)] ++ [AO.code q] ++ [AO.clos fStep "needs" q σ₁₀.length (σ₁₀.length + 1)]) := ⟨k N.d (fun h => by cases h), fun i hi => k (N.l i hi) (fun h => by cases h), N.lt, N.len⟩
  have hl1 : (σ₁₀.set 1 .grown).length = σ₁₀.length := List.length_set
  have hG : (σ₁₀.set 1 .grown ++ [AO.cell (.ref di)] ++ [AO.code q] ++ [AO.clos fStep "needs" q σ₁₀.length (σ₁₀.length + 1)])[1]? = some .grown := st_old (st_old (st_old (st_set hT)))
  have S : StepAt (σ₁₀.length + 2) di (σ₁₀.set 1 .grown ++ [AO.cell (.ref di)] ++ [AO.code q] ++ [AO.clos fStep "needs" q σ₁₀.length (σ₁₀.length + 1)]) := by
    refine ⟨q, σ₁₀.length, σ₁₀.length + 1, ?_, ?_, ?_⟩
    · have := @st_new (σ₁₀.set 1 .grown ++ [AO.cell (.ref di)] ++ [AO.code q]) (.clos fStep "needs" q σ₁₀.length (σ₁₀.length + 1))
      rw [List.length_append, List.length_append, hl1] at this
      exact this
    · have := @st_new (σ₁₀.set 1 .grown) (.cell (.ref di))
      rw [hl1] at this
      exact st_old (st_old this)
    · have := @st_new (σ₁₀.set 1 .grown ++ [AO.cell (.ref di)]) (.code q)
      rw [List.length_append, hl1] at this
      exact st_old this
  refine seq_next ?_
  refine Hx.sub (law_third hs hL N S hr (lin_row lin1) (beh_lin lin1) hD1 hD2 linA linB hG) ?_
  refine Sub.cons (by with_unfolding_all rfl) ?_; refine Sub.cons (by with_unfolding_all rfl) ?_; refine Sub.cons (by with_unfolding_all rfl) ?_; refine Sub.cons (by with_unfolding_all rfl) ?_; refine Sub.cons (by with_unfolding_all rfl) ?_; refine Sub.cons (by with_unfolding_all rfl) ?_; refine Sub.cons (by with_unfolding_all rfl) ?_; with_reducible exact Sub.nil

noncomputable def start1 : List Int := [0, 3, 2, 8, 5, 2, 3329]
noncomputable def cellF (ns : List Int) (p : Nat) : Int := (start1[p]?.getD 0) + (pickNums ns (some (p : Int)) none (some 7)).sum
theorem down0_items {s : Nat} (h : 3 ≤ s ∧ s ≤ 6) : (rangeInts ((s : Int) - 1) 0 (-1)).map (fun k => Item.one (.int k)) = (List.range (s - 1)).map fun (i : Nat) => Item.one (.int ((s - 1 - i : Nat) : Int)) := by
  have : s = 3 ∨ s = 4 ∨ s = 5 ∨ s = 6 := by lia
  rcases this with rfl | rfl | rfl | rfl <;> kernel_rfl
theorem stair_part {s : Nat} : ∀ (l : List Nat), (l.flatMap fun i => List.range (s - 1 - i)).length ≤ l.length * s
  | [] => Nat.zero_le _
  | i :: l => by
    rw [List.flatMap_cons, List.length_append, List.length_range, List.length_cons, Nat.add_mul, Nat.one_mul]
    have := stair_part (s := s) l
    lia
set_option maxHeartbeats 0 in
theorem law_walk {σ₀ : Store} {ns : List Int} (hn : ns.length ≤ 63) (h0 : σ₀[0]? = some (.flist ns)) (hT : σ₀[1]? = some (.tab 1 181)) : Hx (execs PP 198 (fnOf (top 21)).scope (fnOf (top 21)).body) [("script", .ref 0)] σ₀ (fun fl _ σ' => fl = .ret (.bool true) ∧ σ'[1]? = some .grown) := by
  refine hx_cons ?_
  refine hs_assign (by kernel_rfl) (by kernel_rfl) ?_
  with_reducible apply hx_list
  (with_reducible apply hx_evs1); · rfl
  refine hx_pv pv_int ?_
  (with_reducible apply hx_evs1); · rfl
  refine hx_pv pv_int ?_
  (with_reducible apply hx_evs1); · rfl
  refine hx_pv pv_int ?_
  (with_reducible apply hx_evs1); · rfl
  refine hx_pv pv_int ?_
  (with_reducible apply hx_evs1); · rfl
  refine hx_pv pv_int ?_
  (with_reducible apply hx_evs1); · rfl
  refine hx_pv pv_int ?_
  (with_reducible apply hx_evs1); · rfl
  refine hx_pv pv_int ?_
  with_reducible apply hx_evs0
  (with_reducible apply hx_newL); · decide
  refine seq_next (hx_cons ?_)
  (with_reducible apply assign_comp); (· kernel_rfl); · kernel_rfl
  refine hx_call rfl ?_
  refine hx_pv (pv_glob (by kernel_rfl) (by with_unfolding_all rfl)) ?_
  refine hx_args1 rfl ?_
  refine hx_pv pv_int ?_
  refine hx_args0 (hx_callT ?_)
  (with_reducible apply hx_range1); · decide
  (with_reducible apply runComp_range); (· with_reducible exact st_new); · decide
  have hri : (rangeInts 0 7 1).map (fun k => Item.one (.int k)) = (List.range 7).map fun (i : Nat) => Item.one (.int i) := range_items 7
  rw [hri]
  have hst : (σ₀ ++ [AO.list [AV.int 0, AV.int 3, AV.int 2, AV.int 8, AV.int 5, AV.int 2, AV.int 3329]] ++ [AO.range 0 7 1])[σ₀.length]? = some (.list (start1.map AV.int)) := st_old st_new
  have h1 := st_old (t := [AO.range 0 7 1]) (st_old (t := [AO.list [AV.int 0, AV.int 3, AV.int 2, AV.int 8, AV.int 5, AV.int 2, AV.int 3329]]) h0)
  have hT := st_old (t := [AO.range 0 7 1]) (st_old (t := [AO.list [AV.int 0, AV.int 3, AV.int 2, AV.int 8, AV.int 5, AV.int 2, AV.int 3329]]) hT)
  have hrg : (σ₀ ++ [AO.list [AV.int 0, AV.int 3, AV.int 2, AV.int 8, AV.int 5, AV.int 2, AV.int 3329]] ++ [AO.range 0 7 1])[(σ₀ ++ [AO.list [AV.int 0, AV.int 3, AV.int 2, AV.int 8, AV.int 5, AV.int 2, AV.int 3329]]).length]? = some (.range 0 7 1) := st_new
  generalize σ₀ ++ [AO.list [AV.int 0, AV.int 3, AV.int 2, AV.int 8, AV.int 5, AV.int 2, AV.int 3329]] ++ [AO.range 0 7 1] = σ₁ at hst h1 hrg hT ⊢
  generalize (σ₀ ++ [AO.list [AV.int 0, AV.int 3, AV.int 2, AV.int 8, AV.int 5, AV.int 2, AV.int 3329]]).length = rg at hrg ⊢
  generalize σ₀.length = sa at hst ⊢
  refine Hx.sub (bs' := [("start", .ref sa), ("script", .ref 0)]) ?_ (by (refine Sub.cons (by with_unfolding_all rfl) ?_; refine Sub.cons (by with_unfolding_all rfl) ?_; with_reducible exact Sub.nil))
  refine hx_compE (ι := Nat) (mk := fun o => Item.one (AV.int o)) (G := fun (p : Nat) => [AV.int (cellF ns p)]) hrg (fun p hp σ₅ e5 => ?_) fun bs' σ₂ e2 => ?_
  · have hp := List.mem_range.mp hp
    have hst := e5.get hst
    have h1 := e5.get h1
    refine hx_cbindN (by kernel_rfl) ?_
    refine hx_cbody (hx_tests0 ⟨fun _ => ?_, fun q => (by cases q)⟩)
    refine hx_inner0 ?_
    have hsp : (start1.map AV.int)[p]? = some (.int (start1[p]?.getD 0)) := by
      rw [List.getElem?_map, List.getElem?_eq_getElem (show p < start1.length from hp)]; rfl
    with_reducible apply hx_bin
    (with_reducible apply hx_pv); · (with_reducible apply pv_item); (· kernel_rfl); (· exact pv_name (by kernel_rfl) (by with_unfolding_all rfl)); (· exact pv_name (by kernel_rfl) (by with_unfolding_all rfl)); · (with_reducible apply pv_itemN); (· with_reducible assumption); (· lia); · assumption
    refine hx_call rfl ?_
    refine hx_pv (pv_glob (by kernel_rfl) (by with_unfolding_all rfl)) ?_
    refine hx_args1 rfl ?_
    refine hx_slice ?_
    refine hx_pv (pv_name (by kernel_rfl) (by with_unfolding_all rfl)) ?_
    refine hx_pv (pv_opt (by (exact pv_name (by kernel_rfl) (by with_unfolding_all rfl)))) (hx_pv pv_opt0 (hx_pv (pv_opt (by (with_reducible exact pv_int))) (hx_sliceN h1 (by lia) (by lia) ?_)))
    refine hx_args0 ?_
    with_reducible apply hx_callB
    refine hx_pv (pv_sum st_new (asInts_map _)) ?_
    (with_reducible apply hx_pv); · with_reducible exact pv_add
    exact ⟨by (refine Sub.cons (by with_unfolding_all rfl) ?_; refine Sub.cons (by with_unfolding_all rfl) ?_; with_reducible exact Sub.nil), e5.app, rfl⟩
  rw [flatMap_one]
  have hT := e2.get hT
  clear hst h1 hrg e2 hri
  have hcl : (List.range 7).map (fun p => AV.int (cellF ns p)) = ((List.range 7).map (cellF ns)).map AV.int := by rw [List.map_map]; rfl
  have hcll : ((List.range 7).map (cellF ns)).length = 7 := by rw [List.length_map, List.length_range]
  have hc5 : (((List.range 7).map (cellF ns)).map AV.int)[(5 : Int).toNat]? = some (.int (cellF ns 5)) := rfl
  have hc6 : (((List.range 7).map (cellF ns)).map AV.int)[(6 : Int).toNat]? = some (.int (cellF ns 6)) := rfl
  rw [hcl]
  generalize (List.range 7).map (cellF ns) = cl at hcll hc5 hc6 ⊢
  generalize cellF ns 5 = c5 at hc5 ⊢
  generalize cellF ns 6 = X at hc6
  clear hcl
  refine hx_newC (by rw [List.length_map, hcll]; decide) ?_
  have hc := st_new (σ := σ₂) (o := AO.list (cl.map AV.int))
  have hT := st_old (t := [AO.list (cl.map AV.int)]) hT
  generalize σ₂ ++ [AO.list (cl.map AV.int)] = σ₃ at hc hT ⊢
  generalize σ₂.length = ca at hc ⊢
  obtain ⟨s, hs, hsz⟩ : ∃ s : Nat, (3 ≤ s ∧ s ≤ 6) ∧ 3 + c5 % 4 = (s : Int) := ⟨(3 + c5 % 4).toNat, by lia, by lia⟩
  have h4 : (0 : Int) < 4 := by decide
  refine seq_next (hx_cons ?_)
  refine hs_assign (by kernel_rfl) (by kernel_rfl) ?_
  (with_reducible apply hx_pv); · (with_reducible apply pv_bin); (· with_reducible exact pv_int); (· (with_reducible apply pv_bin); (· (with_reducible apply pv_item); (· kernel_rfl); (· exact pv_name (by kernel_rfl) (by with_unfolding_all rfl)); (· with_reducible exact pv_int); · (with_reducible apply pv_itemC); (· with_reducible assumption); (· decide); · assumption); (· with_reducible exact pv_int); · (with_reducible apply pv_mod); assumption); · with_reducible exact pv_add
  refine seq_next (hx_cons ?_)
  refine hs_assign (by kernel_rfl) (by kernel_rfl) ?_
  refine hx_call rfl ?_
  refine hx_pv (pv_glob (by kernel_rfl) (by with_unfolding_all rfl)) ?_
  refine hx_args1 rfl ?_
  refine hx_pv (pv_name (by kernel_rfl) (by with_unfolding_all rfl)) ?_
  refine hx_args1 rfl ?_
  refine hx_pv (pv_name (by kernel_rfl) (by with_unfolding_all rfl)) ?_
  refine hx_args0 (hx_callF rfl ?_)
  rw [hsz]
  refine needs1_run hc hcll hs fun di pl σ₄ e4 N => ?_
  have hT := e4.get hT
  have hc := e4.get hc
  clear e4 hsz
  have hsm : small ((s : Int) - 1) = true := by rw [show (s : Int) - 1 = ((s - 1 : Nat) : Int) from (Int.ofNat_sub (m := 1) (Nat.le_trans (by decide) hs.1)).symm]; exact sm (Nat.lt_of_le_of_lt (Nat.le_trans (Nat.sub_le ..) hs.2) (by decide))
  have hsm3 : (small ((s : Int) - 1) && small 0 && small (-1) && (-1 : Int) != 0) = true := by rw [hsm]; decide
  refine seq_next (hx_cons ?_)
  (with_reducible apply assign_comp); (· kernel_rfl); · kernel_rfl
  refine hx_call rfl ?_
  refine hx_pv (pv_glob (by kernel_rfl) (by with_unfolding_all rfl)) ?_
  refine hx_args1 rfl ?_
  (with_reducible apply hx_pv); · (with_reducible apply pv_bin); (· exact pv_name (by kernel_rfl) (by with_unfolding_all rfl)); (· with_reducible exact pv_int); · with_reducible exact pv_sub
  refine hx_args1 rfl ?_
  refine hx_pv pv_int ?_
  refine hx_args1 rfl ?_
  (with_reducible apply hx_pv); · (with_reducible apply pv_neg); with_reducible exact pv_int
  refine hx_args0 (hx_callT ?_)
  (with_reducible apply hx_range3); · assumption
  (with_reducible apply runComp_range); (· with_reducible exact st_new); · assumption
  rw [down0_items hs]
  have hT5 := st_old (t := [AO.range ((s : Int) - 1) 0 (-1)]) hT
  refine hx_compItems2 (B := []) (I := fun a r σ' => (Ext σ₄ σ' ∧ σ'[σ₄.length]? = some (.range ((s : Int) - 1) 0 (-1))) ∧ ∃ pre post, List.range (s - 1) = pre ++ post ∧ r = post.map (fun (i : Nat) => Item.one (.int ((s - 1 - i : Nat) : Int))) ∧ a = natsV (pre.flatMap fun i => List.range (s - 1 - i)))
    (by kernel_rfl) (fun a r σ' h => ⟨h.1.2, ?_⟩) (fun a x r σ' h => ?_) _ _ _ ⟨⟨Ext.refl.app, st_new⟩, [], List.range (s - 1), rfl, rfl, rfl⟩ Sub.nil fun vs σ₅ bs' h _ => ?_
  · obtain ⟨_, pre, post, h1, _, rfl⟩ := h
    have h2 := congrArg List.length h1
    rw [List.length_range, List.length_append] at h2
    rw [natsV_len]
    have h3 := stair_part (s := s) pre
    have h4 : pre.length * s ≤ 6 * 6 := Nat.mul_le_mul (by lia) hs.2
    lia
  · obtain ⟨⟨he, hrg⟩, pre, post, h1, h2, rfl⟩ := h
    cases post with
    | nil => cases h2
    | cons i post =>
      rw [List.map_cons] at h2
      injection h2 with h2 h3
      subst h2 h3
      refine ⟨_, .one (by kernel_rfl), ?_⟩
      have hsm4 : small ((s - 1 - i : Nat) : Int) = true := sm (Nat.lt_of_le_of_lt (Nat.le_trans (Nat.sub_le ..) (Nat.le_trans (Nat.sub_le ..) hs.2)) (by decide))
      have hsm5 : (small 0 && small ((s - 1 - i : Nat) : Int) && small 1 && (1 : Int) != 0) = true := by rw [hsm4]; decide
      refine hx_call rfl ?_
      refine hx_pv (pv_glob (by kernel_rfl) (by with_unfolding_all rfl)) ?_
      refine hx_args1 rfl ?_
      refine hx_pv (pv_name (by kernel_rfl) (by with_unfolding_all rfl)) ?_
      refine hx_args0 (hx_callT ?_)
      (with_reducible apply hx_range1); · assumption
      refine ⟨_, _, _, rfl, .range st_new hsm5, ?_⟩
      rw [range_items]
      refine hx_compN (ι := Nat) (fun i => .int i) (fun _ => true) (fun i => .int i) (by kernel_rfl) (by with_unfolding_all rfl) st_new (fun i hi => pv_tests0) (fun i hi _ => ?_) fun bs' => ?_
      · exact pv_name (by kernel_rfl) (by with_unfolding_all rfl)
      rw [filt_true]
      refine ⟨Sub.nil, ⟨he.app, st_old hrg⟩, pre ++ [i], post, by rw [h1]; simp, rfl, ?_⟩
      rw [List.flatMap_append, natsV_app, List.flatMap_singleton]
      rfl
  obtain ⟨⟨e5, hrg⟩, pre, post, h1, h2, rfl⟩ := h
  cases post with
  | cons i post => cases h2
  | nil =>
  rw [List.append_nil] at h1
  subst h1
  show NewC (natsV (stair s)) _ _ _
  have hst16 := stair_len s (size_in hs)
  have hT := e5.get hT
  have hc := e5.get hc
  have N := N.ext e5
  clear hT5 hrg e5 h2
  refine hx_newC (by rw [natsV_len]; lia) ?_
  have hL := st_new (σ := σ₅) (o := AO.list (natsV (stair s)))
  have hT := st_old (t := [AO.list (natsV (stair s))]) hT
  have hc := st_old (t := [AO.list (natsV (stair s))]) hc
  have N := N.ext (Ext.refl.app (t := [AO.list (natsV (stair s))]))
  generalize σ₅ ++ [AO.list (natsV (stair s))] = σ₆ at hL hT hc N ⊢
  generalize σ₅.length = la at hL ⊢
  refine seq_next (hx_cons ?_)
  refine hs_assign (by kernel_rfl) (by kernel_rfl) ?_
  refine hx_call rfl ?_
  refine hx_pv (pv_glob (by kernel_rfl) (by with_unfolding_all rfl)) ?_
  refine hx_args1 rfl ?_
  refine hx_pv (pv_name (by kernel_rfl) (by with_unfolding_all rfl)) ?_
  refine hx_args0 (hx_callF rfl ?_)
  refine meet_run hL hst16 fun mi pm σ₇ e7 M => ?_
  have hT := e7.get hT
  have hc := e7.get hc
  have hL := e7.get hL
  have N := N.ext e7
  clear e7
  refine seq_next ?_
  refine Hx.sub (law_half hs hc hc6 hL N M hT) ?_
  refine Sub.cons (by with_unfolding_all rfl) ?_; refine Sub.cons (by with_unfolding_all rfl) ?_; refine Sub.cons (by with_unfolding_all rfl) ?_; refine Sub.cons (by with_unfolding_all rfl) ?_; refine Sub.cons (by with_unfolding_all rfl) ?_; with_reducible exact Sub.nil

end Mine.H
end
theorem PySem.Challenge.cw_op0154_01_holds : PySem.Challenge.rw_op0154_01.Holds :=
  Mine.top_ok fun ns hn => Mine.H.law_walk (σ₀ := [.flist ns, .tab 1 181]) hn rfl rfl
